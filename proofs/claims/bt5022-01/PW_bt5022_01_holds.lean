import PyProof.Rows.All
import Wide.All
import OpenK.AllK
import Wide.FinOn
import PySem.Challenge.RW_bt5022_01
open PySem PySem.W PyProof.Rows
set_option Elab.async false
set_option maxRecDepth 100000
set_option maxHeartbeats 8000000

-- part Head
namespace Mine
open_top hd for PySem.Challenge.rw_bt5022_01
end Mine

-- part B1
namespace Mine
theorem walk_off_B1 : True := by w_top off; trivial

noncomputable abbrev Pr : Program := PySem.Challenge.rw_bt5022_01.row.prog

/-- what holds at every call of the text's functions -/
structure Ok (w : World) (A : Around) (h : Heap) (n u : Nat) : Prop where
  K : (Mine.hd.heap_39 w.params).In h
  T : ∃ mg mb mean, Top Mine.hd.view_39 (looseW Mine.hd.view_39 [Str.ofString "OOBTree", Str.ofString "OOBucket"]) mean mg mb h
  hand : A.handled = none
  depth : A.depth ≤ n
  units : A.units ≤ u
  below : ∃ base outer A₀, Below A₀ base outer h ∧ A.frames = some outer

section
variable {prog : Program} {w : World} {A : Around} {s : Shared}
  {R : Result → Shared → Prop} {name qual : Str} {params : Arguments} {body : List Stmt} {scope : Scope} {cl : List (Str × Addr)} {dV kV doc pm cdv ct : Value} {an : Option Addr} {f : Addr} {K : Frag} {oc : Value} {od : Option Addr} {osl : Array (Option Value)} {args : Args} {binds : List (Str × Value)}

theorem enter (hlim : s.heap.NoLimit) (X : K.In s.heap) (ho : K.lookup f = some ⟨oc, od, .func (fnX name qual params body scope cl dV kV doc pm an cdv ct), osl⟩) (hcd : codeIn K cdv qual = true) (hroom : A.depth < recursionLimit)
    (hbind : BindsTo s (fnX name qual params body scope cl dV kV doc pm an cdv ct) args binds) (hloc : ∀ y ∈ binds, scope.names.lookup y.1 = some .local)
    (h : ∀ L' h₁, Fr s.heap L' h₁ (fun y => binds.reverse.lookup y) → 
      wpAny (model prog w) (A.deeper (envX qual scope L' f cdv cl)) (execs body (envX qual scope L' f cdv cl))
        (fun fl s' => R (.ok (.ret (match fl with | .ret v => v | _ => .none))) s')
        (fun e s' => wpAny (model prog w) (A.deeper (envX qual scope L' f cdv cl)) (leaving (envX qual scope L' f cdv cl) e) (fun _ s'' => R (.error e) s'') (fun e' s'' => R (.error e') s'') s')
        { s with heap := h₁, toks := s.toks + binds.length })
    (hcell : ∀ x ∈ scope.names, x.2 ≠ .cell) (hco : scope.isCoroutine = false := by rfl) (hgen : scope.isGenerator = false := by rfl) (hk : scope.kind = .function := by rfl) : codeAny (model prog w) A (.call (.ref f) args) R s := by
  refine codeAny_call_def (fd := fnX name qual params body scope cl dV kV doc pm an cdv ct) (body := body) (binds := binds) hroom (X _ _ ho) rfl hlim (codeRec_of X hcd) rfl hbind hcell hloc (fun h₁ hns hk₁ => ?_) hco hgen hk
  exact h s.heap.objs.size h₁ ⟨hns, hk₁, Nat.le_refl _⟩
end
end Mine

-- part T1
namespace Mine
theorem walk_off_T1 : True := by w_top off; trivial

theorem fill : (fun w : World => Mine.hd.heap_39 w.params) = (fun w => Mine.hd.heap_39 w.params) ∧ Challenge.rw_bt5022_01 = Challenge.rw_bt5022_01 := by k_fill; exact ⟨rfl, rfl⟩

inductive All2 {α β : Type} (R : α → β → Prop) : List α → List β → Prop
  | nil : All2 R [] []
  | cons {a : α} {b : β} {l : List α} {m : List β} : R a b → All2 R l m → All2 R (a :: l) (b :: m)

/-- the class's facts, computed once -/
theorem K_mro (w : World) : mroIn (Mine.hd.heap_39 w.params) 46 (.type "dict") = some true := by k_is
theorem K_ga (w : World) : findIn (Mine.hd.heap_39 w.params) (.ref 46) "__getattribute__" = some (some (.builtin "dict.__getattribute__")) := by k_is
theorem K_getitem (w : World) : findIn (Mine.hd.heap_39 w.params) (.ref 46) "__getitem__" = some (some (.builtin "dict.__getitem__")) := by k_is
theorem K_setitem (w : World) : findIn (Mine.hd.heap_39 w.params) (.ref 46) "__setitem__" = some (some (.builtin "dict.__setitem__")) := by k_is
theorem K_contains (w : World) : findIn (Mine.hd.heap_39 w.params) (.ref 46) "__contains__" = some (some (.builtin "dict.__contains__")) := by k_is
theorem K_len (w : World) : findIn (Mine.hd.heap_39 w.params) (.ref 46) "__len__" = some (some (.builtin "dict.__len__")) := by k_is
theorem K_missing (w : World) : findIn (Mine.hd.heap_39 w.params) (.ref 46) "__missing__" = some none := by k_is
theorem K_deque (w : World) : mroIn (Mine.hd.heap_39 w.params) 46 (.type "collections.deque") = some false := by k_is
theorem K_od (w : World) : mroIn (Mine.hd.heap_39 w.params) 46 (.type "collections.OrderedDict") = some false := by k_is

section
variable {prog : Program} {w : World} {A : Around} {E : Value → Shared → Prop} {s : Shared} {x : Addr} {ox : Obj}

theorem looks_type {M : Model} {h : Heap} (hx : h.get? x = some ox) (hc : ox.cls = .ref 46) : Looks M h (typeOf (.ref x)) (.ref 46) := hc ▸ (Looks.ld hx).andThen .now
theorem looks_isDict {M : Model} {h : Heap} (X : (Mine.hd.heap_39 w.params).In h) (hx : h.get? x = some ox) (hc : ox.cls = .ref 46) {b : Value} {r : Bool} (e : mroIn (Mine.hd.heap_39 w.params) 46 b = some r) :
    Looks M h (isInstance (.ref x) b) r := (looks_type hx hc).andThen (looks_mroIn X e)
theorem looks_special {M : Model} {h : Heap} (X : (Mine.hd.heap_39 w.params).In h) (hx : h.get? x = some ox) (hc : ox.cls = .ref 46) {name : Str} {r : Option Value} (e : findIn (Mine.hd.heap_39 w.params) (.ref 46) name = some r) :
    Looks M h (specialOf (.ref x) name) r := (looks_type hx hc).andThen (looks_findIn X e)

theorem check_sub {id n : String} {rest : List Value} {kw : List (Str × Value)} {Q : Unit → Shared → Prop} (X : (Mine.hd.heap_39 w.params).In s.heap) (hx : s.heap.get? x = some ox) (hc : ox.cls = .ref 46)
    (hsplit : splitId id = some ("dict", n))
    (hkind : (Manifest.find? "dict").bind (·.attrs.lookup n) = some .slot ∨ (Manifest.find? "dict").bind (·.attrs.lookup n) = some .method)
    (ha : argsOk id ⟨.ref x :: rest, kw⟩) (hq : Q () s) : wpAny (model prog w) A (checkBuiltinCall id ⟨.ref x :: rest, kw⟩) Q E s := by
  have hk : builtinKind id = (Manifest.find? "dict").bind (·.attrs.lookup n) := by simp only [builtinKind, hsplit]
  obtain ⟨hh, g, d, t, os⟩ := s
  have L := looks_isDict (M := model prog w) X hx hc (K_mro w)
  rcases hkind with h | h <;>
  · simp only [checkBuiltinCall, hk, h, hsplit]
    refine wpAny_bind (L.at ?_)
    simp only [Bool.not_true, Bool.false_eq_true, if_false]
    cases hsig : Manifest.signature? id with
    | none => exact wpAny_pure hq
    | some sig =>
      simp only [argsOk, hsig] at ha
      have h2 : Bind.checkArgs id sig ⟨.ref x :: rest, kw⟩ = pure () := ha
      show wpAny _ A (Bind.checkArgs id sig ⟨.ref x :: rest, kw⟩) Q E _
      rw [h2]; exact wpAny_pure hq

theorem call_sub {id n : String} {b : Builtin} {rest : List Value} {Q : Value → Shared → Prop} (X : (Mine.hd.heap_39 w.params).In s.heap) (hx : s.heap.get? x = some ox) (hc : ox.cls = .ref 46)
    (hsplit : splitId id = some ("dict", n))
    (hkind : (Manifest.find? "dict").bind (·.attrs.lookup n) = some .slot ∨ (Manifest.find? "dict").bind (·.attrs.lookup n) = some .method)
    (hp : plainId id = true) (hb : entryFor table id = some b) (ha : argsOk id ⟨.ref x :: rest, []⟩)
    (h : wpAny (model prog w) A.in1 (b ⟨.ref x :: rest, []⟩) (fun fin s' => ∃ v, fin = .done (.ret v) ∧ Q v s') E s) :
    wpAny (model prog w) A (call (.builtin id) (.ref x :: rest)) Q E s := by
  refine wpAny_call (codeAny_call_builtin hp hb (check_sub X hx hc hsplit hkind ha (wpAny_mono h (fun fin s' h' => ?_) fun _ _ h' => h')))
  obtain ⟨v, rfl, hv⟩ := h'; exact hv

/-- a slot of dict's, found along the class -/
theorem special_sub {id n : String} {b : Builtin} {name : Str} {rest : List Value} {Q : Option Value → Shared → Prop} (X : (Mine.hd.heap_39 w.params).In s.heap) (hx : s.heap.get? x = some ox) (hc : ox.cls = .ref 46)
    (e : findIn (Mine.hd.heap_39 w.params) (.ref 46) name = some (some (.builtin id))) (hbind : bindSpecial (.builtin id) (.ref x) = pure (.builtin id, [.ref x]))
    (hsplit : splitId id = some ("dict", n))
    (hkind : (Manifest.find? "dict").bind (·.attrs.lookup n) = some .slot ∨ (Manifest.find? "dict").bind (·.attrs.lookup n) = some .method)
    (hp : plainId id = true) (hb : entryFor table id = some b) (ha : argsOk id ⟨.ref x :: rest, []⟩)
    (h : wpAny (model prog w) A.in1 (b ⟨.ref x :: rest, []⟩) (fun fin s' => ∃ v, fin = .done (.ret v) ∧ Q (some v) s') E s) :
    wpAny (model prog w) A (callSpecial? (.ref x) name rest) Q E s := by
  have hcall := call_sub (prog := prog) (Q := fun v => Q (some v)) X hx hc hsplit hkind hp hb ha h
  obtain ⟨hh, g, d, t, os⟩ := s
  have L := looks_special (M := model prog w) X hx hc e
  simp only [callSpecial?]
  refine wpAny_bind (L.at ?_)
  simp only [hbind]
  exact wpAny_holding (wpAny_bind (wpAny_pure (wpAny_bind (wpAny_mono hcall (fun v s' h' => wpAny_pure h') fun _ _ h' => h'))))
end
end Mine

-- part T2
namespace Mine
theorem walk_off_T2 : True := by w_top off; trivial

section
variable {α β γ : Type} {R : α → β → Prop}
theorem All2.length {l : List α} {m : List β} (h : All2 R l m) : l.length = m.length := by
  induction h with | nil => rfl | cons _ _ ih => simp [ih]
theorem All2.imp {S : α → β → Prop} {l : List α} {m : List β} (h : All2 R l m) (f : ∀ a b, R a b → S a b) : All2 S l m := by
  induction h with | nil => exact .nil | cons r _ ih => exact .cons (f _ _ r) ih
theorem All2.split : ∀ {l : List α} {m1 m2 : List β} {b : β}, All2 R l (m1 ++ b :: m2) → ∃ l1 a l2, l = l1 ++ a :: l2 ∧ All2 R l1 m1 ∧ R a b ∧ All2 R l2 m2
  | _, [], _, _, .cons r h => ⟨[], _, _, rfl, .nil, r, h⟩
  | _, _ :: _, _, _, .cons r h => let ⟨l1, a, l2, e, h1, r1, h2⟩ := h.split; ⟨_ :: l1, a, l2, by rw [e]; rfl, .cons r h1, r1, h2⟩
theorem All2.append : ∀ {l1 l2 : List α} {m1 m2 : List β}, All2 R l1 m1 → All2 R l2 m2 → All2 R (l1 ++ l2) (m1 ++ m2)
  | _, _, _, _, .nil, h => h
  | _, _, _, _, .cons r h1, h => .cons r (h1.append h)
theorem All2.of_append : ∀ {l : List α} {m1 m2 : List β}, All2 R l (m1 ++ m2) → ∃ l1 l2, l = l1 ++ l2 ∧ All2 R l1 m1 ∧ All2 R l2 m2
  | l, [], _, h => ⟨[], l, rfl, .nil, h⟩
  | _, _ :: _, _, .cons r h => let ⟨l1, l2, e, h1, h2⟩ := h.of_append; ⟨_ :: l1, l2, by rw [e]; rfl, .cons r h1, h2⟩
theorem All2.mem_left {l : List α} {m : List β} (h : All2 R l m) : ∀ a ∈ l, ∃ b ∈ m, R a b := by
  induction h with
  | nil => intro _ h; cases h
  | cons r _ ih =>
    intro x hx
    rcases List.mem_cons.mp hx with rfl | hx
    · exact ⟨_, .head _, r⟩
    · obtain ⟨b, hb, hr⟩ := ih x hx; exact ⟨b, .tail _ hb, hr⟩
theorem All2.mem_right {l : List α} {m : List β} (h : All2 R l m) : ∀ b ∈ m, ∃ a ∈ l, R a b := by
  induction h with
  | nil => intro _ h; cases h
  | cons r _ ih =>
    intro x hx
    rcases List.mem_cons.mp hx with rfl | hx
    · exact ⟨_, .head _, r⟩
    · obtain ⟨b, hb, hr⟩ := ih x hx; exact ⟨b, .tail _ hb, hr⟩
theorem All2.nil_right {l : List α} (h : All2 R l []) : l = [] := by cases h; rfl
theorem All2.get? {l : List α} {m : List β} (h : All2 R l m) : ∀ (i : Nat) (b : β), m[i]? = some b → ∃ a, l[i]? = some a ∧ R a b := by
  induction h with
  | nil => intro i b hb; cases hb
  | cons r _ ih =>
    intro i b hb
    cases i with
    | zero => cases hb; exact ⟨_, rfl, r⟩
    | succ i => simpa using ih i b (by simpa using hb)
end

section
variable {prog : Program} {w : World} {K : Type} [DecidableEq K] (knd : PySem.KeyKind prog w K)

def EntryIs (e : DictEntry) (p : K × Int) : Prop := knd.is p.1 e.key = true ∧ e.hash = knd.hash p.1 ∧ ∃ t, e.val = .int p.2 t
abbrev treeObj (dx : Addr) (es : List DictEntry) (n : Nat) : Obj := ⟨.ref 46, some dx, .dict es.toArray n, #[]⟩
def Ents (es : List DictEntry) (kvs : List (K × Int)) : Prop := All2 (EntryIs knd) es kvs

variable {knd}
theorem Ents.keysOf {es : List DictEntry} {kvs : List (K × Int)} (h : Ents knd es kvs) : PySem.KeysOf knd es.toArray := fun e he => by
  obtain ⟨p, _, h1, h2, _⟩ := h.mem_left e (by simpa using he)
  exact ⟨p.1, h1, h2⟩
theorem EntryIs.is_eq {e : DictEntry} {p : K × Int} (h : EntryIs knd e p) (k : K) : knd.is k e.key = decide (k = p.1) := PySem.KeyKind.is_eq_decide h.1 k

theorem Ents.find_none {es : List DictEntry} {kvs : List (K × Int)} (h : Ents knd es kvs) {k : K} (hk : ∀ p ∈ kvs, p.1 ≠ k) : (es.toArray.findIdx? fun e => knd.is k e.key) = none := by
  rw [Array.findIdx?_eq_none_iff]
  intro e he
  obtain ⟨p, hp, hr⟩ := h.mem_left e (by simpa using he)
  rw [hr.is_eq]
  exact decide_eq_false fun q => hk p hp q.symm

theorem Ents.find_some {e1 e2 : List DictEntry} {e : DictEntry} {l1 : List (K × Int)} {p : K × Int} (h1 : Ents knd e1 l1) (hr : EntryIs knd e p) (hk : ∀ q ∈ l1, q.1 ≠ p.1) :
    ((e1 ++ e :: e2).toArray.findIdx? fun e => knd.is p.1 e.key) = some e1.length := by
  rw [Array.findIdx?_eq_some_iff_getElem]
  refine ⟨by simp, ?_, fun j hj => ?_⟩
  · simp [hr.is_eq]
  · have hj1 : j < e1.length := by simpa using hj
    obtain ⟨q, hq, hq'⟩ := h1.mem_left e1[j] (List.getElem_mem hj1)
    have : knd.is p.1 e1[j].key = false := by rw [hq'.is_eq]; exact decide_eq_false fun z => hk q hq z.symm
    simp [List.getElem_append_left hj1, this]
end
end Mine

-- part T3
namespace Mine
theorem walk_off_T3 : True := by w_top off; trivial
theorem modify_mid {α : Type} (a : α) (l2 : List α) (f : α → α) : ∀ l1 : List α, (l1 ++ a :: l2).modify l1.length f = l1 ++ f a :: l2
  | [] => by simp [List.modify]
  | b :: l1 => by simpa [List.modify] using modify_mid a l2 f l1

section
variable {prog : Program} {w : World} {K : Type} [DecidableEq K] {knd : PySem.KeyKind prog w K} {A : Around} {E : Value → Shared → Prop} {s : Shared} {x dx : Addr} {es : List DictEntry} {n : Nat}
  {kvs l1 l2 : List (K × Int)} {p : K × Int} {k : K} {key : Value}

theorem dictGet_hit {Q : Option Value → Shared → Prop} (hx : s.heap.get? x = some (treeObj dx es n)) (he : Ents knd es (l1 ++ p :: l2)) (hn : ∀ q ∈ l1, q.1 ≠ p.1) (hkey : knd.is p.1 key = true)
    (h : ∀ t, Q (some (.int p.2 t)) { s with toks := s.toks + 1 }) : wpAny (model prog w) A (dictGet x key) Q E s := by
  obtain ⟨e1, e, e2, rfl, h1, hr, h2⟩ := All2.split he
  unfold dictGet
  try with_reducible refine wpAny_holding ?_
  refine wpAny_bind (knd.pyHash hkey (wpAny_bind (wpAny_dictFind_of (s := { s with toks := s.toks + 1 }) hkey hx rfl he.keysOf ?_)))
  rw [Ents.find_some h1 hr hn]
  refine wpAny_bind (wpAny_dictEntries (s := { s with toks := s.toks + 1 }) hx rfl ?_)
  obtain ⟨_, _, t, ht⟩ := hr
  refine wpAny_pure ?_
  have : (e1 ++ e :: e2).toArray[e1.length]? = some e := by simp
  rw [this, Option.map_some, ht]
  exact h t

theorem dictGet_miss {Q : Option Value → Shared → Prop} (hx : s.heap.get? x = some (treeObj dx es n)) (he : Ents knd es kvs) (hn : ∀ q ∈ kvs, q.1 ≠ k) (hkey : knd.is k key = true)
    (h : Q none { s with toks := s.toks + 1 }) : wpAny (model prog w) A (dictGet x key) Q E s := by
  unfold dictGet
  try with_reducible refine wpAny_holding ?_
  refine wpAny_bind (knd.pyHash hkey (wpAny_bind (wpAny_dictFind_of (s := { s with toks := s.toks + 1 }) hkey hx rfl he.keysOf ?_)))
  rw [Ents.find_none he hn]
  exact wpAny_pure h

theorem sequenceKey_sub {name : Str} {Q : Value → Shared → Prop} (X : (Mine.hd.heap_39 w.params).In s.heap) (hx : s.heap.get? x = some (treeObj dx es n)) (h : Q key s) :
    wpAny (model prog w) A (sequenceKey (.ref x) key name) Q E s := by
  obtain ⟨hh, g, d, t, os⟩ := s
  unfold sequenceKey
  refine wpAny_bind ((looks_type (M := model prog w) hx rfl).at ?_)
  show wpAny _ _ (seqItemTypes.anyM (fun n => isSubtype (.ref 46) (.type n)) >>= _) _ _ _
  refine wpAny_bind ?_
  unfold seqItemTypes
  show wpAny _ _ (isSubtype (.ref 46) (.type "collections.deque") >>= _) _ _ _
  exact wpAny_bind ((looks_mroIn (M := model prog w) X (K_deque w)).at (wpAny_pure (wpAny_pure h)))

theorem getItem_hit {Q : Value → Shared → Prop} (X : (Mine.hd.heap_39 w.params).In s.heap) (hx : s.heap.get? x = some (treeObj dx es n)) (he : Ents knd es (l1 ++ p :: l2)) (hn : ∀ q ∈ l1, q.1 ≠ p.1) (hkey : knd.is p.1 key = true)
    (h : ∀ t, Q (.int p.2 t) { s with toks := s.toks + 1 }) : wpAny (model prog w) A (getItem (.ref x) key) Q E s := by
  unfold getItem
  try with_reducible refine wpAny_holding ?_
  refine wpAny_bind (sequenceKey_sub X hx ?_)
  refine wpAny_bind (special_sub (n := "__getitem__") X hx rfl (K_getitem w) (slot_dict_getitem.bind _) (by decide +kernel) (by decide +kernel) slot_dict_getitem.plain entry_dict_getitem (args_dict_getitem _ _) ?_)
  show wpAny _ _ (dictGet x key >>= _) _ _ s
  refine wpAny_bind (dictGet_hit hx he hn hkey fun t => ?_)
  exact wpAny_pure ⟨_, rfl, wpAny_pure (h t)⟩

theorem getItem_miss {Q : Value → Shared → Prop} (X : (Mine.hd.heap_39 w.params).In s.heap) (hx : s.heap.get? x = some (treeObj dx es n)) (hlo : (x == sysModules) = false) (hh : A.handled = none) (he : Ents knd es kvs) (hn : ∀ q ∈ kvs, q.1 ≠ k) (hkey : knd.is k key = true)
    (h : ∀ h' e, Heap.NewExc s.heap h' e "KeyError" → E (.ref e) { s with heap := h', toks := s.toks + 1 }) : wpAny (model prog w) A (getItem (.ref x) key) Q E s := by
  unfold getItem
  try with_reducible refine wpAny_holding ?_
  refine wpAny_bind (sequenceKey_sub X hx ?_)
  refine wpAny_bind (special_sub (n := "__getitem__") X hx rfl (K_getitem w) (slot_dict_getitem.bind _) (by decide +kernel) (by decide +kernel) slot_dict_getitem.plain entry_dict_getitem (args_dict_getitem _ _) ?_)
  show wpAny _ _ (dictGet x key >>= _) _ _ s
  refine wpAny_bind (dictGet_miss hx he hn hkey ?_)
  show wpAny _ _ (Builtin.Dict.missed x key >>= _) _ _ _
  refine wpAny_bind (wpAny_missed_other hlo ?_)
  obtain ⟨hp, g, d, t, os⟩ := s
  refine wpAny_bind ((looks_type (M := model prog w) hx rfl).at ?_)
  show wpAny _ _ (if (Value.ref 46 != Value.type "dict") = true then _ else _) _ _ _
  rw [if_pos (by decide)]
  refine wpAny_bind ?_
  unfold callSpecial?
  refine wpAny_bind ((looks_special (M := model prog w) X hx rfl (K_missing w)).at (wpAny_pure ?_))
  exact wpAny_bind (wpAny_rule (wpAny_raise_newExc (A := A.in1) plainExc_KeyError hh h))

theorem contains_sub {Q : Bool → Shared → Prop} (X : (Mine.hd.heap_39 w.params).In s.heap) (hx : s.heap.get? x = some (treeObj dx es n)) (hlo : (x == sysModules) = false) (he : Ents knd es kvs) (hkey : knd.is k key = true)
    (hcase : (∃ l1 v l2, kvs = l1 ++ (k, v) :: l2 ∧ ∀ q ∈ l1, q.1 ≠ k) ∧ Q true { s with toks := s.toks + 1 } ∨ (∀ q ∈ kvs, q.1 ≠ k) ∧ Q false { s with toks := s.toks + 1 }) : wpAny (model prog w) A (contains (.ref x) key) Q E s := by
  unfold contains
  try with_reducible refine wpAny_holding ?_
  have hcall : ∀ {Q' : Value → Shared → Prop}, (∀ b, Q b { s with toks := s.toks + 1 } → Q' (.bool b) { s with toks := s.toks + 1 }) → wpAny (model prog w) A (call (.builtin "dict.__contains__") [.ref x, key]) Q' E s := by
    intro Q' hQ'
    refine call_sub (n := "__contains__") X hx rfl (by decide +kernel) (by decide +kernel) slot_dict_contains.plain entry_dict_contains (args_dict_contains _ _) ?_
    show wpAny _ _ (dictGet x key >>= _) _ _ s
    rcases hcase with ⟨⟨l1, v, l2, rfl, hn⟩, q⟩ | ⟨hn, q⟩
    · refine wpAny_bind (dictGet_hit (p := (k, v)) hx he hn hkey fun t => ?_)
      show wpAny _ _ (ret (.bool true)) _ _ _
      exact wpAny_pure ⟨_, rfl, hQ' _ q⟩
    · refine wpAny_bind (dictGet_miss hx he hn hkey ?_)
      show wpAny _ _ (Builtin.Dict.pendingKey? x key >>= _) _ _ _
      exact wpAny_bind (wpAny_pendingKey_other hlo (wpAny_pure ⟨_, rfl, hQ' _ q⟩))
  obtain ⟨hp, g, d, t, os⟩ := s
  have L := looks_special (M := model prog w) X hx rfl (K_contains w)
  refine wpAny_bind (L.at ?_)
  show wpAny _ _ (if (some (Value.builtin "dict.__contains__") == some Value.none) = true then _ else _) _ E _
  rw [if_neg (by rw [beq_builtin_none]; exact Bool.false_ne_true)]
  refine wpAny_bind ?_
  unfold callSpecialUnlessNone?
  refine wpAny_bind (L.at ?_)
  simp only [slot_dict_contains.bind]
  refine wpAny_holding (wpAny_bind (wpAny_pure ?_))
  show wpAny _ _ (if (Value.builtin "dict.__contains__" == Value.none) = true then _ else _) _ _ _
  rw [if_neg (by decide)]
  refine wpAny_bind (hcall fun b q => ?_)
  exact wpAny_pure (wpAny_truthy_bool q)

theorem in_sub {Q : Value → Shared → Prop} (X : (Mine.hd.heap_39 w.params).In s.heap) (hx : s.heap.get? x = some (treeObj dx es n)) (hlo : (x == sysModules) = false) (he : Ents knd es kvs) (hkey : knd.is k key = true)
    (hn : ∀ q ∈ kvs, q.1 ≠ k) (h : Q (.bool false) { s with toks := s.toks + 1 }) : wpAny (model prog w) A (compareOp .In key (.ref x)) Q E s := by
  show wpAny _ _ (do return .bool (← contains (.ref x) key)) Q E s
  exact wpAny_bind (contains_sub X hx hlo he hkey (.inr ⟨hn, wpAny_pure h⟩))
theorem notin_sub {v : Int} {Q : Value → Shared → Prop} (X : (Mine.hd.heap_39 w.params).In s.heap) (hx : s.heap.get? x = some (treeObj dx es n)) (hlo : (x == sysModules) = false) (he : Ents knd es (l1 ++ (k, v) :: l2)) (hkey : knd.is k key = true)
    (hn : ∀ q ∈ l1, q.1 ≠ k) (h : Q (.bool false) { s with toks := s.toks + 1 }) : wpAny (model prog w) A (compareOp .NotIn key (.ref x)) Q E s := by
  show wpAny _ _ (do return .bool (!(← contains (.ref x) key))) Q E s
  exact wpAny_bind (contains_sub X hx hlo he hkey (.inl ⟨⟨_, _, _, rfl, hn⟩, wpAny_pure h⟩))

theorem notOrdered_sub {name : String} {args : Args} {Q : Unit → Shared → Prop} (X : (Mine.hd.heap_39 w.params).In s.heap) (hx : s.heap.get? x = some (treeObj dx es n)) (ha : args.pos.headD .none = .ref x) (h : Q () s) :
    wpAny (model prog w) A (Builtin.Dict.notOrdered name args) Q E s := by
  unfold Builtin.Dict.notOrdered
  rw [ha]
  obtain ⟨hp, g, d, t, os⟩ := s
  split
  · refine wpAny_bind ((looks_type (M := model prog w) hx rfl).at ?_)
    show wpAny _ _ (if (Value.ref 46 != Value.type "dict") = true then _ else _) _ _ _
    rw [if_pos (by decide)]
    refine wpAny_bind ((looks_isDict (M := model prog w) X hx rfl (K_od w)).at ?_)
    exact wpAny_pure h
  · exact wpAny_pure h

/-- the table with the value set -/
theorem dictSet_hit {v0 v : Int} {tv : Tok} {Q : Unit → Shared → Prop} (hx : s.heap.get? x = some (treeObj dx es n)) (he : Ents knd es (l1 ++ (k, v0) :: l2)) (hn : ∀ q ∈ l1, q.1 ≠ k) (hkey : knd.is k key = true)
    (h : ∀ es' n' h', h'.get? x = some (treeObj dx es' n') → Ents knd es' (l1 ++ (k, v) :: l2) → Heap.SameBut x s.heap h' → Q () { s with heap := h', toks := s.toks + 1 }) :
    wpAny (model prog w) A (dictSet x key (.int v tv)) Q E s := by
  have he0 := he
  obtain ⟨e1, e, e2, rfl, h1, hr, h2⟩ := All2.split he
  unfold dictSet
  try with_reducible refine wpAny_holding ?_
  refine wpAny_bind (knd.pyHash hkey ?_)
  unfold dictSetHashed
  try with_reducible refine wpAny_holding ?_
  refine wpAny_bind (wpAny_dictFind_of (s := { s with toks := s.toks + 1 }) hkey hx rfl he0.keysOf ?_)
  rw [Ents.find_some h1 hr hn]
  refine wpAny_bind (wpAny_rule (wpAny_bind (wpAny_updateDict (s := { s with toks := s.toks + 1 }) hx rfl (wpAny_point ?_))))
  refine h (e1 ++ { e with val := .int v tv } :: e2) n _ ((Heap.get?_update_self _ hx rfl).trans ?_) ?_ (Heap.SameBut.update ..)
  · show some (Obj.mapDict _ (treeObj dx (e1 ++ e :: e2) n)) = _
    simp [Obj.mapDict, treeObj, modify_mid]
  · exact All2.append h1 (.cons ⟨hr.1, hr.2.1, tv, rfl⟩ h2)

theorem dictSet_new {v : Int} {tv : Tok} {Q : Unit → Shared → Prop} (hx : s.heap.get? x = some (treeObj dx es n)) (he : Ents knd es kvs) (hn : ∀ q ∈ kvs, q.1 ≠ k) (hkey : knd.is k key = true) (hlen : kvs.length ≤ 1000)
    (h : ∀ es' n' h', h'.get? x = some (treeObj dx es' n') → Ents knd es' (kvs ++ [(k, v)]) → Heap.SameBut x s.heap h' → Q () { s with heap := h', toks := s.toks + 1 }) :
    wpAny (model prog w) A (dictSet x key (.int v tv)) Q E s := by
  unfold dictSet
  try with_reducible refine wpAny_holding ?_
  refine wpAny_bind (knd.pyHash hkey ?_)
  unfold dictSetHashed
  try with_reducible refine wpAny_holding ?_
  refine wpAny_bind (wpAny_dictFind_of (s := { s with toks := s.toks + 1 }) hkey hx rfl he.keysOf ?_)
  rw [Ents.find_none he hn]
  have hl := All2.length he
  refine wpAny_bind (wpAny_rule (wpAny_updateDictKeys (hz := by rw [List.size_toArray, hl]; exact Nat.le_trans hlen (by decide)) (s := { s with toks := s.toks + 1 }) hx rfl ?_))
  refine h (es ++ [⟨knd.hash k, key, .int v tv⟩]) (n + 1) _ ((Heap.get?_update_self _ hx rfl).trans ?_) ?_ (Heap.SameBut.update ..)
  · show some (Obj.mapDictKeys _ (treeObj dx es n)) = _
    simp [Obj.mapDictKeys, treeObj]
  · exact All2.append he (.cons ⟨hkey, rfl, tv, rfl⟩ .nil)

theorem setItem_sub {v : Value} {Q : Unit → Shared → Prop} (X : (Mine.hd.heap_39 w.params).In s.heap) (hx : s.heap.get? x = some (treeObj dx es n))
    (h : wpAny (model prog w) A.in1 (dictSet x key v) Q E s) : wpAny (model prog w) A (setItem (.ref x) key v) Q E s := by
  unfold setItem
  try with_reducible refine wpAny_holding ?_
  refine wpAny_bind (sequenceKey_sub X hx ?_)
  refine wpAny_bind (special_sub (n := "__setitem__") X hx rfl (K_setitem w) (slot_dict_setitem.bind _) (by decide +kernel) (by decide +kernel) slot_dict_setitem.plain entry_dict_setitem (args_dict_setitem _ _ _) ?_)
  show wpAny _ _ (Builtin.Dict.notOrdered "__setitem__" ⟨[.ref x, key, v], []⟩ >>= _) _ _ s
  refine wpAny_bind (notOrdered_sub X hx rfl ?_)
  show wpAny _ _ (dictSet x key v >>= _) _ _ s
  exact wpAny_bind (wpAny_mono h (fun _ _ q => wpAny_pure ⟨.none, rfl, wpAny_pure q⟩) fun _ _ z => z)
end
end Mine

-- part T4
namespace Mine
theorem walk_off_T4 : True := by w_top off; trivial

/-- the tree object, whatever its instance dict -/
def TreeIs (h : Heap) (x : Addr) (es : List DictEntry) (n : Nat) : Prop := ∃ dx, h.get? x = some (treeObj dx es n)

section
variable {prog : Program} {w : World} {A : Around} {E : Value → Shared → Prop} {s : Shared} {x it d v : Addr} {es : List DictEntry} {n : Nat}

theorem next_item {i : Nat} {e : DictEntry} {Q : Option Value → Shared → Prop} (hit : s.heap.IsKeyIter it x i es.length n) (hm : TreeIs s.heap x es n) (hx : es[i]? = some e)
    (hQ : ∀ h', h'.IsKeyIter it x (i + 1) es.length n → Heap.SameBut it s.heap h' → Q (some e.key) { s with heap := h' }) :
    wpAny (model prog w) A (pyNext (.ref it)) Q E s := by
  obtain ⟨o, ho, hc, hd⟩ := id hit
  obtain ⟨dx, hod⟩ := id hm
  unfold pyNext
  refine wpAny_bind (wpAny_attempt (wpAny_callSpecial?_slot (name := Str.ofString "__next__") hit.typeIs F.slot_dict_keyiterator_next
    (wpAny_call_entry F.slot_dict_keyiterator_next hit.typeIs F.entry_dict_keyiterator_next ?_ (F.args_dict_keyiterator_next_1 _))))
  refine wpAny_bind (wpAny_pure ?_)
  refine wpAny_bind ?_
  refine wpAny_bind ?_
  refine wpAny_bind (wpAny_typeNameOfWhole_keyiter hit.typeIs (wpAny_pure ?_))
  refine wpAny_bind (wpAny_fieldsOf ho hd ?_)
  have hown : Builtin.Dict_items.ownsTuple "dict_keyiterator" = false := by decide
  simp only [hown, Bool.false_eq_true, if_false]
  show wpAny _ _ (if (Value.ref x == Value.none) = true then _ else _) _ _ s
  rw [if_neg (show ¬ ((Value.ref x == Value.none) = true) from Bool.false_ne_true)]
  refine wpAny_bind (wpAny_pure ?_)
  refine wpAny_bind (wpAny_dictEntries hod rfl ?_)
  rw [if_neg (by simp)]
  refine wpAny_bind (wpAny_pure ?_)
  refine wpAny_bind (wpAny_dictEpoch hod rfl ?_)
  rw [if_neg (by simp)]
  refine wpAny_pure ?_
  have hlt : i < es.length := by
    rcases Nat.lt_or_ge i es.length with h | h
    · exact h
    · rw [List.getElem?_eq_none h] at hx; cases hx
  have hget : es.toArray[i]? = some e := by simpa using hx
  simp only [show ¬ ((i : Int) < 0) from by omega, if_false, Int.toNat_natCast, hget]
  refine wpAny_bind ?_
  refine wpAny_bind (wpAny_typeNameOfWhole_keyiter hit.typeIs (wpAny_pure ?_))
  refine wpAny_bind (wpAny_isOneOf_keyiter hit.typeIs ?_)
  show wpAny _ _ (setField (.ref it) 1 (rawInt ((i : Int) + 1)) >>= _) _ _ s
  refine wpAny_bind (wpAny_setField ho hd (by simp) ?_)
  have hit' : (s.heap.update it (Obj.mapFields (·.setIfInBounds 1 (rawInt ((i : Int) + 1))))).IsKeyIter it x (i + 1) es.length n :=
    ⟨_, Heap.get?_update_self _ ho (Obj.isFreed_of_fields (Obj.data_mapFields hd _)), (Obj.cls_mapFields ..).trans hc, by rw [Obj.data_mapFields hd]; simp [rawInt]⟩
  refine wpAny_bind (wpAny_holding ?_)
  refine wpAny_bind (wpAny_isOneOf_keyiter (s := { s with heap := s.heap.update it (Obj.mapFields (·.setIfInBounds 1 (rawInt ((i : Int) + 1)))) }) hit'.typeIs ?_)
  show wpAny _ _ (pure e.key) _ _ _
  exact wpAny_pure (wpAny_pure ⟨_, rfl, wpAny_pure (hQ _ hit' (Heap.SameBut.update ..))⟩)

theorem next_end {i : Nat} {Q : Option Value → Shared → Prop} (hh : A.handled = none) (hit : s.heap.IsKeyIter it x i es.length n) (hm : TreeIs s.heap x es n) (hx : es[i]? = none)
    (hQ : ∀ h', Heap.ExtBut it s.heap h' → Q none { s with heap := h' }) :
    wpAny (model prog w) A (pyNext (.ref it)) Q E s := by
  obtain ⟨o, ho, hc, hd⟩ := id hit
  obtain ⟨dx, hod⟩ := id hm
  unfold pyNext
  refine wpAny_bind (wpAny_attempt (wpAny_callSpecial?_slot (name := Str.ofString "__next__") hit.typeIs F.slot_dict_keyiterator_next
    (wpAny_call_entry F.slot_dict_keyiterator_next hit.typeIs F.entry_dict_keyiterator_next ?_ (F.args_dict_keyiterator_next_1 _))))
  refine wpAny_bind (wpAny_pure ?_)
  refine wpAny_bind ?_
  refine wpAny_bind ?_
  refine wpAny_bind (wpAny_typeNameOfWhole_keyiter hit.typeIs (wpAny_pure ?_))
  refine wpAny_bind (wpAny_fieldsOf ho hd ?_)
  have hown : Builtin.Dict_items.ownsTuple "dict_keyiterator" = false := by decide
  simp only [hown, Bool.false_eq_true, if_false]
  show wpAny _ _ (if (Value.ref x == Value.none) = true then _ else _) _ _ s
  rw [if_neg (show ¬ ((Value.ref x == Value.none) = true) from Bool.false_ne_true)]
  refine wpAny_bind (wpAny_pure ?_)
  refine wpAny_bind (wpAny_dictEntries hod rfl ?_)
  rw [if_neg (by simp)]
  refine wpAny_bind (wpAny_pure ?_)
  refine wpAny_bind (wpAny_dictEpoch hod rfl ?_)
  rw [if_neg (by simp)]
  refine wpAny_pure ?_
  have hget : es.toArray[i]? = none := by simpa using hx
  simp only [show ¬ ((i : Int) < 0) from by omega, if_false, Int.toNat_natCast, hget]
  refine wpAny_bind ?_
  refine wpAny_bind (wpAny_typeNameOfWhole_keyiter hit.typeIs (wpAny_pure ?_))
  show wpAny _ _ (setField (.ref it) 0 .none >>= _) _ _ s
  refine wpAny_bind (wpAny_setField ho hd (by simp) ?_)
  show wpAny _ _ (newExc (.type "StopIteration") [] >>= _) _ _ _
  refine wpAny_bind ?_
  simp only [newExc, newTuple]
  refine wpAny_bind (wpAny_newObj_type ?_ (by size_fits))
  refine wpAny_bind (m := firstArgMember _ _) (wpAny_of_eq (a := Value.none) (by first | rfl | (simp only [firstArgMember]; rfl)) ?_)
  refine wpAny_newObj_type ?_ (by size_fits)
  simp only [raiseNew]
  refine wpAny_bind (wpAny_handled ?_)
  rw [show A.in1.handled = none from hh]
  refine wpAny_bind (wpAny_pure (wpAny_throw ?_))
  refine wpAny_bind (wpAny_isInstance (T := "StopIteration") (b := true) ⟨_, Heap.get?_push_size _ rfl, rfl⟩ isSubtype_stop ?_)
  exact wpAny_pure (hQ _ (((Heap.SameBut.update _ _ _).extBut.push _).push _))

theorem iter_view {Q : Value → Shared → Prop} (hv : KdlKeysView s.heap v x) (hm : TreeIs s.heap x es n)
    (hQ : Q (.ref s.heap.objs.size) { s with heap := s.heap.push { cls := .type "dict_keyiterator", data := .fields #[.ref x, .int 0 0, .int es.length 0, .int n 0] } }) :
    wpAny (model prog w) A (pyIter (.ref v)) Q E s := by
  obtain ⟨ov, hov, hcv, hdv⟩ := id hv
  obtain ⟨dx, ho⟩ := id hm
  refine wpAny_pyIter_slot hv.typeIs kdl_slot_keys_iter (wpAny_call_entry kdl_slot_keys_iter hv.typeIs kdl_entry_keys_iter ?_ (kdl_args_keys_iter _))
  unfold Builtin.«dict_keys.__iter__»
  refine wpAny_bind (wpAny_pure ?_)
  refine wpAny_bind ?_
  unfold Builtin.Dict_items.dictOf
  refine wpAny_bind (wpAny_field hov hdv (x := .ref x) rfl (wpAny_pure ?_))
  refine wpAny_bind ?_
  unfold Builtin.Dict_items.newIterator
  refine wpAny_bind (wpAny_dictEntries ho rfl ?_)
  refine wpAny_bind (wpAny_dictEpoch ho rfl ?_)
  have hown : Builtin.Dict_items.ownsTuple "dict_keyiterator" = false := by decide
  simp only [hown, Bool.false_eq_true, if_false]
  refine wpAny_newObj_type (wpAny_pure ⟨_, rfl, "dict_keyiterator", _, ⟨_, Heap.get?_push_size _ rfl, rfl⟩, PySem.F.slot_dict_keyiterator_next.lookup, ?_⟩)
  simpa [rawInt] using hQ

theorem TreeIs.at {h h' : Heap} (m : TreeIs h x es n) (e : ∀ o, h.get? x = some o → h'.get? x = some o) : TreeIs h' x es n := let ⟨dx, ho⟩ := m; ⟨dx, e _ ho⟩

theorem walks_tree (hh : A.handled = none) (hne : x ≠ it) :
    Walks prog w A it [it, x] [it] es.length (fun i v => ∃ e, es[i]? = some e ∧ v = e.key) (fun i h => h.IsKeyIter it x i es.length n ∧ TreeIs h x es n) where
  sub := fun b hb => by simp at hb; simp [hb]
  frame := fun _ _ _ st hk => ⟨st.1.at fun o e => hk it (by simp) o e, st.2.at fun o e => hk x (by simp) o e⟩
  item := fun i s Q E hi st hQ => by
    obtain ⟨e, he⟩ : ∃ e, es[i]? = some e := ⟨es[i], by simp [hi]⟩
    refine next_item st.1 st.2 he fun h' hit' hs' => ?_
    exact hQ _ h' s.toks ⟨e, he, rfl⟩ ⟨hit', st.2.at fun o e => hs'.extBut x o hne e⟩ fun b o hb e => hs'.extBut b o (fun h => hb (by simp [h])) e
  done := fun s Q E st hQ => next_end hh st.1 st.2 (by simp) fun h' he' => hQ h' s.toks fun b o hb e => he' b o (fun h => hb (by simp [h])) e
  self := fun _ _ _ _ st hQ => wpAny_pyIter_keyiter st.1 hQ

theorem src_tree : KdlSrc prog w "dict_keys" v x es.length (fun i u => ∃ e, es[i]? = some e ∧ u = e.key) (fun h => KdlKeysView h v x ∧ TreeIs h x es n) where
  type := fun s ok => ok.1.typeIs
  there := fun h ok => ⟨let ⟨_, ho, _⟩ := ok.1; Heap.lt_size ho, let ⟨_, ho⟩ := ok.2; Heap.lt_size ho⟩
  keep := fun h h' ok k => ⟨let ⟨o, ho, r⟩ := ok.1; ⟨o, k v (.inl rfl) _ ho, r⟩, ok.2.at fun o e => k x (.inr rfl) o e⟩
  notList := by decide
  notTuple := by decide
  hint := fun A E s Q ok q => kdl_hint_keys ok.1.typeIs q
  iter := fun A s hh ok => by
    have hx : x ≠ s.heap.objs.size := by obtain ⟨dx, ho⟩ := ok.2; exact Nat.ne_of_lt (Heap.lt_size ho)
    refine ⟨_, _, fun E Q q => iter_view ok.1 ok.2 q, walks_tree hh hx (n := n), ?_, ?_⟩
    · exact ⟨_, Heap.get?_push_size _ rfl, rfl, rfl⟩
    · exact ok.2.at fun o e => Heap.get?_push_of_some _ e
end
end Mine

-- part T5
namespace Mine
theorem walk_off_T5 : True := by w_top off; trivial

/-- a kind of key with its order, as the tables ask it -/
structure KOrd (prog : Program) (w : World) (K : Type) [DecidableEq K] where
  knd : PySem.KeyKind prog w K
  lt : K → K → Bool
  irrefl : ∀ a, lt a a = false
  trans : ∀ a b c, lt a b = true → lt b c = true → lt a c = true
  tri : ∀ a b, lt a b = false → lt b a = false → a = b
  keyOf : Value → Option K
  keyOf_is : ∀ k v, knd.is k v = true → keyOf v = some k
  dflt : K
  oneLt : ∀ (prog : Program) (w : World) (A : Around) (E : Value → Shared → Prop) (s : Shared) (x y : Value) (a b : K) (Q : Bool → Shared → Prop),
    keyOf x = some a → keyOf y = some b → Q (lt a b) s → wpAny (model prog w) A (oneLt' true x y) Q E s
  ty : String
  typ : ∀ k v, knd.is k v = true → typeOf v = pure (.type ty)
  notTuple : (Value.type ty != Value.type "tuple") = true
  part : ∀ k v, knd.is k v = true → (keyPart v).isSome = true
  isNone : ∀ {A : Around} {E : Value → Shared → Prop} {s : Shared} {k : K} {v : Value} {Q : Value → Shared → Prop}, knd.is k v = true → Q (.bool false) s → wpAny (model prog w) A (compareOp .Is v .none) Q E s
  cLt : ∀ {A : Around} {E : Value → Shared → Prop} {s : Shared} {a b : K} {u v : Value} {Q : Value → Shared → Prop}, knd.is a u = true → knd.is b v = true → Q (.bool (lt a b)) s → wpAny (model prog w) A (compareOp .Lt u v) Q E s
  cLe : ∀ {A : Around} {E : Value → Shared → Prop} {s : Shared} {a b : K} {u v : Value} {Q : Value → Shared → Prop}, knd.is a u = true → knd.is b v = true → Q (.bool (!lt b a)) s → wpAny (model prog w) A (compareOp .LtE u v) Q E s
  cGt : ∀ {A : Around} {E : Value → Shared → Prop} {s : Shared} {a b : K} {u v : Value} {Q : Value → Shared → Prop}, knd.is a u = true → knd.is b v = true → Q (.bool (lt b a)) s → wpAny (model prog w) A (richCompare .Gt u v) Q E s
  cEq : ∀ {A : Around} {E : Value → Shared → Prop} {s : Shared} {a b : K} {u v : Value} {Q : Value → Shared → Prop}, knd.is a u = true → knd.is b v = true → Q (.bool (decide (a = b))) s → wpAny (model prog w) A (compareOp .Eq u v) Q E s
  cNe : ∀ {A : Around} {E : Value → Shared → Prop} {s : Shared} {a b : K} {u v : Value} {Q : Value → Shared → Prop}, knd.is a u = true → knd.is b v = true → Q (.bool (!decide (a = b))) s → wpAny (model prog w) A (compareOp .NotEq u v) Q E s
  eqAt : ∀ {A : Around} {s : Shared} {k : K} {u v : Value}, knd.is k u = true → knd.is k v = true → PySem.SeqAt.EqAt A s u v true

def KOrd.sk {prog : Program} {w : World} {K : Type} [DecidableEq K] (O : KOrd prog w K) : PyProof.Rows.KeyKind where
  α := K
  blt := O.lt
  irrefl := O.irrefl
  trans := O.trans
  negTrans a b c h := by
    cases h1 : O.lt a b with
    | true => exact .inl rfl
    | false =>
      refine .inr ?_
      cases h2 : O.lt b a with
      | true => exact O.trans _ _ _ h2 h
      | false => have := O.tri _ _ h1 h2; rw [← this]; exact h
  total := O.tri
  keyOf := O.keyOf
  dflt := O.dflt
theorem KOrd.skOne {prog : Program} {w : World} {K : Type} [DecidableEq K] (O : KOrd prog w K) : O.sk.OneLt := fun prog w A E s x y a b Q h1 h2 q => O.oneLt prog w A E s x y a b Q h1 h2 q

section
variable {prog : Program} {w : World} {A : Around} {E : Value → Shared → Prop} {s : Shared}
theorem is_none_int {i : Int} {t : Tok} {Q : Value → Shared → Prop} (h : Q (.bool false) s) : wpAny (model prog w) A (compareOp .Is (.int i t) .none) Q E s := by
  show wpAny _ _ (do return .bool (← isSame (.int i t) .none)) Q E s
  exact wpAny_bind (wpAny_pure (wpAny_pure h))
theorem is_none_bytes {b : Array UInt8} {t : Tok} {Q : Value → Shared → Prop} (h : Q (.bool false) s) : wpAny (model prog w) A (compareOp .Is (.bytes b t) .none) Q E s := by
  show wpAny _ _ (do return .bool (← isSame (.bytes b t) .none)) Q E s
  exact wpAny_bind (wpAny_pure (wpAny_pure h))
end

def intOrd (prog : Program) (w : World) : KOrd prog w Int where
  knd := PySem.intKind prog w
  lt a b := decide (a < b)
  irrefl a := by simp
  trans a b c := by simp; omega
  tri a b := by simp; omega
  keyOf := fun | .int i _ => some i | _ => none
  keyOf_is k v h := by obtain ⟨t, rfl⟩ := Value.isInt_shape h; rfl
  dflt := 0
  oneLt prog w A E s x y a b Q ha hb q := by
    cases x <;> simp only [reduceCtorEq, Option.some.injEq] at ha
    cases y <;> simp only [reduceCtorEq, Option.some.injEq] at hb
    cases ha; cases hb
    exact oneLt_int q
  ty := "int"
  typ k v h := by obtain ⟨t, rfl⟩ := Value.isInt_shape h; rfl
  part k v h := by obtain ⟨t, rfl⟩ := Value.isInt_shape h; rfl
  notTuple := by decide
  isNone hu q := by obtain ⟨t, rfl⟩ := Value.isInt_shape hu; exact is_none_int q
  cLt hu hv q := by obtain ⟨t, rfl⟩ := Value.isInt_shape hu; obtain ⟨t', rfl⟩ := Value.isInt_shape hv; exact PyProof.Rows.lt_int q
  cLe {A E s a b u v Q} hu hv q := by
    obtain ⟨t, rfl⟩ := Value.isInt_shape hu; obtain ⟨t', rfl⟩ := Value.isInt_shape hv
    refine PyProof.Rows.le_int ?_
    have e : decide (a ≤ b) = !decide (b < a) := by by_cases h : a ≤ b <;> simp [h] <;> omega
    rw [e]; exact q
  cGt hu hv q := by obtain ⟨t, rfl⟩ := Value.isInt_shape hu; obtain ⟨t', rfl⟩ := Value.isInt_shape hv; exact PyProof.Rows.gt_int q
  cEq {A E s a b u v Q} hu hv q := by
    obtain ⟨t, rfl⟩ := Value.isInt_shape hu; obtain ⟨t', rfl⟩ := Value.isInt_shape hv
    refine PyProof.Rows.eq_int ?_
    have e : (a == b) = decide (a = b) := by by_cases h : a = b <;> simp [h]
    rw [e]; exact q
  cNe {A E s a b u v Q} hu hv q := by
    obtain ⟨t, rfl⟩ := Value.isInt_shape hu; obtain ⟨t', rfl⟩ := Value.isInt_shape hv
    refine PyProof.Rows.ne_int ?_
    have e : (a != b) = !decide (a = b) := by by_cases h : a = b <;> simp [h, bne]
    rw [e]; exact q
  eqAt {A s k u v} hu hv := by
    obtain ⟨t, rfl⟩ := Value.isInt_shape hu; obtain ⟨t', rfl⟩ := Value.isInt_shape hv
    have := (PySem.MeetsSeq.EqGives.int k k t t').at A s
    rwa [beq_self_eq_true] at this

namespace BK
open PySem.Builtin.Bytes
theorem ord_refl : ∀ a : List UInt8, order a a = .eq
  | [] => rfl
  | x :: xs => by
    have h : ¬ x < x := UInt8.lt_irrefl x
    simp only [order, h, if_false]; exact ord_refl xs
theorem ord_swap : ∀ a b : List UInt8, order b a = (order a b).swap
  | [], [] => rfl
  | [], _ :: _ => rfl
  | _ :: _, [] => rfl
  | x :: xs, y :: ys => by
    simp only [order, gt_iff_lt]
    by_cases h1 : x < y
    · have h2 : ¬ y < x := fun h => UInt8.lt_irrefl _ (UInt8.lt_trans h1 h)
      simp [h1, h2]
    · by_cases h2 : y < x
      · simp [h1, h2]
      · simp only [h1, h2, if_false]; exact ord_swap xs ys
theorem ord_eq : ∀ a b : List UInt8, order a b = .eq → a = b
  | [], [], _ => rfl
  | [], _ :: _, h => by cases h
  | _ :: _, [], h => by cases h
  | x :: xs, y :: ys, h => by
    simp only [order, gt_iff_lt] at h
    by_cases h1 : x < y
    · simp [h1] at h
    · by_cases h2 : y < x
      · simp [h1, h2] at h
      · simp only [h1, h2, if_false] at h
        rw [ord_eq xs ys h, UInt8.le_antisymm (UInt8.not_lt.mp h2) (UInt8.not_lt.mp h1)]
theorem ord_trans : ∀ a b c : List UInt8, order a b = .lt → order b c = .lt → order a c = .lt
  | [], [], _, h, _ => by cases h
  | [], _ :: _, [], _, h => by cases h
  | [], _ :: _, _ :: _, _, _ => rfl
  | _ :: _, [], _, h, _ => by cases h
  | _ :: _, _ :: _, [], _, h => by cases h
  | x :: xs, y :: ys, z :: zs, h1, h2 => by
    simp only [order, gt_iff_lt] at h1 h2 ⊢
    by_cases a1 : x < y
    · by_cases b1 : y < z
      · simp [UInt8.lt_trans a1 b1]
      · by_cases b2 : z < y
        · simp [b1, b2] at h2
        · have e : y = z := UInt8.le_antisymm (UInt8.not_lt.mp b2) (UInt8.not_lt.mp b1)
          subst e; simp [a1]
    · by_cases a2 : y < x
      · simp [a1, a2] at h1
      · have e : x = y := UInt8.le_antisymm (UInt8.not_lt.mp a2) (UInt8.not_lt.mp a1)
        subst e
        simp only [a1, if_false] at h1
        by_cases b1 : x < z
        · simp [b1]
        · by_cases b2 : z < x
          · simp [b1, b2] at h2
          · simp only [b1, b2, if_false] at h2 ⊢
            exact ord_trans xs ys zs h1 h2

theorem slot_lt : Slot "bytes" (cmpInfo .Lt).2.1 "bytes.__lt__" :=
  .of (owner := "bytes") (n := "__lt__") (by rw [typeLookup_type, builtinLookup_eq_fast]; kernel_rfl) (by decide +kernel) (by decide +kernel) (by decide +kernel)
    (by first | exact .inl (by decide +kernel) | exact .inr (by decide +kernel)) (by rw [isSubtype_type]; kernel_rfl)
theorem entry_lt : entryFor table "bytes.__lt__" = some Builtin.«bytes.__lt__» := entryFor_of_tree (by kernel_rfl)
theorem args_lt (a b : Value) : argsOk "bytes.__lt__" ⟨[a, b], []⟩ := by unfold argsOk; kernel_rfl
theorem slot_le : Slot "bytes" (cmpInfo .LtE).2.1 "bytes.__le__" :=
  .of (owner := "bytes") (n := "__le__") (by rw [typeLookup_type, builtinLookup_eq_fast]; kernel_rfl) (by decide +kernel) (by decide +kernel) (by decide +kernel)
    (by first | exact .inl (by decide +kernel) | exact .inr (by decide +kernel)) (by rw [isSubtype_type]; kernel_rfl)
theorem entry_le : entryFor table "bytes.__le__" = some Builtin.«bytes.__le__» := entryFor_of_tree (by kernel_rfl)
theorem args_le (a b : Value) : argsOk "bytes.__le__" ⟨[a, b], []⟩ := by unfold argsOk; kernel_rfl
theorem slot_gt : Slot "bytes" (cmpInfo .Gt).2.1 "bytes.__gt__" :=
  .of (owner := "bytes") (n := "__gt__") (by rw [typeLookup_type, builtinLookup_eq_fast]; kernel_rfl) (by decide +kernel) (by decide +kernel) (by decide +kernel)
    (by first | exact .inl (by decide +kernel) | exact .inr (by decide +kernel)) (by rw [isSubtype_type]; kernel_rfl)
theorem entry_gt : entryFor table "bytes.__gt__" = some Builtin.«bytes.__gt__» := entryFor_of_tree (by kernel_rfl)
theorem args_gt (a b : Value) : argsOk "bytes.__gt__" ⟨[a, b], []⟩ := by unfold argsOk; kernel_rfl

theorem gives_lt (b c : Array UInt8) (t u : Tok) : Gives (Builtin.«bytes.__lt__» ⟨[.bytes b t, .bytes c u], []⟩) (.val (.bool (order b.toList c.toList == .lt))) := by
  refine .of_wp fun M A E s Q hq => ?_
  show wpAny M A (isInstance (.bytes c u) (.type "bytes") >>= fun r => _) _ E s
  refine wpAny_bind (wpAny_isInstance (typeIs_bytes s c u) F.sub_bytes_bytes ?_)
  exact wpAny_pure ⟨_, rfl, hq⟩
theorem gives_le (b c : Array UInt8) (t u : Tok) : Gives (Builtin.«bytes.__le__» ⟨[.bytes b t, .bytes c u], []⟩) (.val (.bool (order b.toList c.toList != .gt))) := by
  refine .of_wp fun M A E s Q hq => ?_
  show wpAny M A (isInstance (.bytes c u) (.type "bytes") >>= fun r => _) _ E s
  refine wpAny_bind (wpAny_isInstance (typeIs_bytes s c u) F.sub_bytes_bytes ?_)
  exact wpAny_pure ⟨_, rfl, hq⟩
theorem gives_gt (b c : Array UInt8) (t u : Tok) : Gives (Builtin.«bytes.__gt__» ⟨[.bytes b t, .bytes c u], []⟩) (.val (.bool (order b.toList c.toList == .gt))) := by
  refine .of_wp fun M A E s Q hq => ?_
  show wpAny M A (isInstance (.bytes c u) (.type "bytes") >>= fun r => _) _ E s
  refine wpAny_bind (wpAny_isInstance (typeIs_bytes s c u) F.sub_bytes_bytes ?_)
  exact wpAny_pure ⟨_, rfl, hq⟩

section
variable {prog : Program} {w : World} {A : Around} {E : Value → Shared → Prop} {s : Shared}
theorem oneLt {a b : Array UInt8} {t u : Tok} {Q : Bool → Shared → Prop} (h : Q (order a.toList b.toList == .lt) s) : wpAny (model prog w) A (oneLt' true (.bytes a t) (.bytes b u)) Q E s := by
  rw [oneLt'_eq]
  simp only [if_true]
  refine wpAny_bind (wpAny_cRoomFor_byValue rfl ?_)
  refine wpAny_bind (wpAny_callSpecialIfBound?_slot (typeIs_bytes s a t) slot_lt (call_gives slot_lt (typeIs_bytes s a t) entry_lt (args_lt _ _) (gives_lt a b t u) ?_))
  exact wpAny_truthy_bool h
end
end BK

def bytesOrd (prog : Program) (w : World) : KOrd prog w (List UInt8) where
  knd := PySem.W.bytesKind prog w
  lt a b := PySem.Builtin.Bytes.order a b == .lt
  irrefl a := by rw [BK.ord_refl]; rfl
  trans a b c h1 h2 := by rw [beq_iff_eq] at h1 h2 ⊢; exact BK.ord_trans _ _ _ h1 h2
  tri a b h1 h2 := by
    rw [beq_eq_false_iff_ne] at h1 h2
    refine BK.ord_eq _ _ ?_
    rw [BK.ord_swap a b] at h2
    cases h : PySem.Builtin.Bytes.order a b with
    | eq => rfl
    | lt => exact absurd h h1
    | gt => rw [h] at h2; exact absurd rfl h2
  keyOf := fun | .bytes b _ => some b.toList | _ => none
  keyOf_is k v h := by obtain ⟨t, rfl⟩ := PySem.W.isBytes_shape h; simp
  dflt := []
  oneLt prog w A E s x y a b Q ha hb q := by
    cases x <;> simp only [reduceCtorEq, Option.some.injEq] at ha
    cases y <;> simp only [reduceCtorEq, Option.some.injEq] at hb
    cases ha; cases hb
    exact BK.oneLt q
  ty := "bytes"
  typ k v h := by obtain ⟨t, rfl⟩ := PySem.W.isBytes_shape h; rfl
  part k v h := by obtain ⟨t, rfl⟩ := PySem.W.isBytes_shape h; rfl
  notTuple := by decide
  isNone hu q := by obtain ⟨t, rfl⟩ := PySem.W.isBytes_shape hu; exact is_none_bytes q
  cLt {A E s a b u v Q} hu hv q := by
    obtain ⟨t, rfl⟩ := PySem.W.isBytes_shape hu; obtain ⟨t', rfl⟩ := PySem.W.isBytes_shape hv
    exact compareOp_gives (op := .Lt) (typeIs_bytes s _ t) (typeIs_bytes s _ t') BK.slot_lt BK.entry_lt (BK.args_lt _ _) (BK.gives_lt _ _ t t') (fun e => nomatch e) q
  cLe {A E s a b u v Q} hu hv q := by
    obtain ⟨t, rfl⟩ := PySem.W.isBytes_shape hu; obtain ⟨t', rfl⟩ := PySem.W.isBytes_shape hv
    refine compareOp_gives (op := .LtE) (typeIs_bytes s _ t) (typeIs_bytes s _ t') BK.slot_le BK.entry_le (BK.args_le _ _) (BK.gives_le _ _ t t') (fun e => nomatch e) ?_
    have e : (PySem.Builtin.Bytes.order a b != .gt) = !(PySem.Builtin.Bytes.order b a == .lt) := by
      rw [BK.ord_swap a b]; cases PySem.Builtin.Bytes.order a b <;> rfl
    show Q (.bool (PySem.Builtin.Bytes.order a b != .gt)) s
    rw [e]; exact q
  cGt {A E s a b u v Q} hu hv q := by
    obtain ⟨t, rfl⟩ := PySem.W.isBytes_shape hu; obtain ⟨t', rfl⟩ := PySem.W.isBytes_shape hv
    refine richCompare_gives (op := .Gt) (typeIs_bytes s _ t) (typeIs_bytes s _ t') BK.slot_gt BK.entry_gt (BK.args_gt _ _) (BK.gives_gt _ _ t t') (fun e => nomatch e) ?_
    have e : (PySem.Builtin.Bytes.order a b == .gt) = (PySem.Builtin.Bytes.order b a == .lt) := by
      rw [BK.ord_swap a b]; cases PySem.Builtin.Bytes.order a b <;> rfl
    show Q (.bool (PySem.Builtin.Bytes.order a b == .gt)) s
    rw [e]; exact q
  cEq {A E s a b u v Q} hu hv q := by
    obtain ⟨t, rfl⟩ := PySem.W.isBytes_shape hu; obtain ⟨t', rfl⟩ := PySem.W.isBytes_shape hv
    refine compareOp_gives (op := .Eq) (typeIs_bytes s _ t) (typeIs_bytes s _ t') FB.slot_bytes_eq FB.entry_bytes_eq (FB.args_bytes_eq_2 _ _) (gives_bytes_eq _ _ t t') (fun e => nomatch e) ?_
    have e : (a == b) = decide (a = b) := by by_cases h : a = b <;> simp [h]
    show Q (.bool (a == b)) s
    rw [e]; exact q
  cNe {A E s a b u v Q} hu hv q := by
    obtain ⟨t, rfl⟩ := PySem.W.isBytes_shape hu; obtain ⟨t', rfl⟩ := PySem.W.isBytes_shape hv
    refine compareOp_gives (op := .NotEq) (typeIs_bytes s _ t) (typeIs_bytes s _ t') FB.slot_bytes_ne FB.entry_bytes_ne (FB.args_bytes_ne_2 _ _) (gives_bytes_ne _ _ t t') (fun e => nomatch e) ?_
    have e : (a != b) = !decide (a = b) := by by_cases h : a = b <;> simp [h, bne]
    show Q (.bool (a != b)) s
    rw [e]; exact q
  eqAt {A s k u v} hu hv := by
    obtain ⟨t, rfl⟩ := PySem.W.isBytes_shape hu; obtain ⟨t', rfl⟩ := PySem.W.isBytes_shape hv
    intro prog w E Q hq
    unfold eqBool
    refine wpAny_holding ?_
    refine wpAny_ite_split (fun _ => wpAny_bind (wpAny_rule (wpAny_pure hq))) (fun _ => wpAny_bind ?_)
    refine compareOp_gives (op := .Eq) (typeIs_bytes s _ t) (typeIs_bytes s _ t') FB.slot_bytes_eq FB.entry_bytes_eq (FB.args_bytes_eq_2 _ _) (gives_bytes_eq _ _ t t') (fun e => nomatch e) ?_
    refine wpAny_truthy_bool ?_
    rw [beq_self_eq_true]; exact hq
end Mine

-- part T6
namespace Mine
theorem walk_off_T6 : True := by w_top off; trivial

section
variable {prog : Program} {w : World} {K : Type} [DecidableEq K] (O : KOrd prog w K)
def Keys (vs : List Value) (ks : List K) : Prop := All2 (fun v k => O.knd.is k v = true) vs ks
variable {O}
theorem Keys.keyOf {vs : List Value} {ks : List K} (h : Keys O vs ks) : ∀ v ∈ vs, ∃ k, O.keyOf v = some k ∧ O.knd.is k v = true := fun v hv => by
  obtain ⟨k, _, hk⟩ := h.mem_left v hv
  exact ⟨k, O.keyOf_is _ _ hk, hk⟩
theorem Keys.nums {vs : List Value} {ks : List K} (h : Keys O vs ks) : vs.map (fun v => (O.keyOf v).getD O.dflt) = ks := by
  induction h with
  | nil => rfl
  | cons r _ ih => simp only [List.map_cons, O.keyOf_is _ _ r, Option.getD_some, ih]
theorem Keys.of_map (vs : List Value) (h : ∀ v ∈ vs, ∃ k, O.knd.is k v = true) : Keys O vs (vs.map (fun v => (O.keyOf v).getD O.dflt)) := by
  induction vs with
  | nil => exact .nil
  | cons v r ih =>
    obtain ⟨k, hk⟩ := h v (.head _)
    refine .cons ?_ (ih fun u hu => h u (.tail _ hu))
    show O.knd.is ((O.keyOf v).getD O.dflt) v = true
    rw [O.keyOf_is _ _ hk]; exact hk
theorem Keys.typeOf {vs : List Value} {ks : List K} (h : Keys O vs ks) : ∀ v ∈ vs, typeOf v = pure (.type O.ty) := fun v hv => by
  obtain ⟨k, _, hk⟩ := h.mem_left v hv
  exact O.typ _ _ hk

theorem mapM_pure {α β : Type} {f : α → Sem β} {b : β} : ∀ {l : List α}, (∀ a ∈ l, f a = pure b) → l.mapM f = pure (l.map fun _ => b)
  | [], _ => rfl
  | a :: l, h => by
    rw [List.mapM_cons, h a (.head _), mapM_pure fun x hx => h x (.tail _ hx)]; rfl

theorem Keys.kind {v₁ v₂ : Value} {vs : List Value} {ks : List K} (h : Keys O (v₁ :: v₂ :: vs) ks) : keyKind' (v₁ :: v₂ :: vs).toArray = pure oneType' := by
  have ht := h.typeOf
  have e1 : ∀ v ∈ v₁ :: v₂ :: vs, firstOfTuple' v = pure none := fun v hv => by
    rw [kas_first_eq, ht v hv]
    show (if (Value.type O.ty != Value.type "tuple") = true then _ else _) = _
    rw [if_pos O.notTuple]
  rw [keyKind'_eq]
  have em : (v₁ :: v₂ :: vs).toArray.mapM firstOfTuple' = pure ((v₁ :: v₂ :: vs).map fun _ => none).toArray := by
    rw [List.mapM_toArray, mapM_pure e1]; rfl
  have eo : oneTypeOnly' (v₁ :: v₂ :: vs).toArray = pure (some (.type O.ty)) := by
    rw [oneTypeOnly'_eq]
    have : (v₁ :: v₂ :: vs).toArray.mapM PySem.typeOf = pure ((v₁ :: v₂ :: vs).map fun _ => Value.type O.ty).toArray := by
      rw [List.mapM_toArray, mapM_pure ht]; rfl
    rw [this]
    show (match ((v₁ :: v₂ :: vs).map fun _ => Value.type O.ty).toArray[0]? with
      | some t => (pure (if ((v₁ :: v₂ :: vs).map fun _ => Value.type O.ty).toArray.all (· == t) then some t else none) : Sem (Option Value))
      | none => pure none) = _
    simp
  rw [em]
  show (if ((v₁ :: v₂ :: vs).map fun _ => (none : Option Value)).toArray.all (·.isSome) = true then _ else _) = _
  rw [if_neg (by simp)]
  show (if ((((v₁ :: v₂ :: vs).map fun _ => (none : Option Value)).toArray[0]?).bind id).isSome = true then _ else _) = _
  rw [if_neg (by simp), eo]
  rfl

theorem sorted_out_keys {vs : List Value} {ks : List K} (h : Keys O vs ks) {xs : Array Keyed} (hp : xs.Perm (pairsOf vs)) (hs : SortedToK O.sk xs (pairsOf vs).size) :
    ∃ ks', Keys O (xs.map (·.2)).toList ks' ∧ ks'.Perm ks ∧ ks'.Pairwise (fun a b => O.lt b a = false) := by
  have hl : xs.toList.Perm (vs.zip vs) := by rw [← pairsOf_toList]; exact Array.perm_iff_toList_perm.mp hp
  have hmem : ∀ p, p ∈ xs.toList → p.1 = p.2 ∧ p.1 ∈ vs := fun p hp' => mem_zip_self (hl.mem_iff.mp hp')
  refine ⟨xs.toList.map (fun p => (O.keyOf p.1).getD O.dflt), ?_, ?_, ?_⟩
  · have e : (xs.map (·.2)).toList = xs.toList.map (·.1) := by
      rw [Array.toList_map]; exact List.map_congr_left fun p hp' => (hmem p hp').1.symm
    rw [e]
    have h1 := Keys.of_map (O := O) (xs.toList.map (·.1)) (by
      intro v hv
      obtain ⟨p, hp', rfl⟩ := List.mem_map.mp hv
      obtain ⟨k, _, hk⟩ := h.mem_left _ (hmem p hp').2
      exact ⟨k, hk⟩)
    rwa [List.map_map] at h1
  · have h1 := hl.map (fun p => (O.keyOf p.1).getD O.dflt)
    have e2 : (vs.zip vs).map (fun p => (O.keyOf p.1).getD O.dflt) = ks := by
      have : (vs.zip vs).map (fun p => (O.keyOf p.1).getD O.dflt) = ((vs.zip vs).map Prod.fst).map (fun v => (O.keyOf v).getD O.dflt) := by rw [List.map_map]; rfl
      rw [this, List.map_fst_zip (Nat.le_refl _), h.nums]
    rwa [e2] at h1
  · rw [List.pairwise_iff_getElem]
    intro i j hi hj hij
    have hi' : i < xs.size := by simpa using hi
    have hj' : j < xs.size := by simpa using hj
    have h1 := hs i j (Nat.le_of_lt hij) (by rw [← hp.size_eq]; exact hj')
    unfold KK at h1
    rw [getElem?_pos xs i hi', getElem?_pos xs j hj'] at h1
    simp only [List.getElem_map, Array.getElem_toList]
    exact h1
end

section
variable {prog : Program} {w : World} {A : Around} {E : Value → Shared → Prop} {s : Shared} {x v : Addr} {es : List DictEntry} {n : Nat}

theorem collect_view {Q : List Value → Shared → Prop} (hh : A.handled = none) (hv : KdlKeysView s.heap v x) (hm : TreeIs s.heap x es n) (hlen : es.length ≤ 1000)
    (h : ∀ h' tk, s.heap.StaysIn h' → Q (es.map (·.key)) { s with heap := h', toks := tk }) : wpAny (model prog w) A (collect (.ref v)) Q E s := by
  have hvs : v < s.heap.objs.size := let ⟨_, ho, _⟩ := hv; Heap.lt_size ho
  have hxs : x < s.heap.objs.size := let ⟨_, ho⟩ := hm; Heap.lt_size ho
  unfold collect
  refine wpAny_bind (wpAny_runValue (codeAny_builtin entry_proto_collect' ?_))
  show wpAny _ _ (do again (.builtin "list.__iadd__" ⟨[← newList [], .ref v], []⟩)) _ _ s
  refine wpAny_bind (wpAny_newList (wpAny_pure ⟨Code.quiet_builtin _ (by decide +kernel), codeAny_builtin entry_list_iadd' ?_⟩))
  show wpAny _ _ (Builtin.List.listExtendWith (.ref s.heap.objs.size) (.ref v) (.ref s.heap.objs.size)) _ _ { s with heap := s.heap.push (seqObj "list" #[] 0) }
  rw [Around.under_plainId (by decide +kernel : plainId "list.__iadd__" = true)]
  let R₀ : Result → Shared → Prop := fun r s' => r = .ok (.ret (.ref s.heap.objs.size)) ∧ ∃ h' tk c, s' = { s with heap := h', toks := tk } ∧ s.heap.StaysIn h' ∧
    h'.get? s.heap.objs.size = some { cls := .type "list", dict := none, data := .seq (es.map (·.key)).toArray c, slots := #[] }
  have fin : ∀ r s', R₀ r s' → (match r with
      | .ok (.ret v) => wpAny (model prog w) A (match v with
          | .ref a => do match (← load a).data with
            | .seq xs _ => pure xs.toList
            | _ => unsupported "internal:collect"
          | _ => unsupported "internal:collect") Q E s'
      | .ok _ => False
      | .error e => E e s') := by
    rintro r s' ⟨rfl, h', tk, c, rfl, st, hS⟩
    show wpAny _ A (do
        let o ← load s.heap.objs.size
        match o.data with
        | .seq xs _ => pure xs.toList
        | _ => unsupported "internal:collect") Q E { s with heap := h', toks := tk }
    refine wpAny_bind (wpAny_load hS ?_)
    show wpAny _ _ (pure (es.map (·.key)).toArray.toList) Q E _
    exact wpAny_pure (h h' tk st)
  refine wpAny_mono (kdl_extend (R := R₀) (s := { s with heap := s.heap.push (seqObj "list" #[] 0) }) (src_tree (prog := prog) (w := w) (v := v) (x := x) (es := es) (n := n)) hh ⟨?_, hm.at fun o e => Heap.get?_push_of_some _ e⟩ s.heap.objs.size (Nat.ne_of_gt hvs) (Nat.ne_of_gt hxs) (.ref s.heap.objs.size) 0 (Heap.get?_push_size _ rfl) (fun h' tk acc c k hS hacc => ?_) (Nat.le_trans hlen (by decide))) (fun f s' q => ?_) (fun e s' q => ?_)
  · obtain ⟨o, ho, r⟩ := hv; exact ⟨o, Heap.get?_push_of_some _ ho, r⟩
  · have st : s.heap.StaysIn h' := fun b o e => k b o (Nat.ne_of_lt (Heap.lt_size e)) (Heap.get?_push_of_some _ e)
    have eacc : acc.toList = es.map (·.key) := by
      refine List.ext_getElem? fun j => ?_
      obtain ⟨hsz, hj⟩ := hacc
      rw [List.getElem?_map]
      cases q : es[j]? with
      | none =>
        have : es.length ≤ j := by simpa using q
        simp; omega
      | some e =>
        have hlt : j < acc.size := by
          have := (List.getElem?_eq_some_iff.mp q).1; omega
        obtain ⟨e', he', hv'⟩ := hj j acc[j] (by simp [hlt])
        rw [q] at he'; cases he'
        simp [hlt, hv']
    exact ⟨rfl, h', tk, c, rfl, st, by rw [← eacc]; exact hS⟩
  · cases f with
    | done f => exact fin _ _ q
    | again c => exact ⟨q.1, codeAny_mono q.2 fin⟩
  · exact fin _ _ q

theorem sorted_view {K : Type} [DecidableEq K] {O : KOrd prog w K} {ks : List K} {Q : Value → Shared → Prop} (hh : A.handled = none) (hv : KdlKeysView s.heap v x) (hm : TreeIs s.heap x es n) (hks : Keys O (es.map (·.key)) ks) (h64 : es.length < 64)
    (h : ∀ h' tk l out n' ks', s.heap.StaysIn h' → s.heap.get? l = none → h'.get? l = some (listOf out n') → Keys O out.toList ks' → ks'.Perm ks → ks'.Pairwise (fun a b => O.lt b a = false) → Q (.ref l) { s with heap := h', toks := tk }) :
    wpAny (model prog w) A (call (.builtin "sorted") [.ref v]) Q E s := by
  refine Calls.call_function_entry kind_sorted plain_sorted entry_sorted (args_sorted1 _) ?_
  unfold Builtin.«sorted»
  refine wpAny_bind (m := checkCount "sorted" 1 1 _) (wpAny_pure ?_)
  refine wpAny_bind (collect_view hh hv hm (by omega) fun h1 tk st1 => ?_)
  refine wpAny_bind (wpAny_newList ?_ (by rw [List.length_map, sizeLine_eq]; omega))
  have hoL : (h1.push (seqObj "list" (es.map (·.key)).toArray 0)).get? h1.objs.size = some (seqObj "list" (es.map (·.key)).toArray 0) := Heap.get?_push_size _ rfl
  have hlen : (es.map (·.key)).length = es.length := List.length_map _
  refine wpAny_bind (wpAny_holding (wpAny_call_entry slot_list_sort ⟨_, hoL, rfl⟩ entry_list_sort (list_sort_treeK O.skOne hoL ?_ ?_ (by rw [hlen]; exact h64) fun st' a1 a2 => ⟨_, rfl, ?_⟩) (args_list_sort _)))
  · intro p hp
    rw [pairsOf_toList] at hp
    obtain ⟨k, hk, _⟩ := hks.keyOf _ (mem_zip_self hp).2
    exact ⟨k, hk⟩
  · intro v₁ v₂ rest e
    rw [e] at hks
    exact hks.kind
  · obtain ⟨ks', b1, b2, b3⟩ := sorted_out_keys hks a1 a2
    obtain ⟨e, he⟩ := sortedHeap_at (out := (arrOf st').map (·.2)) hoL
    refine wpAny_pure ⟨_, rfl, h _ _ _ _ _ _ (fun b o q => ?_) ?_ he b1 b2 b3⟩
    · have q1 := st1 b o q
      have hb := Heap.lt_size q1
      rw [sortedHeap_old (Nat.ne_of_lt hb) (by rw [size_push']; exact Nat.lt_succ_of_lt hb)]
      exact Heap.get?_push_of_some _ q1
    · cases q : s.heap.get? h1.objs.size with
      | none => rfl
      | some o => exact absurd (Heap.lt_size (st1 _ _ q)) (Nat.lt_irrefl _)
end
end Mine

-- part T7
namespace Mine
theorem walk_off_T7 : True := by w_top off; trivial

theorem argBest_le (bt : Nat → Nat → Bool) : ∀ k, argBest bt k ≤ k
  | 0 => Nat.le_refl _
  | k + 1 => by
    unfold argBest
    split
    · exact Nat.le_refl _
    · exact Nat.le_succ_of_le (argBest_le bt k)

section
variable {prog : Program} {w : World} {A : Around} {E : Value → Shared → Prop} {s : Shared} {x v : Addr} {es : List DictEntry} {n : Nat}
variable {K : Type} [DecidableEq K] {O : KOrd prog w K} {ks : List K}

theorem argBest_max (O : KOrd prog w K) (f : Nat → K) : ∀ k m, m ≤ k → O.lt (f (argBest (fun i j => O.lt (f j) (f i)) k)) (f m) = false
  | 0, m, h => by
    have : m = 0 := by omega
    subst this; exact O.irrefl _
  | k + 1, m, h => by
    unfold argBest
    have ih := argBest_max O f k
    by_cases hb : O.lt (f (argBest (fun i j => O.lt (f j) (f i)) k)) (f (k + 1)) = true
    · rw [if_pos hb]
      by_cases hm : m = k + 1
      · subst hm; exact O.irrefl _
      · cases hc : O.lt (f (k + 1)) (f m) with
        | false => rfl
        | true => have t := O.trans _ _ _ hb hc; rw [ih m (by omega)] at t; cases t
    · rw [if_neg hb]
      by_cases hm : m = k + 1
      · subst hm; simpa using hb
      · exact ih m (by omega)

theorem max_view {Q : Value → Shared → Prop} (hh : A.handled = none) (hv : KdlKeysView s.heap v x) (hm : TreeIs s.heap x es n) (hks : Keys O (es.map (·.key)) ks) (hne : ks ≠ [])
    (h : ∀ h' tk u k, s.heap.StaysIn h' → k ∈ ks → (∀ k' ∈ ks, O.lt k k' = false) → O.knd.is k u = true → Q u { s with heap := h', toks := tk }) :
    wpAny (model prog w) A (call (.builtin "max") [.ref v]) Q E s := by
  have hxs : x < s.heap.objs.size := let ⟨_, ho⟩ := hm; Heap.lt_size ho
  have hlen : es.length = ks.length := by have := All2.length hks; simpa using this
  have hpos : 0 < ks.length := by cases ks with | nil => exact absurd rfl hne | cons _ _ => simp
  refine call_max_walk (iter_view hv hm ?_)
  refine ⟨_, _, _, _, _, _, fun i j => O.lt (ks.getD j O.dflt) (ks.getD i O.dflt), rfl, walks_tree (n := n) (es := es) hh (Nat.ne_of_lt hxs), ⟨⟨_, Heap.get?_push_size _ rfl, rfl, rfl⟩, hm.at fun o e => Heap.get?_push_of_some _ e⟩, ?_, by omega, ?_, ?_⟩
  · intro b hb
    rw [Heap.size_push]
    rcases List.mem_cons.mp hb with rfl | hb
    · exact Nat.lt_succ_self _
    · rw [List.mem_singleton.mp hb]; exact Nat.lt_succ_of_lt hxs
  · intro i j vi vj s' Q' E' hi hj q
    obtain ⟨ei, hei, rfl⟩ := hi
    obtain ⟨ej, hej, rfl⟩ := hj
    have key : ∀ (i : Nat) (e : DictEntry), es[i]? = some e → O.knd.is (ks.getD i O.dflt) e.key = true := by
      intro i e he
      have hi : i < ks.length := by rw [← hlen]; exact (List.getElem?_eq_some_iff.mp he).1
      obtain ⟨u, hu, hr⟩ := hks.get? i ks[i] (by simp [hi])
      rw [List.getElem?_map, he] at hu
      cases hu
      rw [List.getD_eq_getElem?_getD, List.getElem?_eq_getElem hi]; exact hr
    exact O.cGt (key i ei hei) (key j ej hej) q
  · intro u h' tk hP hk
    obtain ⟨e, he, rfl⟩ := hP
    have hi := (List.getElem?_eq_some_iff.mp he).1
    obtain ⟨u, hu, hr⟩ := hks.get? _ ks[argBest (fun i j => O.lt (ks.getD j O.dflt) (ks.getD i O.dflt)) (es.length - 1)] (List.getElem?_eq_getElem (by omega))
    rw [List.getElem?_map, he] at hu
    cases hu
    refine h h' tk e.key _ (fun b o q => hk b o (fun hb => ?_) (Heap.get?_push_of_some _ q)) (List.getElem_mem _) (fun k' hk' => ?_) hr
    · rw [List.mem_singleton.mp hb] at q
      exact absurd (Heap.lt_size q) (Nat.lt_irrefl _)
    · obtain ⟨m, hm', rfl⟩ := List.mem_iff_getElem.mp hk'
      have := argBest_max O (fun i => ks.getD i O.dflt) (es.length - 1) m (by omega)
      have hb : argBest (fun i j => O.lt (ks.getD j O.dflt) (ks.getD i O.dflt)) (es.length - 1) < ks.length := by omega
      simp only [List.getD_eq_getElem?_getD, List.getElem?_eq_getElem hm', Option.getD_some] at this
      rw [List.getElem?_eq_getElem (by simpa only [List.getD_eq_getElem?_getD] using hb)] at this
      simpa only [List.getD_eq_getElem?_getD, Option.getD_some] using this

theorem max_view_empty {Q : Value → Shared → Prop} (hh : A.handled = none) (hv : KdlKeysView s.heap v x) (hm : TreeIs s.heap x [] n)
    (h : ∀ h' tk e, Heap.NewExc s.heap h' e "ValueError" → E (.ref e) { s with heap := h', toks := tk }) :
    wpAny (model prog w) A (call (.builtin "max") [.ref v]) Q E s := by
  have hname : (toString "max" ++ toString ".loop" : String) = "max.loop" := by decide
  refine call_function_tree F.kind_max F.plain_max F.entry_max (F.args_max1 _) ?_
  show wpAny _ A.in1 (Builtin.Builtins.bindParams "max" ["key", "default"] 0 ⟨[], []⟩ >>= _) _ _ s
  refine wpAny_bind (wpAny_of_eq (show Builtin.Builtins.bindParams "max" ["key", "default"] 0 ⟨[], []⟩ = pure [none, none] from rfl) ?_)
  refine wpAny_bind (wpAny_pure ?_)
  refine wpAny_bind (iter_view hv hm ?_)
  refine wpAny_bind (wpAny_newObj_type ?_)
  rw [hname]
  refine wpAny_pure ⟨plainId_quiet F.plain_max_loop _, ?_⟩
  refine codeAny_builtin F.entry_max_loop ?_
  rw [Around.under_plainId F.plain_max_loop _]
  have hS : ((s.heap.push { cls := .type "dict_keyiterator", data := .fields #[.ref x, .int 0 0, .int ([] : List DictEntry).length 0, .int n 0] }).push { cls := .type "list", data := .seq #[] }).get? (s.heap.push { cls := .type "dict_keyiterator", data := .fields #[.ref x, .int 0 0, .int ([] : List DictEntry).length 0, .int n 0] }).objs.size = some { cls := .type "list", data := .seq #[] } := Heap.get?_push_size _ rfl
  show wpAny _ A.in1 (seqItems? (.ref _) >>= _) _ _ _
  refine wpAny_bind (wpAny_seqItems hS rfl ?_)
  show wpAny _ A.in1 (tryCatch (pyNext (.ref s.heap.objs.size)) _ >>= _) _ _ _
  refine wpAny_bind (wpAny_tryCatch (next_end (es := []) (n := n) (x := x) (i := 0) hh ⟨_, Heap.get?_push_of_some _ (Heap.get?_push_size _ rfl), rfl, rfl⟩ (hm.at fun o e => Heap.get?_push_of_some _ (Heap.get?_push_of_some _ e)) rfl fun h' he' => ?_))
  have st : s.heap.StaysIn h' := fun b o e => he' b o (Nat.ne_of_lt (Heap.lt_size e)) (Heap.get?_push_of_some _ (Heap.get?_push_of_some _ e))
  show wpAny _ A.in1 (rule _ >>= fun _ => raiseErrorMade "ValueError" _) _ _ _
  refine wpAny_bind (wpAny_rule ?_)
  refine wpAny_raiseErrorMade plainExc_ValueError (A := A.in1) hh (fun h2 tk e X => ?_) ?hm
  case hm => decide +kernel
  exact h h2 tk e ⟨fun b o q => X.keeps b o (st b o q), by
    cases q : s.heap.get? e with
    | none => rfl
    | some o => (have := X.new; rw [st _ _ q] at this; cases this)
    , X.there⟩
end
end Mine

-- part T8
namespace Mine
theorem walk_off_T8 : True := by w_top off; trivial

theorem fill8 : (fun w : World => Mine.hd.heap_39 w.params) = (fun w => Mine.hd.heap_39 w.params) ∧ Challenge.rw_bt5022_01 = Challenge.rw_bt5022_01 := by k_fill; exact ⟨rfl, rfl⟩
theorem K_getattr (w : World) : findIn (Mine.hd.heap_39 w.params) (.ref 46) "__getattr__" = some none := by k_is
theorem K_keys (w : World) : findIn (Mine.hd.heap_39 w.params) (.ref 46) "keys" = some (some (.ref 37)) := by k_is
theorem K_values (w : World) : findIn (Mine.hd.heap_39 w.params) (.ref 46) "values" = some (some (.ref 43)) := by k_is
theorem K_maxKey (w : World) : findIn (Mine.hd.heap_39 w.params) (.ref 46) "maxKey" = some (some (.ref 30)) := by k_is
theorem K_pop (w : World) : findIn (Mine.hd.heap_39 w.params) (.ref 46) "pop" = some (some (.builtin "dict.pop")) := by k_is
theorem K_ty37 (w : World) : typeIn (Mine.hd.heap_39 w.params) (.ref 37) = some (.type "function") := by k_is
theorem K_ty43 (w : World) : typeIn (Mine.hd.heap_39 w.params) (.ref 43) = some (.type "function") := by k_is
theorem K_ty30 (w : World) : typeIn (Mine.hd.heap_39 w.params) (.ref 30) = some (.type "function") := by k_is
theorem K_typop (w : World) : typeIn (Mine.hd.heap_39 w.params) (.builtin "dict.pop") = some (.type "method_descriptor") := by k_is
theorem K_typkeys (w : World) : typeIn (Mine.hd.heap_39 w.params) (.builtin "dict.keys") = some (.type "method_descriptor") := by k_is
theorem K_third (w : World) : nsIn (Mine.hd.heap_39 w.params) cStatics "thirdparty.any" = some none := by k_is

section
variable {prog : Program} {w : World} {A : Around} {E : Value → Shared → Prop} {s : Shared} {x dx : Addr} {es : List DictEntry} {n m : Nat}

theorem getMethod_sub {name : Str} {f tf : Value} {pl : Sem Bool} {Q : Value × List Value → Shared → Prop} (X : (Mine.hd.heap_39 w.params).In s.heap) (hx : s.heap.get? x = some (treeObj dx es n)) (hdx : s.heap.get? dx = some (dictOf [] m))
    (e : findIn (Mine.hd.heap_39 w.params) (.ref 46) name = some (some f)) (ht : typeIn (Mine.hd.heap_39 w.params) f = some tf) (htf : (tf != Value.type "function" && tf != .type "method_descriptor" && tf != .type "wrapper_descriptor") = false)
    (h : Q (f, [.ref x]) s) : wpAny (model prog w) A (getMethod (.ref x) name pl) Q E s := by
  obtain ⟨hh, g, d, t, os⟩ := s
  have L1 := looks_special (M := model prog w) X hx rfl (K_ga w)
  have L2 := looks_special (M := model prog w) X hx rfl (K_getattr w)
  have L3 := looks_special (M := model prog w) X hx rfl e
  have L4 := looks_typeIn (M := model prog w) X ht
  unfold getMethod
  refine wpAny_bind (L1.at ?_)
  show wpAny _ _ (if (Manifest.canonical "dict.__getattribute__" != "object.__getattribute__") = true then _ else _) _ _ _
  rw [if_neg (by decide +kernel)]
  refine wpAny_bind (L2.at ?_)
  show wpAny _ _ (if (none : Option Value).isSome = true then _ else _) _ _ _
  rw [if_neg (by decide)]
  refine wpAny_bind (L3.at ?_)
  refine wpAny_bind (L4.at ?_)
  rw [if_neg (by rw [htf]; decide)]
  refine wpAny_bind (wpAny_loadPart hx ?_)
  show wpAny _ _ (nsGet dx name >>= _) _ _ _
  refine wpAny_bind ?_
  unfold nsGet
  refine wpAny_bind (wpAny_loadPart hdx ?_)
  rw [nsLook_of (r := none) (by simp [lookIn])]
  refine wpAny_pure ?_
  show wpAny _ _ (if (none : Option Value).isSome = true then _ else _) _ _ _
  rw [if_neg (by decide)]
  exact wpAny_bind (wpAny_rule (wpAny_pure h))

theorem len_sub {Q : Value → Shared → Prop} (X : (Mine.hd.heap_39 w.params).In s.heap) (hx : s.heap.get? x = some (treeObj dx es n)) (hlo : (x == sysModules) = false) (hlen : es.length ≤ 1000)
    (h : ∀ t, Q (.int es.length t) { s with toks := s.toks + 1 + 1 }) : wpAny (model prog w) A (call (.builtin "len") [.ref x]) Q E s := by
  refine Calls.call_function_entry kind_len plain_len entry_len (args_len1 _) ?_
  unfold Builtin.«len»
  refine wpAny_bind (m := oneArg "len" _) (wpAny_pure ?_)
  refine wpAny_bind (special_sub (n := "__len__") X hx rfl (K_len w) (F.slot_dict_len.bind _) (by decide +kernel) (by decide +kernel) F.slot_dict_len.plain F.entry_dict_len (F.args_dict_len_1 _) ?_)
  unfold Builtin.«dict.__len__»
  refine wpAny_bind ?_
  refine wpAny_bind ?_
  refine notOrdered_sub X hx rfl ?_
  refine wpAny_bind (m := slotArgs _ _ _) (wpAny_pure (wpAny_pure ?_))
  refine wpAny_bind (m := Builtin.Dict.addrOf _) (wpAny_pure ?_)
  refine wpAny_bind (m := dictSize x) ?_
  unfold dictSize
  refine wpAny_bind (wpAny_dictEntries hx rfl (wpAny_pure ?_))
  refine wpAny_bind (m := Builtin.Dict.pendingCount x) ?_
  unfold Builtin.Dict.pendingCount
  rw [if_neg (by rw [hlo]; decide)]
  refine wpAny_pure ?_
  refine wpAny_bind (wpAny_mkInt (wpAny_pure ⟨_, rfl, ?_⟩))
  have ez : ((((es.toArray.size : Nat) : Int)) + ((0 : Nat) : Int)) = (es.length : Int) := by simp
  show wpAny _ _ _ _ _ { s with toks := s.toks + 1 }
  rw [ez]
  refine wpAny_bind (wpAny_holding (wpAny_pure ?_))
  refine wpAny_bind (wpAny_letGo ?_)
  show wpAny _ _ (if (es.length : Int) < 0 then _ else _) _ _ _
  rw [if_neg (by omega)]
  show wpAny _ _ (if (es.length : Int) ≥ 2 ^ 63 then _ else _) _ _ _
  rw [if_neg (by omega)]
  exact wpAny_bind (wpAny_mkInt (wpAny_pure ⟨_, rfl, h _⟩))

variable {K : Type} [DecidableEq K] {knd : PySem.KeyKind prog w K} {l1 l2 : List (K × Int)} {p : K × Int} {key : Value}

theorem pop_hit {Q : Value → Shared → Prop} (X : (Mine.hd.heap_39 w.params).In s.heap) (hx : s.heap.get? x = some (treeObj dx es n)) (he : Ents knd es (l1 ++ p :: l2)) (hn : ∀ q ∈ l1, q.1 ≠ p.1) (hkey : knd.is p.1 key = true) (hkp : (keyPart key).isSome = true) (hlen : (l1 ++ p :: l2).length ≤ 1000)
    (h : ∀ es' n' h' t, h'.get? x = some (treeObj dx es' n') → Ents knd es' (l1 ++ l2) → Heap.SameBut x s.heap h' → Q (.int p.2 t) { s with heap := h', toks := s.toks + 1 }) :
    wpAny (model prog w) A (call (.builtin "dict.pop") [.ref x, key]) Q E s := by
  have he0 := he
  have hl := All2.length he
  obtain ⟨e1, e, e2, rfl, h1, hr, h2⟩ := All2.split he
  refine call_sub (n := "pop") X hx rfl (by decide +kernel) (by decide +kernel) F.slot_dict_pop.plain F.entry_dict_pop (F.args_dict_pop_2 _ _) ?_
  unfold Builtin.«dict.pop»
  refine wpAny_bind ?_
  unfold Builtin.Dict.keyAndDefault
  refine wpAny_bind (notOrdered_sub X hx rfl ?_)
  refine wpAny_bind (m := Builtin.Dict.nameIsSure _ _ _) (wpAny_pure ?_)
  refine wpAny_bind (m := selfAndSome _ _ _ _ _) (wpAny_pure ?_)
  refine wpAny_bind (m := Builtin.Dict.addrOf _) (wpAny_pure (wpAny_pure ?_))
  show wpAny _ _ (if (keyPart key).isSome = true then _ else _) _ _ _
  rw [if_pos hkp]
  refine wpAny_bind (wpAny_pure ?_)
  show wpAny _ _ (Builtin.Dict.takeOut x key >>= _) _ _ _
  refine wpAny_bind ?_
  unfold Builtin.Dict.takeOut
  try with_reducible refine wpAny_holding ?_
  refine wpAny_bind (knd.pyHash hkey ?_)
  refine wpAny_bind (wpAny_dictFind_of (s := { s with toks := s.toks + 1 }) hkey hx rfl he0.keysOf ?_)
  rw [Ents.find_some h1 hr hn]
  refine wpAny_bind (wpAny_dictEntries (s := { s with toks := s.toks + 1 }) hx rfl ?_)
  have hget : (e1 ++ e :: e2).toArray[e1.length]? = some e := by simp
  simp only [hget]
  refine wpAny_bind (wpAny_updateDictKeys (hz := by rw [List.size_toArray, hl]; exact Nat.le_trans hlen (by decide)) (hf := by have h9 := List.length_eraseIdx_le (e1 ++ e :: e2) e1.length; simp at h9 ⊢; omega) (s := { s with toks := s.toks + 1 }) hx rfl (wpAny_pure ?_))
  show wpAny _ _ (letGo [e.key] [e.val] >>= fun _ => ret e.val) _ _ _
  refine wpAny_bind (wpAny_letGo ?_)
  obtain ⟨_, _, t, ht⟩ := hr
  rw [ht]
  refine wpAny_pure ⟨_, rfl, h (e1 ++ e2) (n + 1) _ t ((Heap.get?_update_self _ hx rfl).trans ?_) (All2.append h1 h2) (Heap.SameBut.update ..)⟩
  show some (Obj.mapDictKeys _ (treeObj dx (e1 ++ e :: e2) n)) = _
  simp [Obj.mapDictKeys, treeObj, Array.eraseIdxIfInBounds, List.eraseIdx_append_of_length_le]
end
end Mine

-- part T9
namespace Mine
theorem walk_off_T9 : True := by w_top off; trivial

theorem fill9 : (fun w : World => Mine.hd.heap_39 w.params) = (fun w => Mine.hd.heap_39 w.params) ∧ Challenge.rw_bt5022_01 = Challenge.rw_bt5022_01 := by k_fill; exact ⟨rfl, rfl⟩

theorem K_super (w : World) : ∃ cd, clsIn (Mine.hd.heap_39 w.params) 46 = some cd ∧ alongIn (Mine.hd.heap_39 w.params) "keys" ((cd.mro.dropWhile (· != .ref 46)).drop 1) = some (some (.builtin "dict.keys")) ∧ cd.qualname = Str.ofString "OOBTree" := ⟨_, by k_is, by kernel_rfl, rfl⟩

theorem slot_md_get : Slot "method_descriptor" "__get__" "method_descriptor.__get__" := .of (owner := "method_descriptor") (n := "__get__") (by rw [typeLookup_type, builtinLookup_eq_fast]; kernel_rfl) (by decide +kernel) (by decide +kernel) (by decide +kernel)
  (by first | exact .inl (by decide +kernel) | exact .inr (by decide +kernel)) (by rw [isSubtype_type]; kernel_rfl)
theorem entry_md_get : entryFor table "method_descriptor.__get__" = some Builtin.«method_descriptor.__get__» := entryFor_of_tree (by kernel_rfl)
theorem args_md_get (a b c : Value) : argsOk "method_descriptor.__get__" ⟨[a, b, c], []⟩ := by unfold argsOk; kernel_rfl
theorem ty_keys : typeOf (.builtin "dict.keys") = pure (.type "method_descriptor") := by show builtinType _ = _; rw [builtinType_eq_fast]; kernel_rfl

abbrev boundKeys (x : Addr) : Obj := { cls := .type "builtin_function_or_method", data := .fields #[.builtin "dict.keys", .ref x] }

def chkKeys (x : Value) : Sem Unit := do
  let (name, cls) ← (pure (("keys" : Str), Value.type "dict") : Sem (Str × Value))
  if !(← isInstance x cls) then
    rule "descr.get.wrong-instance"
    raiseError "TypeError" s!"descriptor '{name.toString}' for '{← typeName cls}' objects doesn't apply to a '{← PySem.typeNameOf x}' object"
theorem md_eq (x c : Addr) : Builtin.«method_descriptor.__get__» ⟨[.builtin "dict.keys", .ref x, .ref c], []⟩ = (do chkKeys (.ref x); ret (← newFields "builtin_function_or_method" [.builtin "dict.keys", .ref x])) := by kernel_rfl

section
variable {prog : Program} {w : World} {A : Around} {E : Value → Shared → Prop} {s : Shared} {x dx so : Addr} {es : List DictEntry} {n m : Nat}

theorem md_get_keys {ox : Obj} {Q : PySem.Fin → Shared → Prop} (X : (Mine.hd.heap_39 w.params).In s.heap) (hx : s.heap.get? x = some ox) (hc : ox.cls = .ref 46)
    (hq : Q (.done (.ret (.ref s.heap.objs.size))) { s with heap := s.heap.push (boundKeys x) }) :
    wpAny (model prog w) A (Builtin.«method_descriptor.__get__» ⟨[.builtin "dict.keys", .ref x, .ref 46], []⟩) Q E s := by
  obtain ⟨hh, g, d, t, os⟩ := s
  have L := looks_isDict (M := model prog w) X hx hc (K_mro w)
  rw [md_eq]
  refine wpAny_bind ?_
  unfold chkKeys
  refine wpAny_bind (wpAny_pure ?_)
  refine wpAny_bind (L.at ?_)
  refine wpAny_pure ?_
  exact wpAny_bind (wpAny_newObj_type (wpAny_pure hq))

theorem super_ga_keys {ox : Obj} {tk : Tok} {Q : PySem.Fin → Shared → Prop} (X : (Mine.hd.heap_39 w.params).In s.heap) (hx : s.heap.get? x = some ox) (hc : ox.cls = .ref 46) (hxC : x ≠ 46)
    (hso : s.heap.get? so = some (ks_superObj 46 x 46)) (hq : Q (.done (.ret (.ref s.heap.objs.size))) { s with heap := s.heap.push (boundKeys x) }) :
    wpAny (model prog w) A (Builtin.«super.__getattribute__» ⟨[.ref so, .str (Str.ofString "keys") tk], []⟩) Q E s := by
  have HG : ∀ {Q' : Value → Shared → Prop}, Q' (.ref s.heap.objs.size) { s with heap := s.heap.push (boundKeys x) } → wpAny (model prog w) A (call (.builtin "method_descriptor.__get__") [.builtin "dict.keys", .ref x, .ref 46]) Q' E s := by
    intro Q' q
    exact wpAny_call_entry slot_md_get ty_keys entry_md_get (md_get_keys X hx hc ⟨_, rfl, q⟩) (args_md_get _ _ _)
  obtain ⟨cd, hcd, hal, _⟩ := K_super w
  have hne : (Value.ref x == Value.ref 46) = false := by simp [hxC]
  obtain ⟨hh, g, d, t, os⟩ := s
  have hno := looks_opaque (M := model prog w) (C := 46) X (K_third w)
  have hC : Looks (model prog w) hh (mroOf (.ref 46)) cd.mro := (looks_clsIn X hcd).andThen .now
  have hdt : (ks_superObj 46 x 46).data = .fields #[.ref 46, .ref x, .ref 46] := rfl
  have f0 : (#[.ref 46, .ref x, .ref 46] : Array Value)[0]? = some (.ref 46) := rfl
  have f1 : (#[.ref 46, .ref x, .ref 46] : Array Value)[1]? = some (.ref x) := rfl
  have f2 : (#[.ref 46, .ref x, .ref 46] : Array Value)[2]? = some (.ref 46) := rfl
  have hlk := slot_md_get.lookup
  have hn : ((Str.ofString "keys") == ("__class__" : Str)) = false := by decide
  have hty := ty_keys
  unfold Builtin.«super.__getattribute__»
  repeat (first
    | (with_reducible refine wpAny_field hso hdt f0 ?_) | (with_reducible refine wpAny_field hso hdt f1 ?_) | (with_reducible refine wpAny_field hso hdt f2 ?_)
    | (with_reducible refine ks_wpAny_notOpaque hno ?_)
    | (with_reducible refine Looks.at hC ?_)
    | (refine ks_forIn_along X (fun _ _ => rfl) rfl ?_ hal)
    | (with_reducible refine HG ?_)
    | (with_reducible refine ⟨_, rfl, ?_⟩)
    | (simp only [hn, hne, Bool.or_false, Bool.false_eq_true, if_false])
    | wp_step
    | dsimp only)
  all_goals exact hq

theorem getMethod_super {pl : Sem Bool} {ox : Obj} {Q : Value × List Value → Shared → Prop} (X : (Mine.hd.heap_39 w.params).In s.heap) (hx : s.heap.get? x = some ox) (hc : ox.cls = .ref 46) (hxC : x ≠ 46)
    (hso : s.heap.get? so = some (ks_superObj 46 x 46)) (hq : Q (.ref s.heap.objs.size, []) { s with heap := s.heap.push (boundKeys x), toks := s.toks + 1 }) :
    wpAny (model prog w) A (getMethod (.ref so) "keys" pl) Q E s := by
  have hlk := F.ks_slot_super_ga.lookup
  have hcan := F.ks_canon_super_ga
  have hT : ∀ t', ({ s with toks := t' } : Shared).TypeIs (.ref so) "super" := fun _ => ⟨_, hso, rfl⟩
  unfold getMethod
  refine wpAny_bind (wpAny_specialOf (hT s.toks) hlk ?_)
  show wpAny _ _ (if (Manifest.canonical "super.__getattribute__" != "object.__getattribute__") = true then _ else _) _ _ _
  rw [if_pos hcan]
  unfold getAttr getAttrBy
  refine wpAny_bind (wpAny_bind (wpAny_mkText (wpAny_holding (wpAny_bind (wpAny_typeOf (hT _) (wpAny_bind (wpAny_of_eq hlk ?_)))))))
  show wpAny _ _ (getAttrByItsOwn (.ref so) (.str "keys" s.toks) (.type "super") (.builtin "super.__getattribute__") true false) _ _ _
  unfold getAttrByItsOwn hookBefore callGetattribute boundAndCalled
  refine wpAny_bind (wpAny_of_eq (show (if onTheHeap (.type "super") then typeLookup (.type "super") "__getattr__" else pure none) = pure none from rfl) ?_)
  refine wpAny_bind (wpAny_attempt (wpAny_holding ?_))
  show wpAny _ _ (bindSpecial (.builtin "super.__getattribute__") (.ref so) >>= _) _ _ _
  refine wpAny_bind (wpAny_of_eq (F.ks_slot_super_ga.bind _) ?_)
  refine wpAny_mono (Q := fun v s' => v = .ref s.heap.objs.size ∧ s' = { s with heap := s.heap.push (boundKeys x), toks := s.toks + 1 }) (E := fun _ _ => False)
    (wpAny_call_entry F.ks_slot_super_ga (hT _) F.ks_entry_super_ga (super_ga_keys (s := { s with toks := s.toks + 1 }) X hx hc hxC hso ⟨_, rfl, rfl, rfl⟩) (F.ks_gaArgs_super _ _)) (fun v s' hv => ?_) fun _ _ z => z.elim
  obtain ⟨rfl, rfl⟩ := hv
  exact wpAny_pure (wpAny_pure hq)

theorem callWith_boundKeys {pos : Pos} {q : Addr} {Q : Value → Shared → Prop} (hq : s.heap.get? q = some (boundKeys x)) (h : wpAny (model prog w) A (call (.ref q) []) Q E s) :
    wpAny (model prog w) A (callWith pos (.ref q) [] [] []) Q E s := by
  unfold callWith
  refine wpAny_bind (wpAny_holding (evalArgs_kw_nil (keywords := []) rfl (wpAny_evalAll_nil ?_)))
  refine wpAny_bind (wpAny_standAt ?_)
  refine wpAny_bind (m := keeperOf (.ref q)) ?_
  unfold keeperOf
  refine wpAny_bind (wpAny_load hq ?_)
  simp only [show (Value.type "builtin_function_or_method" != Value.type "method") = true by decide, show (Value.type "builtin_function_or_method" == Value.type "builtin_function_or_method" || Value.type "builtin_function_or_method" == Value.type "method-wrapper") = true by decide, if_true]
  refine wpAny_pure ?_
  exact wpAny_bind (wpAny_mono h (fun r s₂ hr => wpAny_bind (wpAny_holding (wpAny_point (wpAny_pure hr)))) fun _ _ x => x)

theorem K_module (w : World) : mroIn (Mine.hd.heap_39 w.params) 46 (.type "module") = some false := by k_is
theorem K_meta (w : World) : typeIn (Mine.hd.heap_39 w.params) (.ref 46) = some (.type "type") := by k_is
theorem check_full (x : Addr) : (match Manifest.signature? "dict.keys" with | some sig => Bind.checkArgs "dict.keys" { sig with full := "OOBTree.keys" } ⟨[.ref x], []⟩ | none => pure ()) = pure () := by
  rw [signature?_of (id := "dict.keys") (n := ['s', 'y', 'e', 'k']) (o := ['t', 'c', 'i', 'd']) (by kernel_rfl) F.owner_dict]; kernel_rfl
theorem check_full2 (x : Addr) : (match Manifest.signature? "dict.keys" with | some sig => Bind.checkArgs "dict.keys" { sig with full := "keys" } ⟨[.ref x], []⟩ | none => pure ()) = pure () := by
  rw [signature?_of (id := "dict.keys") (n := ['s', 'y', 'e', 'k']) (o := ['t', 'c', 'i', 'd']) (by kernel_rfl) F.owner_dict]; kernel_rfl

theorem checkBound_keys {Q : Unit → Shared → Prop} (X : (Mine.hd.heap_39 w.params).In s.heap) (hx : s.heap.get? x = some (treeObj dx es n)) (h : Q () s) :
    wpAny (model prog w) A (checkBoundCall "dict.keys" ⟨[.ref x], []⟩) Q E s := by
  unfold checkBoundCall
  cases hs : Manifest.signature? "dict.keys" with
  | none => exact wpAny_pure h
  | some sig =>
    have ck := check_full x
    have ck2 := check_full2 x
    rw [hs] at ck ck2
    obtain ⟨hh, g, d, t, os⟩ := s
    obtain ⟨cd, hcd, _, hqn⟩ := K_super w
    dsimp only
    rw [show builtinKind "dict.keys" = some .method by decide +kernel]
    dsimp only
    rw [if_neg (by decide)]
    refine wpAny_bind ((looks_isDict (M := model prog w) X hx rfl (K_module w)).at ?_)
    split
    · rw [show Bind.lastOf "dict.keys" = "keys" by decide +kernel]
      exact wpAny_of_eq ck2 h
    · refine wpAny_bind (ks_wpAny_isType_inst hx (fun c e => by cases e) ?_)
      show wpAny _ _ (typeOf (.ref x) >>= _) _ _ _
      refine wpAny_bind ((looks_type (M := model prog w) hx rfl).at ?_)
      show wpAny _ _ (classData 46 >>= _) _ _ _
      refine wpAny_bind ((looks_clsIn (M := model prog w) X hcd).at ?_)
      refine wpAny_bind ((looks_typeIn (M := model prog w) X (K_meta w)).at ?_)
      rw [if_pos (by decide), show (toString cd.qualname.toString ++ toString "." ++ toString (Bind.lastOf "dict.keys") : String) = "OOBTree.keys" by rw [hqn]; decide +kernel]
      exact wpAny_of_eq ck h

theorem call_boundKeys {q : Addr} {Q : Value → Shared → Prop} (X : (Mine.hd.heap_39 w.params).In s.heap) (hx : s.heap.get? x = some (treeObj dx es n)) (hlo : (x == sysModules) = false) (hq : s.heap.get? q = some (boundKeys x))
    (h : Q (.ref s.heap.objs.size) { s with heap := s.heap.push { cls := .type "dict_keys", data := .fields #[.ref x] } }) :
    wpAny (model prog w) A (call (.ref q) []) Q E s := by
  refine wpAny_call (codeAny_of_tree ?_)
  show wpAny _ A.in1 (callAny (.ref q) ⟨[], []⟩) _ _ s
  simp only [callAny]
  refine wpAny_bind (wpAny_load hq ?_)
  simp only [show (Value.type "builtin_function_or_method" == Value.type "method" || Value.type "builtin_function_or_method" == Value.type "builtin_function_or_method" || Value.type "builtin_function_or_method" == Value.type "method-wrapper") = true by decide, if_true]
  refine wpAny_bind (checkBound_keys X hx ?_)
  refine wpAny_pure ⟨Code.quiet_builtin _ (by decide +kernel), codeAny_builtin F.entry_dict_keys ?_⟩
  rw [Around.under_plainId F.slot_dict_keys.plain]
  refine wpAny_bind (m := Builtin.Dict.noArgs "keys" _) ?_
  unfold Builtin.Dict.noArgs
  refine wpAny_bind (notOrdered_sub X hx rfl ?_)
  refine wpAny_bind (m := Builtin.Dict.nameIsSure _ _ _) (wpAny_pure ?_)
  refine wpAny_bind (m := selfOnly _ _) (wpAny_pure ?_)
  refine wpAny_pure ?_
  refine wpAny_bind (m := Builtin.Dict.showsAll x) ?_
  unfold Builtin.Dict.showsAll
  rw [if_neg (by rw [hlo]; exact Bool.false_ne_true)]
  refine wpAny_pure ?_
  exact wpAny_bind (wpAny_newObj_type (wpAny_pure h))
end
end Mine

-- part T10
namespace Mine
theorem walk_off_T10 : True := by w_top off; trivial

theorem fill10 : (fun w : World => Mine.hd.heap_39 w.params) = (fun w => Mine.hd.heap_39 w.params) ∧ Challenge.rw_bt5022_01 = Challenge.rw_bt5022_01 := by k_fill; exact ⟨rfl, rfl⟩

theorem K46 (w : World) : ∃ oc od cd sl, (Mine.hd.heap_39 w.params).lookup 46 = some ⟨oc, od, .cls cd, sl⟩ ∧ cd.hasDel = false ∧ (sl.toList[4]?).join = some (.builtin "dict.__new__") ∧ cd.mro = [.ref 46, .type "dict", .type "object"] := ⟨_, _, _, _, by k_is, rfl, rfl, rfl⟩
theorem K_call (w : World) : specialIn (Mine.hd.heap_39 w.params) (.ref 46) "__call__" = some (some (.builtin "type.__call__")) := by k_is
theorem K_typ (w : World) : instIn (Mine.hd.heap_39 w.params) (.ref 46) (.type "type") = some true := by k_is
theorem K_self (w : World) : mroIn (Mine.hd.heap_39 w.params) 46 (.ref 46) = some true := by k_is
theorem K_init (w : World) : findIn (Mine.hd.heap_39 w.params) (.ref 46) "__init__" = some (some (.builtin "dict.__init__")) := by k_is
theorem kind_dn : builtinKind "dict.__new__" = some .builtinFn := by decide +kernel
theorem split_dn : splitId "dict.__new__" = some ("dict", "__new__") := by decide +kernel
theorem entry_dn : entryFor table "dict.__new__" = some Builtin.«dict.__new__» := entryFor_of_tree (by kernel_rfl)
theorem quiet_dn : (Code.builtin "dict.__new__" ⟨[.ref 46], []⟩).quiet = true := Code.quiet_builtin _ (by decide +kernel)
theorem plain_dn : plainId "dict.__new__" = true := by decide +kernel
theorem sig_dn : (match Manifest.signature? "dict.__new__" with | some sig => Bind.checkArgs "dict.__new__" sig ⟨[.ref 46], []⟩ | none => pure ()) = pure () := by
  rw [signature?_of (id := "dict.__new__") (n := ['_', '_', 'w', 'e', 'n', '_', '_']) (o := ['t', 'c', 'i', 'd']) (by kernel_rfl) F.owner_dict]; kernel_rfl

section
variable {prog : Program} {w : World} {A : Around} {E : Value → Shared → Prop} {h : Heap} {g : Array GenState} {d : Drawn} {t : Nat} {os : OsState}

abbrev newTree (h : Heap) : Heap := (h.push emptyDict).push ⟨.ref 46, some h.objs.size, .dict #[], #[]⟩

theorem made46 {M : Model} (X : (Mine.hd.heap_39 w.params).In h) : Looks M h (Bind.madeBy (.ref 46)) (some "dict.__new__") := by
  obtain ⟨oc, od, cd, sl, ho, h1, h2, h3⟩ := K46 w
  have hc : clsIn (Mine.hd.heap_39 w.params) 46 = some cd := by unfold clsIn; rw [ho]
  have hm : Looks M h (mroOf (.ref 46)) cd.mro := (looks_clsIn X hc).andThen .now
  intro A Q E s k q
  unfold Bind.madeBy
  refine wpAny_bind (hm A _ E s k ?_)
  rw [h3, List.forIn_cons]
  refine wpAny_bind (wpAny_bind (wpAny_bind (wpAny_bind (wpAny_loadPart (k _ _ (X _ _ ho)) (wpAny_pure ?_)))))
  dsimp only
  rw [← Array.getElem?_toList, h2]
  exact wpAny_pure (wpAny_pure (wpAny_pure q))
theorem base46 {M : Model} (X : (Mine.hd.heap_39 w.params).In h) : Looks M h (Bind.staticBase (.ref 46)) (.ref 46) := by
  obtain ⟨oc, od, cd, sl, ho, h1, h2, h3⟩ := K46 w
  have hc : clsIn (Mine.hd.heap_39 w.params) 46 = some cd := by unfold clsIn; rw [ho]
  have hm : Looks M h (mroOf (.ref 46)) cd.mro := (looks_clsIn X hc).andThen .now
  intro A Q E s k q
  unfold Bind.staticBase
  refine wpAny_bind (hm A _ E s k ?_)
  rw [h3, List.forIn_cons]
  exact wpAny_bind (wpAny_bind (wpAny_bind (made46 X A _ E s k (wpAny_pure (wpAny_pure (wpAny_pure q))))))
theorem isType46 {M : Model} (X : (Mine.hd.heap_39 w.params).In h) : Looks M h (isType (.ref 46)) true := by
  obtain ⟨oc, od, cd, sl, ho, h1, h2, h3⟩ := K46 w
  exact (Looks.ld (X _ _ ho)).andThen .now

theorem new_dict {R : Result → Shared → Prop} (X : (Mine.hd.heap_39 w.params).In h) (hq : R (.ok (.ret (.ref (h.objs.size + 1)))) ⟨newTree h, g, d, t, os⟩) :
    codeAny (model prog w) A (.call (.builtin "dict.__new__") ⟨[.ref 46], []⟩) R ⟨h, g, d, t, os⟩ := by
  obtain ⟨oc, od, cd, sl, ho, h1, h2, h3⟩ := K46 w
  have hc : clsIn (Mine.hd.heap_39 w.params) 46 = some cd := by unfold clsIn; rw [ho]
  have hm : Looks (model prog w) h (mroOf (.ref 46)) cd.mro := (looks_clsIn X hc).andThen .now
  have Lt := isType46 (M := model prog w) X
  have Ls := looks_mroIn (M := model prog w) X (K_mro w)
  have Lb := base46 (M := model prog w) X
  have Lm := made46 (M := model prog w) X
  refine codeAny_call_builtin_code quiet_dn ?_
  simp only [checkBuiltinCall, kind_dn, split_dn]
  rw [if_pos (by decide)]
  refine wpAny_bind (Lt.at ?_)
  rw [if_neg (by decide)]
  refine wpAny_bind (Ls.at ?_)
  rw [if_neg (by decide)]
  refine wpAny_bind (Lb.at ?_)
  refine wpAny_bind (Lm.at ?_)
  dsimp only
  rw [if_neg (by decide +kernel)]
  have hs := sig_dn
  have fin : codeAny (model prog w) A (.builtin "dict.__new__" ⟨[.ref 46], []⟩) R ⟨h, g, d, t, os⟩ := by
    refine codeAny_builtin entry_dn ?_
    rw [Around.under_plainId plain_dn]
    unfold Builtin.«dict.__new__»
    refine wpAny_bind (Lt.at ?_)
    rw [if_neg (by decide)]
    refine wpAny_bind (Ls.at ?_)
    rw [if_neg (by decide)]
    refine wpAny_bind (hm.at ?_)
    rw [h3, if_neg (by decide)]
    show wpAny _ _ (alloc emptyDict >>= _) _ _ _
    refine wpAny_bind (wpAny_alloc ?_)
    show wpAny _ _ (newObj (.ref 46) (.dict #[]) (some h.objs.size) >>= _) _ _ _
    refine wpAny_bind ?_
    unfold newObj
    show wpAny _ _ (newObjAsIs _ _ _) _ _ _
    unfold newObjAsIs classHasDel
    refine wpAny_bind (wpAny_alloc (wpAny_bind (wpAny_bind (wpAny_load (Heap.get?_push_of_some _ (Heap.get?_push_of_some _ (X _ _ ho))) (wpAny_pure ?_)))))
    rw [h1]
    refine wpAny_pure (wpAny_pure ?_)
    show R _ _
    rw [Heap.size_push]
    exact hq
  cases hsig : Manifest.signature? "dict.__new__" with
  | none => exact wpAny_pure fin
  | some sig =>
    rw [hsig] at hs
    exact wpAny_of_eq hs fin

theorem make_tree {Q : Value → Shared → Prop} (X : (Mine.hd.heap_39 w.params).In h) (hq : Q (.ref (h.objs.size + 1)) ⟨newTree h, g, d, t, os⟩) :
    wpAny (model prog w) A (call (.ref 46) []) Q E ⟨h, g, d, t, os⟩ := by
  obtain ⟨oc, od, cd, sl, ho, h1, h2, h3⟩ := K46 w
  have hC := X _ _ ho
  have hc : clsIn (Mine.hd.heap_39 w.params) 46 = some cd := by unfold clsIn; rw [ho]
  have call := looks_specialIn (M := model prog w) X (K_call w)
  have typ := looks_instIn (M := model prog w) X (K_typ w)
  have made := made46 (M := model prog w) X
  have self := looks_mroIn (M := model prog w) X (K_self w)
  have hi := looks_findIn (M := model prog w) X (K_init w)
  have e4 : cd.mro.isEmpty = false := by rw [h3]; rfl
  refine wpAny_call (codeAny_of_tree ?_)
  show wpAny _ _ (callAny (.ref 46) _) _ _ _
  refine nd_load hC ?_
  show wpAny _ _ (callAny.viaDunder (.ref 46) _) _ _ _
  unfold callAny.viaDunder
  refine wpAny_bind (call.at ?_)
  dsimp only
  rw [tc_bind]
  refine wpAny_bind (wpAny_pure (wpAny_bind (wpAny_pure ?_)))
  refine wpAny_pure (a := Fin.again (.call (.builtin "type.__call__") ⟨.ref 46 :: [], []⟩)) (And.intro rfl ?_)
  refine codeAny_call_builtin_at (Code.quiet_builtin _ (by decide +kernel)) entry_typeCall (check_slot tc_kind tc_split typ (tc_args _ _ _) ?_)
  unfold Builtin.«type.__call__»
  have hm : Looks (model prog w) h (mroOf (.ref 46)) cd.mro := ((Looks.ld (part := none) hC).andThen .now).andThen .now
  repeat (first | simp only [e4, Bool.false_eq_true, if_false] | with_reducible refine wpAny_call ?_ | lk)
  refine new_dict X ?_
  have k : ∀ b o, h.get? b = some o → (newTree h).get? b = some o := fun b o e => Heap.get?_push_of_some _ (Heap.get?_push_of_some _ e)
  have hx : (newTree h).get? (h.objs.size + 1) = some (treeObj h.objs.size [] 0) := by heap_get
  have t1 : Looks (model prog w) (newTree h) (typeOf (.ref (h.objs.size + 1))) (.ref 46) := (Looks.ld hx).andThen .now
  have s1 := self.keeps k
  have i1 := hi.keeps k
  have b1 : Looks (model prog w) (newTree h) (bindSpecial (.builtin "dict.__init__") (.ref (h.objs.size + 1))) (.builtin "dict.__init__", [.ref (h.objs.size + 1)]) := Looks.of_pure (F.slot_dict_init.bind _)
  unfold isInstance callSpecial? specialOf
  repeat (first | with_reducible refine wpAny_call ?_ | lk)
  have X' : (Mine.hd.heap_39 w.params).In (newTree h) := X.keeps k
  refine codeAny_call_builtin F.slot_dict_init.plain F.entry_dict_init (check_sub (n := "__init__") (ox := treeObj h.objs.size [] 0) X' hx rfl (by decide +kernel) (by decide +kernel) (F.args_dict_init_1 _) ?_)
  unfold Builtin.«dict.__init__»
  refine wpAny_bind (m := Builtin.Dict.selfAndRest _ _) ?_
  unfold Builtin.Dict.selfAndRest
  refine wpAny_bind (notOrdered_sub (es := []) (n := 0) X' hx rfl ?_)
  refine wpAny_bind (m := Builtin.Dict.addrOf _) (wpAny_pure (wpAny_pure ?_))
  show wpAny _ _ (Builtin.Dict.addKeywords (h.objs.size + 1) [] >>= fun _ => ret .none) _ _ _
  refine wpAny_bind (m := Builtin.Dict.addKeywords (h.objs.size + 1) []) (wpAny_pure (wpAny_pure ?_))
  refine wpAny_pure (wpAny_bind (wpAny_pure ?_))
  exact wpAny_pure hq
end
end Mine

-- part F1
namespace Mine
theorem walk_off_F1 : True := by w_top off; trivial

section
variable {prog : Program} {w : World} {K : Type} [DecidableEq K] (O : KOrd prog w K)
/-- a bound: none, or a key -/
def Bnd (v : Value) (b : Option K) : Prop := (v = .none ∧ b = none) ∨ ∃ k, b = some k ∧ O.knd.is k v = true
def lob (b : Option K) (k : K) : Bool := match b with | none => true | some l => !O.lt k l
def hib (c : Option K) (k : K) : Bool := match c with | none => true | some h => !O.lt h k
def inb (b c : Option K) (k : K) : Bool := lob O b k && hib O c k
/-- one pair, as the plain lists hold it -/
def PairIs (h : Heap) (v : Value) (p : K × Int) : Prop := ∃ t kv tt, v = .ref t ∧ IsTup h t [kv, .int p.2 tt].toArray ∧ O.knd.is p.1 kv = true
def PairsIn (h : Heap) (vs : List Value) (ps : List (K × Int)) : Prop := All2 (PairIs O h) vs ps
/-- a plain list of pairs -/
def PrsAt (h : Heap) (a : Addr) (ps : List (K × Int)) : Prop := ∃ vs, h.PlainList a vs.toArray ∧ PairsIn O h vs ps ∧ vs.length < 64
variable {O}
theorem PairIs.at {h h' : Heap} {v : Value} {p : K × Int} (x : PairIs O h v p) (k : h.StaysIn h') : PairIs O h' v p := let ⟨t, kv, tt, e, i, o⟩ := x; ⟨t, kv, tt, e, i.keeps k, o⟩
theorem PairsIn.at {h h' : Heap} {vs : List Value} {ps : List (K × Int)} (x : PairsIn O h vs ps) (k : h.StaysIn h') : PairsIn O h' vs ps := All2.imp x fun _ _ r => r.at k
theorem PrsAt.at {h h' : Heap} {a : Addr} {ps : List (K × Int)} (x : PrsAt O h a ps) (k : h.StaysIn h') : PrsAt O h' a ps := let ⟨vs, e, i, l⟩ := x; ⟨vs, e.at fun o => k a o, i.at k, l⟩

/-- a table, and the sorted pairs that it holds -/
structure Tab (O : KOrd prog w K) (h : Heap) (x : Addr) (ps : List (K × Int)) : Prop where
  at_ : ∃ dx es n m kvs, h.get? x = some (treeObj dx es n) ∧ h.get? dx = some (dictOf [] m) ∧ Ents O.knd es kvs ∧ kvs.Perm ps
  sorted : ps.Pairwise (fun p q => O.lt p.1 q.1 = true)
  short : ps.length < 64
  lo : (x == sysModules) = false
  ne : x ≠ 46
theorem Tab.at {h h' : Heap} {x : Addr} {ps : List (K × Int)} (t : Tab O h x ps) (k : h.StaysIn h') : Tab O h' x ps :=
  let ⟨dx, es, n, m, kvs, a, b, c, d⟩ := t.at_
  ⟨⟨dx, es, n, m, kvs, k _ _ a, k _ _ b, c, d⟩, t.sorted, t.short, t.lo, t.ne⟩
end

theorem Ok.push {w : World} {A : Around} {h₀ h : Heap} {n u : Nat} {L : Addr} {m : Str → Option Value} {env : Env} (O : Ok w A h₀ n u) (F : Fr h₀ L h m) (hf : env.frame = some L) (hk : env.scope.kind = .function) :
    Ok w (A.deeper env) h (n + 1) (u + 3) := by
  obtain ⟨mg, mb, mean, T⟩ := O.T
  obtain ⟨base, outer, A₀, B, hA⟩ := O.below
  refine ⟨O.K.keeps F.keep, ⟨mg, mb, mean, T.keeps F.keep⟩, O.hand, Nat.succ_le_succ O.depth, Nat.add_le_add_right O.units 3, ?_⟩
  have B' : Below A base outer h₀ := ⟨hA, B.stays, B.frames⟩
  exact ⟨base, env :: outer, _, pushX B' F hf hk, Around.frames_deeper hA⟩
theorem Ok.mono {w : World} {A : Around} {h : Heap} {n u n' u' : Nat} (O : Ok w A h n u) (hn : n ≤ n') (hu : u ≤ u') : Ok w A h n' u' := ⟨O.K, O.T, O.hand, Nat.le_trans O.depth hn, Nat.le_trans O.units hu, O.below⟩

section
variable {prog : Program} {w : World} {A : Around} {E : Value → Shared → Prop} {s : Shared} {K : Type} [DecidableEq K] {O : KOrd prog w K} {a b : Addr} {xs ys : List Value} {ks : List K} {Q : Value → Shared → Prop}
theorem all_true (l : List Nat) : (l.all fun _ => true) = true := by induction l with | nil => rfl | cons _ _ ih => simp [ih]
theorem Keys.both (hx : Keys O xs ks) (hy : Keys O ys ks) : ∀ j (h1 : j < xs.toArray.size) (h2 : j < ys.toArray.size), SeqAt.EqAt A.in1 s xs.toArray[j] ys.toArray[j] ((fun _ => true) j) := by
  intro j h1 h2
  have hj : j < ks.length := by have := All2.length hx; simp at h1; omega
  obtain ⟨u, hu, hru⟩ := hx.get? j ks[j] (by simp [hj])
  obtain ⟨v, hv, hrv⟩ := hy.get? j ks[j] (by simp [hj])
  have e1 : xs.toArray[j] = u := by simp at h1; rw [List.getElem?_eq_getElem h1] at hu; simpa using hu
  have e2 : ys.toArray[j] = v := by simp at h2; rw [List.getElem?_eq_getElem h2] at hv; simpa using hv
  rw [e1, e2]
  exact O.eqAt hru hrv
theorem Keys.size (hx : Keys O xs ks) (hy : Keys O ys ks) : xs.toArray.size = ys.toArray.size := by
  have := All2.length hx; have := All2.length hy; simp; omega
theorem eq_keys (hl : s.heap.IsList a xs.toArray) (hb : s.heap.IsList b ys.toArray) (hx : Keys O xs ks) (hy : Keys O ys ks) (hu : A.units < cLine) (h : Q (.bool true) s) :
    wpAny (model prog w) A (compareOp .Eq (.ref a) (.ref b)) Q E s :=
  SeqAt.RcAt.lists (e := fun _ => true) hl hb (hx.size hy) hu (hx.both hy) prog w E Q (by rw [all_true]; exact h)
theorem ne_keys (hl : s.heap.IsList a xs.toArray) (hb : s.heap.IsList b ys.toArray) (hx : Keys O xs ks) (hy : Keys O ys ks) (hu : A.units < cLine) (h : Q (.bool false) s) :
    wpAny (model prog w) A (compareOp .NotEq (.ref a) (.ref b)) Q E s :=
  SeqAt.RcNeAt.lists (e := fun _ => true) hl hb (hx.size hy) hu (hx.both hy) prog w E Q (by rw [all_true]; exact h)
theorem eq_nil (hl : s.heap.IsList a xs.toArray) (hb : s.heap.IsList b ([] : List Value).toArray) (hu : A.units < cLine) (h : Q (.bool xs.isEmpty) s) :
    wpAny (model prog w) A (compareOp .Eq (.ref a) (.ref b)) Q E s := by
  cases xs with
  | nil => exact SeqAt.RcAt.lists (e := fun _ => true) hl hb rfl hu (fun j h1 => absurd h1 (Nat.not_lt_zero _)) prog w E Q (by simpa using h)
  | cons v r => exact SeqAt.RcAt.lists_lengths hl hb (by simp) hu prog w E Q h
theorem ne_nil (hl : s.heap.IsList a xs.toArray) (hb : s.heap.IsList b ([] : List Value).toArray) (hu : A.units < cLine) (h : Q (.bool (!xs.isEmpty)) s) :
    wpAny (model prog w) A (compareOp .NotEq (.ref a) (.ref b)) Q E s := by
  cases xs with
  | nil => exact SeqAt.RcNeAt.lists (e := fun _ => true) hl hb rfl hu (fun j h1 => absurd h1 (Nat.not_lt_zero _)) prog w E Q (by simpa using h)
  | cons v r => exact SeqAt.RcNeAt.lists_lengths hl hb (by simp) hu prog w E Q h
end

section
variable {prog : Program} {w : World} {A : Around} {E : Value → Shared → Prop} {s : Shared} {K : Type} [DecidableEq K] {O : KOrd prog w K} {env : Env}
theorem keeps_rf (s : Shared) : Keeps s s := ⟨s.heap, s.toks, rfl, fun _ _ e => e⟩
theorem keeps_tr {s s' s'' : Shared} (a : Keeps s s') (b : Keeps s' s'') : Keeps s s'' := by
  obtain ⟨h, t, rfl, k⟩ := a; obtain ⟨h', t', rfl, k'⟩ := b
  exact ⟨h', t', rfl, fun b o e => k' b o (k b o e)⟩

theorem is_none {v : Value} {b : Option K} (x : Bnd O v b) {Q : Value → Shared → Prop} (h : Q (.bool b.isNone) s) : wpAny (model prog w) A (compareOp .Is v .none) Q E s := by
  rcases x with ⟨rfl, rfl⟩ | ⟨k, rfl, hk⟩
  · show wpAny _ _ (do return .bool (← isSame .none .none)) Q E s
    exact wpAny_bind (wpAny_pure (wpAny_pure h))
  · exact O.isNone hk h

/-- «(b is None or b <= X) and (c is None or X <= c)» -/
theorem bound_test {lo hi : Value} {b c : Option K} {k : K} {nl nl2 X X2 nh nh2 : Expr} {p1 p2 p3 p4 p5 p6 p7 p8 p9 : Pos} {k1 k2 : Nat}
    (blo : Bnd O lo b) (bhi : Bnd O hi c)
    (hl : ∀ s', Keeps s s' → wpAny (model prog w) A (eval nl env) (fun v s'' => v = lo ∧ Keeps s' s'') E s')
    (hl2 : ∀ s', Keeps s s' → wpAny (model prog w) A (eval nl2 env) (fun v s'' => v = lo ∧ Keeps s' s'') E s')
    (hh : ∀ s', Keeps s s' → wpAny (model prog w) A (eval nh env) (fun v s'' => v = hi ∧ Keeps s' s'') E s')
    (hh2 : ∀ s', Keeps s s' → wpAny (model prog w) A (eval nh2 env) (fun v s'' => v = hi ∧ Keeps s' s'') E s')
    (hX : ∀ s', Keeps s s' → wpAny (model prog w) A (eval X env) (fun v s'' => O.knd.is k v = true ∧ Keeps s' s'') E s')
    (hX2 : ∀ s', Keeps s s' → wpAny (model prog w) A (eval X2 env) (fun v s'' => O.knd.is k v = true ∧ Keeps s' s'') E s')
    (m1 : behindInMarks .LtE X = false) (m2 : behindInMarks .LtE nh2 = false) :
    wpAny (model prog w) A (isTrue (.BoolOp .And [.BoolOp .Or [.Compare nl [.Is] [.Constant .none k1 p1] p2, .Compare nl2 [.LtE] [X] p3] p4, .BoolOp .Or [.Compare nh [.Is] [.Constant .none k2 p5] p6, .Compare X2 [.LtE] [nh2] p7] p8] p9) env
      (eval (.BoolOp .And [.BoolOp .Or [.Compare nl [.Is] [.Constant .none k1 p1] p2, .Compare nl2 [.LtE] [X] p3] p4, .BoolOp .Or [.Compare nh [.Is] [.Constant .none k2 p5] p6, .Compare X2 [.LtE] [nh2] p7] p8] p9) env))
      (fun ok s₄ => ok = inb O b c k ∧ Keeps s s₄) E s := by
  have half1 : ∀ s', Keeps s s' → wpAny (model prog w) A (isTrue (.BoolOp .Or [.Compare nl [.Is] [.Constant .none k1 p1] p2, .Compare nl2 [.LtE] [X] p3] p4) env (eval (.BoolOp .Or [.Compare nl [.Is] [.Constant .none k1 p1] p2, .Compare nl2 [.LtE] [X] p3] p4) env))
      (fun ok s₄ => ok = lob O b k ∧ Keeps s s₄) E s' := by
    intro s' ks
    refine isTrue_or (wpAny_isTrue_Compare1 (wpAny_mono (hl s' ks) (fun v s1 hv => ?_) fun _ _ e => e))
    obtain ⟨rfl, k1'⟩ := hv
    refine wpAny_Constant_none ?_
    refine is_none blo (wpAny_truthy_bool ?_)
    have ks1 := keeps_tr ks k1'
    cases b with
    | none => exact ⟨rfl, ks1⟩
    | some l =>
      show wpAny _ _ _ _ _ _
      refine isTrue_or (wpAny_isTrue_Compare1 (wpAny_mono (hl2 s1 ks1) (fun v s2 hv => ?_) fun _ _ e => e) m1)
      obtain ⟨rfl, k2'⟩ := hv
      have ks2 := keeps_tr ks1 k2'
      refine wpAny_mono (hX s2 ks2) (fun v s3 hv => ?_) fun _ _ e => e
      obtain ⟨hk, k3'⟩ := hv
      have ks3 := keeps_tr ks2 k3'
      rcases blo with ⟨_, e⟩ | ⟨l', e, hl'⟩
      · cases e
      · cases e
        refine O.cLe hl' hk (wpAny_truthy_bool ?_)
        cases hlt : O.lt k l with
        | false => exact ⟨by simp [lob, hlt], ks3⟩
        | true =>
          show wpAny _ _ _ _ _ _
          exact isTrue_or_nil ⟨by simp [lob, hlt], ks3⟩
  have half2 : ∀ s', Keeps s s' → wpAny (model prog w) A (isTrue (.BoolOp .Or [.Compare nh [.Is] [.Constant .none k2 p5] p6, .Compare X2 [.LtE] [nh2] p7] p8) env (eval (.BoolOp .Or [.Compare nh [.Is] [.Constant .none k2 p5] p6, .Compare X2 [.LtE] [nh2] p7] p8) env))
      (fun ok s₄ => ok = hib O c k ∧ Keeps s s₄) E s' := by
    intro s' ks
    refine isTrue_or (wpAny_isTrue_Compare1 (wpAny_mono (hh s' ks) (fun v s1 hv => ?_) fun _ _ e => e))
    obtain ⟨rfl, k1'⟩ := hv
    refine wpAny_Constant_none ?_
    refine is_none bhi (wpAny_truthy_bool ?_)
    have ks1 := keeps_tr ks k1'
    cases c with
    | none => exact ⟨rfl, ks1⟩
    | some l =>
      show wpAny _ _ _ _ _ _
      refine isTrue_or (wpAny_isTrue_Compare1 (wpAny_mono (hX2 s1 ks1) (fun v s2 hv => ?_) fun _ _ e => e) m2)
      obtain ⟨hk, k2'⟩ := hv
      have ks2 := keeps_tr ks1 k2'
      refine wpAny_mono (hh2 s2 ks2) (fun v' s3 hv => ?_) fun _ _ e => e
      obtain ⟨rfl, k3'⟩ := hv
      have ks3 := keeps_tr ks2 k3'
      rcases bhi with ⟨_, e⟩ | ⟨l', e, hl'⟩
      · cases e
      · cases e
        refine O.cLe hk hl' (wpAny_truthy_bool ?_)
        cases hlt : O.lt l k with
        | false => exact ⟨by simp [hib, hlt], ks3⟩
        | true =>
          show wpAny _ _ _ _ _ _
          exact isTrue_or_nil ⟨by simp [hib, hlt], ks3⟩
  refine isTrue_and (wpAny_mono (half1 s (keeps_rf s)) (fun v s1 hv => ?_) fun _ _ e => e)
  obtain ⟨rfl, ks1⟩ := hv
  cases e1 : lob O b k with
  | false => exact ⟨by simp [inb, e1], ks1⟩
  | true =>
    show wpAny _ _ _ _ _ _
    refine isTrue_and (wpAny_mono (half2 s1 ks1) (fun v s2 hv => ?_) fun _ _ e => e)
    obtain ⟨rfl, ks2⟩ := hv
    cases e2 : hib O c k with
    | false => exact ⟨by simp [inb, e1, e2], ks2⟩
    | true =>
      show wpAny _ _ _ _ _ _
      exact isTrue_and_nil ⟨by simp [inb, e1, e2], ks2⟩
end
end Mine

-- part F2
namespace Mine
theorem walk_off_F2 : True := by w_top off; trivial

section
variable {prog : Program} {w : World} {A : Around} {s : Shared}
  {R : Result → Shared → Prop} {name qual : Str} {params : Arguments} {body : List Stmt} {scope : Scope} {dV kV doc pm cdv ct : Value} {an : Option Addr} {f : Addr} {K : Frag} {oc : Value} {od : Option Addr} {osl : Array (Option Value)} {args : Args} {binds : List (Str × Value)}

/-- the same for a def with cells -/
theorem enterC (hlim : s.heap.NoLimit) (X : K.In s.heap) (ho : K.lookup f = some ⟨oc, od, .func (fnX name qual params body scope [] dV kV doc pm an cdv ct), osl⟩) (hcd : codeIn K cdv qual = true) (hroom : A.depth < recursionLimit)
    (hbind : BindsTo s (fnX name qual params body scope [] dV kV doc pm an cdv ct) args binds)
    (hkind : ∀ n, ∀ x ∈ binds, scope.names.lookup x.1 = some .local ∨ (scope.names.lookup x.1 = some .cell ∧ ((cellsFrom n scope.names []).lookup x.1).isSome = true))
    (hnd : ((cellsFrom 0 scope.names []).map (·.1)).Nodup)
    (h : ∀ L' h₁ tk cells, Fr s.heap L' h₁ (bindL (envOfC qual scope L' f cdv).kindOf binds fun _ => none) → News s.heap L' h₁ cells →
      CellsAre (bindC (envOfC qual scope L' f cdv).kindOf binds fun _ => none) (cellsFrom (L' + 1) scope.names []) cells →
      wpAny (model prog w) (A.deeper (envOfC qual scope L' f cdv)) (execs body (envOfC qual scope L' f cdv))
        (fun fl s' => R (.ok (.ret (match fl with | .ret v => v | _ => .none))) s')
        (fun e s' => wpAny (model prog w) (A.deeper (envOfC qual scope L' f cdv)) (leaving (envOfC qual scope L' f cdv) e) (fun _ s'' => R (.error e) s'') (fun e' s'' => R (.error e') s'') s')
        { s with heap := h₁, toks := tk })
    (hco : scope.isCoroutine = false := by rfl) (hgen : scope.isGenerator = false := by rfl) (hk : scope.kind = .function := by rfl) : codeAny (model prog w) A (.call (.ref f) args) R s := by
  refine codeAny_call_function hroom (X _ _ ho) rfl hco hgen rfl (codeRec_of X hcd) (hbind _ _ _ _ ?_)
  refine wpAny_newFunctionEnv_cells hk (hkind _) fun env' he s' x => ?_
  subst he
  refine ⟨hlim.keeps x.toInCall.keep, codeAny_func ?_⟩
  obtain ⟨h₁, tk, rfl, _⟩ := x.done
  obtain ⟨cells, NC, Y⟩ := Cl.news (h₀ := s.heap) (Nat.le_refl _) fun n c hm => ⟨x.cell n c (lookup_of_mem_nodup (cellsFrom_names scope.names 0 (s.heap.objs.size + 1) [] [] rfl ▸ hnd) hm), x.above n c hm⟩
  exact h _ h₁ tk cells ⟨x.toInCall.ns, x.toInCall.keep, Nat.le_refl _⟩ NC Y
end
end Mine

-- part F3
namespace Mine
theorem walk_off_F3 : True := by w_top off; trivial

section
variable {prog : Program} {w : World} {A : Around} {E : Value → Shared → Prop} {s : Shared} {env : Env}

theorem comp_first {e : Expr} {scope : Scope} {pos : Pos} {newAcc first : Sem Value} {g : Comprehension} {gs : List Comprehension} {cl : List (Str × Addr)} {use : Option (Value → Sem Unit)} {Q : Value → Shared → Prop}
    (hcl : clausesOf e = g :: gs) (hclos : closureFor scope env = pure cl)
    (h : wpAny (model prog w) A first (fun x s₁ => wpAny (model prog w) A (comprehension e scope env pos newAcc false (pure x) use) Q E s₁) E s) :
    wpAny (model prog w) A (comprehension e scope env pos newAcc false first use) Q E s := by
  unfold comprehension at h ⊢
  rw [hclos, hcl] at h ⊢
  exact wpAny_bind (wpAny_mono h (fun x s₁ h₁ => h₁) fun _ _ e => e)
theorem comp_firstAt {c : Code} {e : Expr} {scope : Scope} {pos : Pos} {newAcc first : Sem Value} {g : Comprehension} {gs : List Comprehension} {cl : List (Str × Addr)} {use : Option (Value → Sem Unit)} {Q : Value → Shared → Prop}
    (hcl : clausesOf e = g :: gs) (hclos : closureFor scope env = pure cl)
    (h : _root_.PySem.wpAt (model prog w) A c first (fun x s₁ => wpAny (model prog w) A (comprehension e scope env pos newAcc false (pure x) use) Q E s₁) E s) :
    _root_.PySem.wpAt (model prog w) A c (comprehension e scope env pos newAcc false first use) Q E s := by
  unfold comprehension at h ⊢
  rw [hclos, hcl] at h ⊢
  exact _root_.PySem.wpAt_bind (ks_wpAt_mono h (fun x s₁ h₁ => _root_.PySem.wpAt_of_wpAny h₁) fun _ _ e => e)

def compTest (ifs : List Expr) (cenv : Env) : Sem Bool := forIn ifs true fun c r => if r = true then do let ok ← isTrue c cenv (eval c cenv); pure (ForInStep.yield ok) else pure (ForInStep.yield r)

theorem comp_pure {elt iter : Expr} {x : Str} {px : Pos} {ifs : List Expr} {scope : Scope} {cl : List (Str × Addr)} {pos pos' : Pos} {l : Addr} {vs : List Value} {Q : Value → Shared → Prop} (p : Value → Bool) (F : Value → Value → Prop)
    (hh : A.handled = none) (hl : s.heap.IsList l vs.toArray) (hsz : vs.length ≤ sizeLine)
    (hclos : closureFor scope env = pure cl) (hcell : ∀ y ∈ scope.names, y.2 ≠ .cell) (hkind : scope.kind = .function)
    (hnames : ∀ y ∈ scope.names, y.2 = .local → scope.names.lookup y.1 = some .local) (hx : scope.names.lookup x = some .local)
    (ht : ∀ C v s₃ m₃ E', v ∈ vs → s₃.heap.Ns C m₃ → m₃ x = some v → s.heap.StaysIn s₃.heap →
      wpAny (model prog w) A (compTest ifs (compEnvC scope cl C env)) (fun ok s₄ => ok = p v ∧ Keeps s₃ s₄) E' s₃)
    (he : ∀ C v s₃ m₃ E', v ∈ vs → p v = true → s₃.heap.Ns C m₃ → m₃ x = some v → s.heap.StaysIn s₃.heap →
      wpAny (model prog w) A (eval elt (compEnvC scope cl C env)) (fun y s₄ => F v y ∧ Keeps s₃ s₄) E' s₃)
    (hQ : ∀ D h' tk ys, s.heap.get? D = none → h'.PlainList D ys → Paired F (vs.filter p) ys.toList → s.heap.StaysIn h' → Q (.ref D) { s with heap := h', toks := tk })
    (hs : ∀ x, foldedSetIterable iter env x = pure x := by intro _; rfl) :
    wpAny (model prog w) A (comprehension (.ListComp elt [⟨.Name x px, iter, ifs, 0⟩] scope pos) scope env pos' (newList []) false (pure (.ref l)) none) Q E s := by
  obtain ⟨ol, hol, hr⟩ := id hl
  have hlt : l < s.heap.objs.size := Heap.lt_size hol
  have hne : l ≠ s.heap.objs.size := Nat.ne_of_lt hlt
  refine wpAny_comprehension_free (use := none) rfl hs hclos hkind hnames (wpAny_pure (wpAny_pyIter_list hl ?_))
  have stay : ∀ {h' : Heap}, (∀ b o, b ∉ [s.heap.objs.size] → (s.heap.push { cls := .type "list_iterator", data := .fields #[.ref l, .int 0 0] }).get? b = some o → h'.get? b = some o) → s.heap.StaysIn h' := fun k b o e =>
    k b o (fun hb => by rw [List.mem_singleton.mp hb] at e; exact absurd (Heap.lt_size e) (Nat.lt_irrefl _)) (Heap.get?_push_of_some _ e)
  have hmem : ∀ (i : Nat) (v : Value), vs.toArray[i]? = some v → v ∈ vs := fun i v hv => by
    have : vs[i]? = some v := by simpa using hv
    exact List.mem_of_getElem? this
  refine comp_block_walkC (RR := fun acc C => compPost (model prog w) A E none Q acc C) (Walks.list hh _ l hne vs.toArray) (by simpa using hsz) p F hcell hkind hx
    ⟨⟨_, Heap.get?_push_size _ rfl, rfl, rfl⟩, hl.at fun o e => Heap.get?_push_of_some _ e⟩ ?_ ⟨?_, ?_⟩ ?_
  · intro b hb
    show b < (s.heap.push _).objs.size
    rw [Heap.size_push]
    rcases List.mem_cons.mp hb with rfl | hb
    · exact Nat.lt_succ_self _
    · rw [List.mem_singleton.mp hb]; exact Nat.lt_succ_of_lt hlt
  · intro C i v s₃ m₃ E' hC hv hn hm hk _
    exact ht C v s₃ m₃ E' (hmem i v hv) hn hm (stay hk)
  · intro C i v s₃ m₃ E' hC hv hp hn hm hk _
    exact he C v s₃ m₃ E' (hmem i v hv) hp hn hm (stay hk)
  · intro D C h' tk m' ys vs' hD hC hDC hn hl' hpl hlen hP hF hk
    have evs : vs' = vs := by
      refine List.ext_getElem? fun j => ?_
      cases q : vs'[j]? with
      | none =>
        have hj : vs'.length ≤ j := by simpa using q
        have hj' : vs.length ≤ j := by simp at hlen; omega
        simp [hj']
      | some v => have := hP j v q; simpa using this.symm
    subst evs
    refine ⟨m', hn, fun h'' hs'' => hQ D h'' tk ys ?_ (hpl.at fun o e => hs''.extBut _ o hDC e) hF (stay fun b o hbf e => hs''.extBut b o (by rintro rfl; rw [hC] at e; cases e) (hk b o hbf e))⟩
    cases q : s.heap.get? D with
    | none => rfl
    | some o => have q' := Heap.get?_push_of_some { cls := .type "list_iterator", data := .fields #[.ref l, .int 0 0] } q; rw [show (s.heap.push _).get? D = none from hD] at q'; cases q'

theorem comp_eval {elt iter : Expr} {x : Str} {px : Pos} {ifs : List Expr} {scope : Scope} {cl : List (Str × Addr)} {pos : Pos} {Q : Value → Shared → Prop} (hclos : closureFor scope env = pure cl)
    (h : wpAny (model prog w) A (eval iter env) (fun v s₁ => wpAny (model prog w) A (comprehension (.ListComp elt [⟨.Name x px, iter, ifs, 0⟩] scope pos) scope env (firstIterPos [⟨.Name x px, iter, ifs, 0⟩] pos) (newList []) false (pure v) none) Q E s₁) E s) :
    wpAny (model prog w) A (eval (.ListComp elt [⟨.Name x px, iter, ifs, 0⟩] scope pos) env) Q E s := by
  rw [eval_ListComp]
  exact comp_first rfl hclos h

theorem test_nil {cenv : Env} {Q : Bool → Shared → Prop} (h : Q true s) : wpAny (model prog w) A (compTest [] cenv) Q E s := wpAny_pure h
theorem test_one {cenv : Env} {c : Expr} {Q : Bool → Shared → Prop} (h : wpAny (model prog w) A (isTrue c cenv (eval c cenv)) Q E s) : wpAny (model prog w) A (compTest [c] cenv) Q E s := wpAny_tests_one h

theorem Paired.eqs : ∀ {l : List Value} {m : List Value}, Paired (fun a b => a = b) l m → m = l
  | _, _, .nil => rfl
  | _, _, .cons h t => by rw [h, Paired.eqs t]
theorem filter_all {α : Type} (l : List α) : l.filter (fun _ => true) = l := List.filter_eq_self.mpr fun _ _ => rfl

/-- a local name, read inside a comprehension -/
theorem cname {scope : Scope} {cl : List (Str × Addr)} {C : Addr} {x : Str} {pos : Pos} {v : Value} {m : Str → Option Value} {Q : Value → Shared → Prop} (hn : s.heap.Ns C m) (hv : m x = some v) (h : Q v s)
    (hx : (compEnvC scope cl C env).kindOf x = some .local) (hk : scope.kind = .function := by rfl) (hd : (x == ("__debug__" : Str)) = false := by decide) : wpAny (model prog w) A (eval (.Name x pos) (compEnvC scope cl C env)) Q E s :=
  wpAny_Name (wpAny_loadName_local hk hx hn hv h) hd
theorem ccell {scope : Scope} {cl : List (Str × Addr)} {C c : Addr} {x : Str} {pos : Pos} {v : Value} {Q : Value → Shared → Prop} (hc : cl.lookup x = some c) (hv : s.heap.IsCell c (some v)) (h : Q v s)
    (hx : (compEnvC scope cl C env).kindOf x = some .cell) (hk : scope.kind = .function := by rfl) (hd : (x == ("__debug__" : Str)) = false := by decide) : wpAny (model prog w) A (eval (.Name x pos) (compEnvC scope cl C env)) Q E s :=
  wpAny_Name (wpAny_loadName_cell hk hx hc hv h) hd
/-- «one[0]», «one[1]» of a tuple -/
theorem tup_item {value : Expr} {k : Nat} {kd : Nat} {p pos : Pos} {t : Addr} {l : List Value} {v : Value} {Q : Value → Shared → Prop} {env : Env}
    (h : wpAny (model prog w) A (eval value env) (fun o s₁ => o = .ref t ∧ IsTup s₁.heap t l.toArray ∧ Q v { s₁ with toks := s₁.toks + 1 }) E s) (hv : l[k]? = some v) (hk : k < 2)
    (hs : ∀ i, subscripted (.Constant (.int k) kd p) false (.ref t) i = operate [.ref t, i] (getItem (.ref t) i) := by intro _; with_unfolding_all rfl)
    (hg : ∀ r, letTemporaryGo value (.ref t) r = pure () := by intro _; with_unfolding_all rfl) :
    wpAny (model prog w) A (eval (.Subscript value (.Constant (.int k) kd p) pos) env) Q E s := by
  refine Subscript_ (wpAny_mono h (fun o s₁ h₁ => ?_) fun _ _ e => e)
  obtain ⟨rfl, hi, hq⟩ := h₁
  refine wpAny_Constant_int ?_
  have hlen : k < l.length := by
    rcases Nat.lt_or_ge k l.length with h | h
    · exact h
    · rw [List.getElem?_eq_none h] at hv; cases hv
  exact item_tupleL (s := { s₁ with toks := s₁.toks + 1 }) (j := k) hi (by omega) (by omega) (by unfold seqIndex?; simp; omega) hv hq (hs _) hg
end
end Mine

-- part F4
namespace Mine
theorem walk_off_F4 : True := by w_top off; trivial
theorem All2.filter {α β : Type} {R : α → β → Prop} {p : α → Bool} {q : β → Bool} {l : List α} {m : List β} (h : All2 R l m) (e : ∀ a b, R a b → p a = q b) : All2 R (l.filter p) (m.filter q) := by
  induction h with
  | nil => exact .nil
  | @cons a b l m r _ ih =>
    rw [List.filter_cons, List.filter_cons, e a b r]
    cases q b with
    | true => exact .cons r ih
    | false => exact ih
theorem All2.map_right {α β γ : Type} {R : α → β → Prop} {S : α → γ → Prop} {f : β → γ} {l : List α} {m : List β} (h : All2 R l m) (e : ∀ a b, R a b → S a (f b)) : All2 S l (m.map f) := by
  induction h with
  | nil => exact .nil
  | cons r _ ih => exact .cons (e _ _ r) ih
theorem All2.comp {α β γ : Type} {R : α → β → Prop} {S : γ → β → Prop} {F : α → γ → Prop} : ∀ {l : List α} {m : List β} {n : List γ}, All2 R l m → Paired F l n → (∀ a b c, R a b → F a c → S c b) → All2 S n m
  | _, _, _, .nil, .nil, _ => .nil
  | _, _, _, .cons r h, .cons f t, e => .cons (e _ _ _ r f) (h.comp t e)

section
variable {prog : Program} {w : World} {K : Type} [DecidableEq K] {O : KOrd prog w K}
/-- the key that a pair's ref shows -/
def keyAt (O : KOrd prog w K) (h : Heap) (v : Value) : K := match v with
  | .ref t => match h.get? t with
    | some o => match o.data with
      | .seq items _ => ((items[0]?).bind O.keyOf).getD O.dflt
      | _ => O.dflt
    | none => O.dflt
  | _ => O.dflt
theorem PairIs.keyAt {h : Heap} {v : Value} {p : K × Int} (x : PairIs O h v p) : keyAt O h v = p.1 := by
  obtain ⟨t, kv, tt, rfl, ⟨o, ho, hc, n, hd⟩, hk⟩ := x
  unfold Mine.keyAt
  simp only [ho, hd]
  simp [O.keyOf_is _ _ hk]
/-- the value that a pair's ref shows -/
def valAt (h : Heap) (v : Value) : Option Int := match v with
  | .ref t => match h.get? t with
    | some o => match o.data with
      | .seq (items : Array Value) _ => match (items[1]? : Option Value) with
        | some (Value.int i _) => some i
        | _ => none
      | _ => none
    | none => none
  | _ => none
theorem PairIs.valAt {h : Heap} {v : Value} {p : K × Int} (x : PairIs O h v p) : valAt h v = some p.2 := by
  obtain ⟨t, kv, tt, rfl, ⟨o, ho, hc, n, hd⟩, hk⟩ := x
  unfold Mine.valAt
  simp only [ho, hd]
  simp
end
section
variable {prog : Program} {w : World} {A : Around} {E : Value → Shared → Prop} {s : Shared} {env : Env} {K : Type} [DecidableEq K] {O : KOrd prog w K}
/-- «one[0]» in a comprehension over pairs -/
theorem one_key {x : Expr} {v : Value} {q : K × Int} {kd : Nat} {p pos : Pos} {Q : Value → Shared → Prop} {h : Heap} (hq : PairIs O h v q) (hs : h.StaysIn s.heap)
    (hn : ∀ {Q : Value → Shared → Prop}, Q v s → wpAny (model prog w) A (eval x env) Q E s) (h : ∀ kv, O.knd.is q.1 kv = true → Q kv { s with toks := s.toks + 1 })
    (hg : ∀ t r, letTemporaryGo x (.ref t) r = pure () := by intro _ _; with_unfolding_all rfl) :
    wpAny (model prog w) A (eval (.Subscript x (.Constant (.int 0) kd p) pos) env) Q E s := by
  obtain ⟨t, kv, tt, rfl, it, hk⟩ := hq
  exact tup_item (k := 0) (t := t) (l := [kv, .int q.2 tt]) (hn ⟨rfl, it.keeps hs, h kv hk⟩) rfl (by decide) (by intro _; with_unfolding_all rfl) (hg t)
theorem one_val {x : Expr} {v : Value} {q : K × Int} {kd : Nat} {p pos : Pos} {Q : Value → Shared → Prop} {h : Heap} (hq : PairIs O h v q) (hs : h.StaysIn s.heap)
    (hn : ∀ {Q : Value → Shared → Prop}, Q v s → wpAny (model prog w) A (eval x env) Q E s) (h : ∀ t, Q (.int q.2 t) { s with toks := s.toks + 1 })
    (hg : ∀ t r, letTemporaryGo x (.ref t) r = pure () := by intro _ _; with_unfolding_all rfl) :
    wpAny (model prog w) A (eval (.Subscript x (.Constant (.int 1) kd p) pos) env) Q E s := by
  obtain ⟨t, kv, tt, rfl, it, hk⟩ := hq
  exact tup_item (k := 1) (t := t) (l := [kv, .int q.2 tt]) (hn ⟨rfl, it.keeps hs, h tt⟩) rfl (by decide) (by intro _; with_unfolding_all rfl) (hg t)
end
end Mine

-- part F5
namespace Mine
theorem walk_off_F5 : True := by w_top off; trivial

section
variable {prog : Program} {w : World} {A : Around} {s : Shared}
  {R : Result → Shared → Prop} {name qual : Str} {params : Arguments} {body : List Stmt} {scope : Scope} {dV kV doc pm cdv ct : Value} {an : Option Addr} {f : Addr} {K : Frag} {oc : Value} {od : Option Addr} {osl : Array (Option Value)} {args : Args} {cc : Addr} {v1 v2 v3 : Value} {rest : List (Str × NameKind)}

/-- a def that closes over __class__ and has two cells of its own: the code at hand is told -/
theorem enterS (hlim : s.heap.NoLimit) (X : K.In s.heap) (ho : K.lookup f = some ⟨oc, od, .func (fnX name qual params body scope [("__class__", cc)] dV kV doc pm an cdv ct), osl⟩) (hcd : codeIn K cdv qual = true) (hroom : A.depth < recursionLimit)
    (hbind : BindsTo s (fnX name qual params body scope [("__class__", cc)] dV kV doc pm an cdv ct) args [(Str.ofString "self", v1), (Str.ofString "low", v2), (Str.ofString "high", v3)])
    (hn : scope.names = (Str.ofString "self", .local) :: (Str.ofString "low", .cell) :: (Str.ofString "high", .cell) :: rest) (hr : ∀ y ∈ rest, y.2 ≠ .cell)
    (h : ∀ L' h₁ tk o1 o2, Fr s.heap L' h₁ (fun y => if y = Str.ofString "self" then some v1 else none) → News s.heap L' h₁ [(L' + 1, o1), (L' + 1 + 1, o2)] → o1.data = .cell (some v2) → o2.data = .cell (some v3) →
      _root_.PySem.wpAt (model prog w) (A.deeper (envX qual scope L' f cdv [("high", L' + 1 + 1), ("low", L' + 1), ("__class__", cc)])) (.func body (envX qual scope L' f cdv [("high", L' + 1 + 1), ("low", L' + 1), ("__class__", cc)])) (execs body (envX qual scope L' f cdv [("high", L' + 1 + 1), ("low", L' + 1), ("__class__", cc)]))
        (fun fl s' => R (.ok (.ret (match fl with | .ret v => v | _ => .none))) s')
        (fun e s' => wpAny (model prog w) (A.deeper (envX qual scope L' f cdv [("high", L' + 1 + 1), ("low", L' + 1), ("__class__", cc)])) (leaving (envX qual scope L' f cdv [("high", L' + 1 + 1), ("low", L' + 1), ("__class__", cc)]) e) (fun _ s'' => R (.error e) s'') (fun e' s'' => R (.error e') s'') s')
        { s with heap := h₁, toks := tk })
    (hco : scope.isCoroutine = false := by rfl) (hgen : scope.isGenerator = false := by rfl) (hk : scope.kind = .function := by rfl) : codeAny (model prog w) A (.call (.ref f) args) R s := by
  refine codeAny_call_function hroom (X _ _ ho) rfl hco hgen rfl (codeRec_of X hcd) (hbind _ _ _ _ ?_)
  simp only [newFunctionEnv, Option.isSome_none, Bool.false_eq_true, if_false]
  refine wpAny_bind (wpAny_alloc ?_)
  have hcf : ∀ (m : Nat) (r : List (Str × NameKind)) (acc : List (Str × Addr)), (∀ y ∈ r, y.2 ≠ .cell) → cellsFrom m r acc = acc := by
    intro m r
    induction r with
    | nil => intro acc _; rfl
    | cons y r ih =>
      intro acc hy
      obtain ⟨nm, kd⟩ := y
      have : kd ≠ .cell := hy _ (.head _)
      unfold cellsFrom
      rw [if_neg (by simpa using this)]
      exact ih acc fun z hz => hy z (.tail _ hz)
  have hpc : ∀ (r : List (Str × NameKind)) (g : Heap), (∀ y ∈ r, y.2 ≠ .cell) → pushCells g r = g := by
    intro r
    induction r with
    | nil => intro g _; rfl
    | cons y r ih =>
      intro g hy
      obtain ⟨nm, kd⟩ := y
      have : kd ≠ .cell := hy _ (.head _)
      unfold pushCells
      rw [if_neg (by simpa using this)]
      exact ih g fun z hz => hy z (.tail _ hz)
  refine wpAny_bind (wpAny_layCells _ (fun name kind cells => by cases hkc : kind == NameKind.cell <;> simp [hkc]) _ _ _ _ ?_)
  have e1 : cellsFrom (s.heap.push { cls := .type "frame", data := .dict #[] }).objs.size scope.names [((Str.ofString "__class__" : Str), (cc : Addr))] = [((Str.ofString "high" : Str), (s.heap.objs.size + 1 + 1 : Addr)), (Str.ofString "low", s.heap.objs.size + 1), (Str.ofString "__class__", cc)] := by
    rw [hn, Heap.size_push]
    simp only [cellsFrom]
    rw [if_neg (by decide), if_pos (by decide), if_pos (by decide), hcf _ _ _ hr]
  have e2 : pushCells (s.heap.push { cls := .type "frame", data := .dict #[] }) scope.names = ((s.heap.push { cls := .type "frame", data := .dict #[] }).push { cls := .type "cell", data := .cell none }).push { cls := .type "cell", data := .cell none } := by
    rw [hn]
    simp only [pushCells]
    rw [if_neg (by decide), if_pos (by decide), if_pos (by decide), hpc _ _ hr]
  dsimp only
  rw [e1, e2]
  generalize hH : ((s.heap.push { cls := .type "frame", data := .dict #[] }).push { cls := .type "cell", data := .cell none }).push { cls := .type "cell", data := .cell none } = H
  have hL : H.Ns s.heap.objs.size fun _ => none := by
    rw [← hH]
    exact (Heap.Ns.new s.heap (.type "frame")).keeps fun b o e => Heap.get?_push_of_some _ (Heap.get?_push_of_some _ e)
  have k0 : s.heap.StaysIn H := fun b o e => by rw [← hH]; exact Heap.get?_push_of_some _ (Heap.get?_push_of_some _ (Heap.get?_push_of_some _ e))
  have c1 : H.get? (s.heap.objs.size + 1) = some { cls := .type "cell", data := .cell none } := by
    rw [← hH]
    refine Heap.get?_push_of_some _ ?_
    have := Heap.get?_push_size (s.heap.push { cls := .type "frame", data := .dict #[] }) (o := { cls := .type "cell", data := .cell none }) rfl
    rwa [Heap.size_push] at this
  have c2 : H.get? (s.heap.objs.size + 1 + 1) = some { cls := .type "cell", data := .cell none } := by
    rw [← hH]
    have := Heap.get?_push_size ((s.heap.push { cls := .type "frame", data := .dict #[] }).push { cls := .type "cell", data := .cell none }) (o := { cls := .type "cell", data := .cell none }) rfl
    rwa [Heap.size_push, Heap.size_push] at this
  have hlk : ∀ x kd, (x, kd) ∈ [(Str.ofString "self", NameKind.local), (Str.ofString "low", .cell), (Str.ofString "high", .cell)] → scope.names.lookup x = some kd := by
    intro x kd hx
    rw [hn]
    simp only [List.mem_cons, List.not_mem_nil, or_false, Prod.mk.injEq] at hx
    rcases hx with ⟨rfl, rfl⟩ | ⟨rfl, rfl⟩ | ⟨rfl, rfl⟩ <;> rfl
  simp only [List.forIn_cons, List.forIn_nil]
  refine wpAny_bind (wpAny_bind (wpAny_bind (wpAny_storeName_local (m := fun _ => none) (hlk "self" .local (by simp)) hL (fun h' hns hs => ?_) ?_)))
  · refine wpAny_pure ?_
    have k1 : s.heap.StaysIn h' := fun b o e => hs.extBut b o (Nat.ne_of_lt (Heap.lt_size e)) (k0 b o e)
    have d1 : h'.get? (s.heap.objs.size + 1) = some { cls := .type "cell", data := .cell none } := (hs.2 _ (by show s.heap.objs.size + 1 ≠ s.heap.objs.size; omega)).trans c1
    have d2 : h'.get? (s.heap.objs.size + 1 + 1) = some { cls := .type "cell", data := .cell none } := (hs.2 _ (by show s.heap.objs.size + 1 + 1 ≠ s.heap.objs.size; omega)).trans c2
    refine wpAny_bind (wpAny_bind (wpAny_storeName_cell (c := s.heap.objs.size + 1) (v₀ := none) hk (hlk "low" .cell (by simp)) rfl ⟨_, d1, rfl⟩ fun h2 hv2 hs2 => wpAny_pure ?_))
    refine wpAny_bind (wpAny_bind (wpAny_storeName_cell (c := s.heap.objs.size + 1 + 1) (v₀ := none) hk (hlk "high" .cell (by simp)) rfl ⟨_, (hs2.2 _ (Nat.succ_ne_self _)).trans d2, rfl⟩ fun h3 hv3 hs3 => wpAny_pure (wpAny_pure ?_)))
    have k2 : s.heap.StaysIn h3 := fun b o e => hs3.extBut b o (Nat.ne_of_lt (Nat.lt_succ_of_lt (Nat.lt_succ_of_lt (Heap.lt_size e)))) (hs2.extBut b o (Nat.ne_of_lt (Nat.lt_succ_of_lt (Heap.lt_size e))) (k1 b o e))
    obtain ⟨o1, ho1, hd1⟩ := hv2
    obtain ⟨o2, ho2, hd2⟩ := hv3
    have ho1' := hs3.extBut _ _ (Nat.ne_of_lt (Nat.lt_succ_self _) : s.heap.objs.size + 1 ≠ s.heap.objs.size + 1 + 1) ho1
    have hns3 := (hns.sameBut hs2 (by show s.heap.objs.size ≠ s.heap.objs.size + 1; omega)).sameBut hs3 (by show s.heap.objs.size ≠ s.heap.objs.size + 1 + 1; omega)
    refine wpAny_pure ⟨hlim.keeps k2, ks_codeAny_funcAt (h _ h3 _ o1 o2 ⟨hns3, k2, Nat.le_refl _⟩ (fun p hp => ?_) hd1 hd2)⟩
    have none_of : ∀ c, s.heap.objs.size < c → s.heap.get? c = none := fun c hc => Heap.get?_none_of_le (Nat.le_of_lt hc)
    rcases List.mem_cons.mp hp with rfl | hp
    · exact ⟨ho1', by show s.heap.objs.size + 1 ≠ _; omega, none_of _ (by show _ < s.heap.objs.size + 1; omega)⟩
    · rw [List.mem_singleton.mp hp]
      exact ⟨ho2, by show s.heap.objs.size + 1 + 1 ≠ _; omega, none_of _ (by show _ < s.heap.objs.size + 1 + 1; omega)⟩
  · rw [hk]; rfl
end
end Mine

-- part F6
namespace Mine
theorem walk_off_F6 : True := by w_top off; trivial
theorem fillF : (fun w : World => Mine.hd.heap_39 w.params) = (fun w => Mine.hd.heap_39 w.params) ∧ Challenge.rw_bt5022_01 = Challenge.rw_bt5022_01 := by k_fill; exact ⟨rfl, rfl⟩
theorem K_cell (w : World) : ∃ c d sl, (Mine.hd.heap_39 w.params).lookup 18 = some ⟨c, d, .cell (some (.ref 46)), sl⟩ := ⟨_, _, _, by k_is⟩
theorem K_cls (w : World) : ∃ cd, clsIn (Mine.hd.heap_39 w.params) 46 = some cd := ⟨_, by k_is⟩
theorem K_nosuper (w : World) : nsIn (Mine.hd.heap_39 w.params) mainGlobals "super" = some none := by k_is
theorem boot_super : bootBuiltins "super" = some (.type "super") := by first | boot_by_name | rfl | kernel_rfl

section
variable {prog : Program} {w : World} {A : Around} {E : Value → Shared → Prop} {s : Shared} {env : Env}

theorem callWith_at1 {c : Code} {pos : Pos} {f : Value} {t : Sem Value} {Q : Value → Shared → Prop}
    (h : _root_.PySem.wpAt (model prog w) A c t (fun v s₁ => wpAny (model prog w) A (callWith pos f [] [(false, pure v)] []) Q E s₁) E s) :
    _root_.PySem.wpAt (model prog w) A c (callWith pos f [] [(false, t)] []) Q E s := fun Γ p hc hΓ => by
  have h0 := h Γ p hc hΓ
  have e : ∀ (t : Sem Value) Q' E' p s, Sem.wp (model prog w) Γ (evalArgs f true [(false, t)] []) Q' E' p s = Sem.wp (model prog w) Γ t (fun v p' s' => Sem.wp (model prog w) Γ (evalArgs f true [(false, pure v)] []) Q' E' p' s') E' p s := by
    intro t Q' E' p s
    simp only [evalArgs, spliced, Sem.wp_bind', Sem.wp_holding, Sem.wp_pure']
  unfold callWith at h0 ⊢
  rw [Sem.wp_bind', Sem.wp_holding, e]
  refine Sem.wp_mono (model prog w) Γ t (fun v p₁ s₁ h₁ => ?_) (fun _ _ _ h' => h') _ _ h0
  have h2 := h₁ Γ p₁ hΓ
  rw [Sem.wp_bind', Sem.wp_holding] at h2
  exact h2

theorem Call_at1 {c : Code} {x : Str} {p pos : Pos} {e : Expr} {Q : Value → Shared → Prop}
    (h : wpAny (model prog w) A (eval (.Name x p) env) (fun f s₁ => _root_.PySem.wpAt (model prog w) A c (eval e env) (fun v s₂ => wpAny (model prog w) A (callWith pos f [] [(false, pure v)] []) Q E s₂) E s₁) E s)
    (hs : starEach [e] env = [(false, eval e env)] := by rfl) :
    _root_.PySem.wpAt (model prog w) A c (eval (.Call (.Name x p) [e] [] pos) env) Q E s := by
  show _root_.PySem.wpAt (model prog w) A c (do callWith pos (← eval (.Name x p) env) [] (backTo pos (starEach [e] env)) (backToKw pos (keywordEach [] env))) Q E s
  rw [hs]
  exact _root_.PySem.wpAt_bind (_root_.PySem.wpAt_of_wpAny (wpAny_mono h (fun f s₁ h₁ => callWith_at1 h₁) fun _ _ e => e))

variable {h₀ : Heap} {L x : Addr} {m mg mb : Str → Option Value} {p : Program} {loose : List Str} {mean : ExcName → Option Value} {f cda dx : Addr} {fd : FuncData} {ar : Arg} {vs : Array Value} {file : Str} {tf : Tok} {oc ccl : Value} {od cdd : Option Addr} {osl ccs : Array (Option Value)}
  {cl : List (Str × Addr)} {scope : Scope} {qual : Str} {body : List Stmt} {es : List DictEntry} {n : Nat}
/-- «super().keys()» in a method of the class -/
theorem super_keys {p0 p1 apos pos : Pos} {Q : Value → Shared → Prop} (F : Fr h₀ L s.heap m) (X₀ : (Mine.hd.heap_39 w.params).In h₀) (T : Top p loose mean mg mb h₀)
    (hf : (Mine.hd.heap_39 w.params).lookup f = some ⟨oc, od, .func fd, osl⟩) (hp : (fd.params.posonlyargs ++ fd.params.args).head? = some ar) (har : ar.arg = "self") (hv : m "self" = some (.ref x))
    (hcode : (Mine.hd.heap_39 w.params).lookup cda = some ⟨ccl, cdd, .fields vs, ccs⟩) (hvs : vs[2]? = some (.str file tf)) (hfile : ((prog.main.file : Str) == file) = true) (htop : (prog.main.scope.names.lookup ("super" : Str)).isSome = false)
    (hcl : cl.lookup ("__class__" : Str) = some 18) (hks : scope.names.lookup ("super" : Str) = some .globalImplicit) (hkc : scope.names.lookup ("__class__" : Str) = some .free) (hka : scope.names.lookup ("self" : Str) = some .local) (hk : scope.kind = .function)
    (hx : s.heap.get? x = some (treeObj dx es n)) (hlo : (x == sysModules) = false) (hne : x ≠ 46)
    (h : ∀ v h' tk, s.heap.StaysIn h' → KdlKeysView h' v x → Q (.ref v) { s with heap := h', toks := tk })
    (he : eval (.Call (.Attribute (.Call (.Name "super" p0) [] [] p1) "keys" apos) [] [] pos) (envX qual scope L f (.ref cda) cl) = (do
      let ov ← attributeBase (.Call (.Name "super" p0) [] [] p1) "keys" (envX qual scope L f (.ref cda) cl) (eval (.Call (.Name "super" p0) [] [] p1) (envX qual scope L f (.ref cda) cl))
      standAt apos.atName
      let (g, first) ← holding [ov] (getMethod ov "keys" (pure false))
      callWith pos g first (backTo pos (starEach [] (envX qual scope L f (.ref cda) cl))) []) := by rfl) :
    _root_.PySem.wpAt (model prog w) A (.func body (envX qual scope L f (.ref cda) cl)) (eval (.Call (.Attribute (.Call (.Name "super" p0) [] [] p1) "keys" apos) [] [] pos) (envX qual scope L f (.ref cda) cl)) Q E s := by
  have X : (Mine.hd.heap_39 w.params).In s.heap := X₀.keeps F.keep
  obtain ⟨c18, d18, sl18, hcell⟩ := K_cell w
  obtain ⟨cdD, hD⟩ := K_cls w
  obtain ⟨hh, g, d, t, os⟩ := s
  obtain ⟨oD, hD1, hD2⟩ : ∃ oD, hh.get? 46 = some oD ∧ oD.data = .cls cdD := by
    unfold clsIn at hD
    split at hD
    · rename_i c d cd' sl ho
      cases hD
      exact ⟨_, X _ _ ho, rfl⟩
    · cases hD
  refine ks_wpAt_MethodCall ?_ he
  refine ks_wpAt_super_base (env := envX qual scope L f (.ref cda) cl) hks hkc (by decide) rfl (X _ _ hf) rfl hp rfl (X _ _ hcode) rfl hvs hfile htop ?_
  refine ks_loadName_global hk hks (PySem.Calls.loadGlobal_builtin (env := envX qual scope L f (.ref cda) cl) (T.g.keeps F.keep) (mg_none_of X₀ T.g (K_nosuper w)) (T.b.keeps F.keep) ((T.builtins _ (by decide +kernel)).trans boot_super) ⟨rfl, ?_⟩)
  refine wpAny_loadName_free hk hkc hcl ⟨_, X _ _ hcell, rfl⟩ ?_
  rw [har]
  refine wpAny_loadName_local hk hka F.ns hv ?_
  refine ks_wpAny_isType_cls hD1 hD2 ⟨rfl, ?_⟩
  refine ks_wpAny_call_super hD1 hD2 hx rfl (fun c e => by cases e) (looks_mroIn X (by k_is)) (fun h' e k => ?_)
  have X' := X.keeps k
  refine getMethod_super (s := ⟨h', g, d, t, os⟩) X' (k _ _ hx) rfl hne e ?_
  have hq : (h'.push (boundKeys x)).get? h'.objs.size = some (boundKeys x) := Heap.get?_push_size _ rfl
  refine callWith_boundKeys (s := ⟨h'.push (boundKeys x), g, d, t + 1, os⟩) hq ?_
  refine call_boundKeys (s := ⟨h'.push (boundKeys x), g, d, t + 1, os⟩) (X'.keeps fun b o e => Heap.get?_push_of_some _ e) (Heap.get?_push_of_some _ (k _ _ hx)) hlo hq ?_
  refine h _ _ _ (fun b o z => Heap.get?_push_of_some _ (Heap.get?_push_of_some _ (k b o z))) ⟨_, Heap.get?_push_size _ rfl, rfl, rfl⟩
end
end Mine

-- part F7
namespace Mine
theorem walk_off_F7 : True := by w_top off; trivial
theorem fill7 : (fun w : World => Mine.hd.heap_39 w.params) = (fun w => Mine.hd.heap_39 w.params) ∧ Challenge.rw_bt5022_01 = Challenge.rw_bt5022_01 := by k_fill; exact ⟨rfl, rfl⟩

section
variable {prog : Program} {w : World} {A : Around} {E : Value → Shared → Prop} {s : Shared} {x dx : Addr} {es : List DictEntry} {n : Nat}
theorem item_sub {value slice : Expr} {i : Value} {Q : Value → Shared → Prop} (X : (Mine.hd.heap_39 w.params).In s.heap) (hx : s.heap.get? x = some (treeObj dx es n))
    (h : wpAny (model prog w) A (getItem (.ref x) i) Q E s)
    (hs : subscripted slice false (.ref x) i = operate [.ref x, i] (getItem (.ref x) i)) (ht : ∀ r, letTemporaryGo value (.ref x) r = pure ()) :
    wpAny (model prog w) A (subscriptTail value slice (.ref x) i) Q E s := by
  obtain ⟨hh, g, d, t, os⟩ := s
  unfold subscriptTail
  refine wpAny_bind ?_
  unfold getitemInPython
  refine wpAny_bind ((looks_special (M := model prog w) X hx rfl (K_getitem w)).at ?_)
  refine wpAny_pure (wpAny_bind ?_)
  show wpAny _ _ (subscripted slice false (.ref x) i) _ _ _
  rw [hs]
  exact wpAny_operating (wpAny_mono h (fun r s₃ h₃ => wpAny_bind (wpAny_of_eq (ht r) (wpAny_pure h₃))) fun _ _ x => x)
end

theorem K37 (w : World) : ∃ o fd, (Mine.hd.heap_39 w.params).lookup 37 = some o ∧ o.data = .func fd ∧
    (∀ s x lo hi, (Mine.hd.heap_39 w.params).In s.heap → BindsTo s fd ⟨[.ref x, lo, hi], []⟩ [(Str.ofString "self", .ref x), (Str.ofString "low", lo), (Str.ofString "high", hi)]) ∧
    (∀ s x lo, (Mine.hd.heap_39 w.params).In s.heap → BindsTo s fd ⟨[.ref x, lo], []⟩ [(Str.ofString "self", .ref x), (Str.ofString "low", lo), (Str.ofString "high", .none)]) ∧
    (∀ s x, (Mine.hd.heap_39 w.params).In s.heap → BindsTo s fd ⟨[.ref x], []⟩ [(Str.ofString "self", .ref x), (Str.ofString "low", .none), (Str.ofString "high", .none)]) :=
  ⟨_, _, by k_is, rfl, fun s x lo hi X => binds_K X rfl (by k_is) rfl rfl rfl, fun s x lo X => binds_K X rfl (by k_is) rfl rfl rfl, fun s x X => binds_K X rfl (by k_is) rfl rfl rfl⟩
theorem K43 (w : World) : ∃ o fd, (Mine.hd.heap_39 w.params).lookup 43 = some o ∧ o.data = .func fd ∧
    (∀ s x lo hi, (Mine.hd.heap_39 w.params).In s.heap → BindsTo s fd ⟨[.ref x, lo, hi], []⟩ [(Str.ofString "self", .ref x), (Str.ofString "low", lo), (Str.ofString "high", hi)]) ∧
    (∀ s x, (Mine.hd.heap_39 w.params).In s.heap → BindsTo s fd ⟨[.ref x], []⟩ [(Str.ofString "self", .ref x), (Str.ofString "low", .none), (Str.ofString "high", .none)]) :=
  ⟨_, _, by k_is, rfl, fun s x lo hi X => binds_K X rfl (by k_is) rfl rfl rfl, fun s x X => binds_K X rfl (by k_is) rfl rfl rfl⟩

section
variable {w : World} {s : Shared} {x : Addr} {lo hi : Value}
theorem keys_b3 (X : (Mine.hd.heap_39 w.params).In s.heap) : ∀ o fd, (Mine.hd.heap_39 w.params).lookup 37 = some o → o.data = .func fd → BindsTo s fd ⟨[.ref x, lo, hi], []⟩ [(Str.ofString "self", .ref x), (Str.ofString "low", lo), (Str.ofString "high", hi)] := by
  intro o fd ho hd
  obtain ⟨o', fd', ho', hd', h3, _⟩ := K37 w
  rw [ho'] at ho; cases ho; rw [hd'] at hd; cases hd; exact h3 s x lo hi X
theorem keys_b2 (X : (Mine.hd.heap_39 w.params).In s.heap) : ∀ o fd, (Mine.hd.heap_39 w.params).lookup 37 = some o → o.data = .func fd → BindsTo s fd ⟨[.ref x, lo], []⟩ [(Str.ofString "self", .ref x), (Str.ofString "low", lo), (Str.ofString "high", .none)] := by
  intro o fd ho hd
  obtain ⟨o', fd', ho', hd', _, h3, _⟩ := K37 w
  rw [ho'] at ho; cases ho; rw [hd'] at hd; cases hd; exact h3 s x lo X
theorem keys_b1 (X : (Mine.hd.heap_39 w.params).In s.heap) : ∀ o fd, (Mine.hd.heap_39 w.params).lookup 37 = some o → o.data = .func fd → BindsTo s fd ⟨[.ref x], []⟩ [(Str.ofString "self", .ref x), (Str.ofString "low", .none), (Str.ofString "high", .none)] := by
  intro o fd ho hd
  obtain ⟨o', fd', ho', hd', _, _, h3⟩ := K37 w
  rw [ho'] at ho; cases ho; rw [hd'] at hd; cases hd; exact h3 s x X
theorem values_b3 (X : (Mine.hd.heap_39 w.params).In s.heap) : ∀ o fd, (Mine.hd.heap_39 w.params).lookup 43 = some o → o.data = .func fd → BindsTo s fd ⟨[.ref x, lo, hi], []⟩ [(Str.ofString "self", .ref x), (Str.ofString "low", lo), (Str.ofString "high", hi)] := by
  intro o fd ho hd
  obtain ⟨o', fd', ho', hd', h3, _⟩ := K43 w
  rw [ho'] at ho; cases ho; rw [hd'] at hd; cases hd; exact h3 s x lo hi X
theorem values_b1 (X : (Mine.hd.heap_39 w.params).In s.heap) : ∀ o fd, (Mine.hd.heap_39 w.params).lookup 43 = some o → o.data = .func fd → BindsTo s fd ⟨[.ref x], []⟩ [(Str.ofString "self", .ref x), (Str.ofString "low", .none), (Str.ofString "high", .none)] := by
  intro o fd ho hd
  obtain ⟨o', fd', ho', hd', _, h3⟩ := K43 w
  rw [ho'] at ho; cases ho; rw [hd'] at hd; cases hd; exact h3 s x X
end

section
variable {prog : Program} {w : World} {A : Around} {E : Value → Shared → Prop} {s : Shared} {K : Type} [DecidableEq K] {O : KOrd prog w K} {x : Addr} {ps : List (K × Int)}
theorem meth_keys {pl : Sem Bool} {Q : Value × List Value → Shared → Prop} (X : (Mine.hd.heap_39 w.params).In s.heap) (t : Tab O s.heap x ps) (h : Q (.ref 37, [.ref x]) s) : wpAny (model prog w) A (getMethod (.ref x) "keys" pl) Q E s := by
  obtain ⟨dx, es, n, m, kvs, hx, hdx, _, _⟩ := t.at_
  exact getMethod_sub X hx hdx (K_keys w) (K_ty37 w) (by decide) h
theorem meth_values {pl : Sem Bool} {Q : Value × List Value → Shared → Prop} (X : (Mine.hd.heap_39 w.params).In s.heap) (t : Tab O s.heap x ps) (h : Q (.ref 43, [.ref x]) s) : wpAny (model prog w) A (getMethod (.ref x) "values" pl) Q E s := by
  obtain ⟨dx, es, n, m, kvs, hx, hdx, _, _⟩ := t.at_
  exact getMethod_sub X hx hdx (K_values w) (K_ty43 w) (by decide) h
theorem meth_maxKey {pl : Sem Bool} {Q : Value × List Value → Shared → Prop} (X : (Mine.hd.heap_39 w.params).In s.heap) (t : Tab O s.heap x ps) (h : Q (.ref 30, [.ref x]) s) : wpAny (model prog w) A (getMethod (.ref x) "maxKey" pl) Q E s := by
  obtain ⟨dx, es, n, m, kvs, hx, hdx, _, _⟩ := t.at_
  exact getMethod_sub X hx hdx (K_maxKey w) (K_ty30 w) (by decide) h
theorem meth_pop {pl : Sem Bool} {Q : Value × List Value → Shared → Prop} (X : (Mine.hd.heap_39 w.params).In s.heap) (t : Tab O s.heap x ps) (h : Q (.builtin "dict.pop", [.ref x]) s) : wpAny (model prog w) A (getMethod (.ref x) "pop" pl) Q E s := by
  obtain ⟨dx, es, n, m, kvs, hx, hdx, _, _⟩ := t.at_
  exact getMethod_sub X hx hdx (K_pop w) (K_typop w) (by decide) h

theorem mem_of_sorted {p : K × Int} (t : Tab O s.heap x ps) (hp : p ∈ ps) : ∀ {q : K × Int}, q ∈ ps → q.1 = p.1 → q = p := by
  intro q hq e
  have hs := t.sorted
  have irr : ∀ (a b : K × Int), a.1 = b.1 → O.lt a.1 b.1 = false := fun a b e => by rw [e]; exact O.irrefl _
  rw [List.pairwise_iff_getElem] at hs
  obtain ⟨i, hi, rfl⟩ := List.mem_iff_getElem.mp hp
  obtain ⟨j, hj, rfl⟩ := List.mem_iff_getElem.mp hq
  rcases Nat.lt_trichotomy i j with h | h | h
  · have := hs i j hi hj h; rw [irr _ _ e.symm] at this; cases this
  · subst h; rfl
  · have := hs j i hj hi h; rw [irr _ _ e] at this; cases this

/-- where a key lies in the table's own order -/
theorem Tab.split (t : Tab O s.heap x ps) {kvs : List (K × Int)} (hperm : kvs.Perm ps) {p : K × Int} (hp : p ∈ ps) : ∃ l1 l2, kvs = l1 ++ p :: l2 ∧ ∀ q ∈ l1, q.1 ≠ p.1 := by
  have hs : ps.Pairwise (fun a b => a.1 ≠ b.1) := t.sorted.imp fun {a b} h e => by rw [e, O.irrefl] at h; cases h
  have hs' : kvs.Pairwise (fun a b => a.1 ≠ b.1) := (hperm.pairwise_iff fun h => h.symm).mpr hs
  obtain ⟨l1, l2, rfl⟩ := List.append_of_mem (hperm.mem_iff.mpr hp)
  refine ⟨l1, l2, rfl, fun q hq => ?_⟩
  rw [List.pairwise_append] at hs'
  exact hs'.2.2 q hq p (.head _)

theorem tab_get {value slice : Expr} {p : K × Int} {key : Value} {Q : Value → Shared → Prop} (X : (Mine.hd.heap_39 w.params).In s.heap) (t : Tab O s.heap x ps) (hp : p ∈ ps) (hkey : O.knd.is p.1 key = true)
    (h : ∀ t, Q (.int p.2 t) { s with toks := s.toks + 1 }) (hs : subscripted slice false (.ref x) key = operate [.ref x, key] (getItem (.ref x) key)) (ht : ∀ r, letTemporaryGo value (.ref x) r = pure ()) :
    wpAny (model prog w) A (subscriptTail value slice (.ref x) key) Q E s := by
  obtain ⟨dx, es, n, m, kvs, hx, hdx, hen, hperm⟩ := t.at_
  obtain ⟨l1, l2, rfl, hn⟩ := t.split hperm hp
  exact item_sub X hx (getItem_hit X hx hen hn hkey h) hs ht
end
end Mine

-- part F8
namespace Mine
theorem walk_off_F8 : True := by w_top off; trivial

section
variable {prog : Program} {w : World} {A : Around} {E : Value → Shared → Prop} {s : Shared} {env : Env} {h₀ : Heap} {m : Str → Option Value} {news : List (Addr × Obj)}
theorem comp_assign {elt iter : Expr} {x y : Str} {px py : Pos} {ifs : List Expr} {scope : Scope} {cl : List (Str × Addr)} {pos spos : Pos} {l : Addr} {vs : List Value} {Q : Flow → Shared → Prop} (p : Value → Bool) (F : Value → Value → Prop)
    (hh : A.handled = none) (hl : s.heap.IsList l vs.toArray) (hsz : vs.length ≤ sizeLine) (hi : ∀ {Q : Value → Shared → Prop}, Q (.ref l) s → wpAny (model prog w) A (eval iter env) Q E s)
    (hF : Fr h₀ env.locals s.heap m) (N : News h₀ env.locals s.heap news)
    (hsw : swapsWith (.ListComp elt [⟨.Name x px, iter, ifs, 0⟩] scope pos) (some (.Name y py)) spos.line env = pure true)
    (hclos : closureFor scope env = pure cl) (hcell : ∀ y ∈ scope.names, y.2 ≠ .cell) (hkind : scope.kind = .function)
    (hnames : ∀ y ∈ scope.names, y.2 = .local → scope.names.lookup y.1 = some .local) (hx : scope.names.lookup x = some .local)
    (hy : env.kindOf y = some .local) (hek : env.scope.kind = .function)
    (ht : ∀ C v s₃ m₃ E', v ∈ vs → s₃.heap.Ns C m₃ → m₃ x = some v → s.heap.StaysIn s₃.heap →
      wpAny (model prog w) A (compTest ifs (compEnvC scope cl C env)) (fun ok s₄ => ok = p v ∧ Keeps s₃ s₄) E' s₃)
    (he : ∀ C v s₃ m₃ E', v ∈ vs → p v = true → s₃.heap.Ns C m₃ → m₃ x = some v → s.heap.StaysIn s₃.heap →
      wpAny (model prog w) A (eval elt (compEnvC scope cl C env)) (fun y s₄ => F v y ∧ Keeps s₃ s₄) E' s₃)
    (hQ : ∀ D h' tk ys c, Fr h₀ env.locals h' (fun z => if z = y then some (.ref D) else m z) → News h₀ env.locals h' ((D, { cls := .type "list", dict := none, data := .seq (ys : List Value).toArray c, slots := #[] }) :: news) → (∀ p ∈ news, p.1 ≠ D) → Paired F (vs.filter p) ys →
      Q .next { s with heap := h', toks := tk })
    (hs : ∀ x, foldedSetIterable iter env x = pure x := by intro _; rfl) :
    wpAny (model prog w) A (exec (.Assign [.Name y py] (.ListComp elt [⟨.Name x px, iter, ifs, 0⟩] scope pos) spos) env) Q E s := by
  obtain ⟨ol, hol, hr⟩ := id hl
  have hlt : l < s.heap.objs.size := Heap.lt_size hol
  have hne : l ≠ s.heap.objs.size := Nat.ne_of_lt hlt
  have hLlt : env.locals < s.heap.objs.size := hF.ns.lt
  refine wpAny_Assign_ListComp_free p F hsw hclos hcell hkind hnames hx hy (by rw [hek]; rfl) (hi (wpAny_pyIter_list hl ?_)) hs
  have stay : ∀ {h' : Heap}, (∀ b o, b ∉ [s.heap.objs.size] → (s.heap.push { cls := .type "list_iterator", data := .fields #[.ref l, .int 0 0] }).get? b = some o → h'.get? b = some o) → s.heap.StaysIn h' := fun k b o e =>
    k b o (fun hb => by rw [List.mem_singleton.mp hb] at e; exact absurd (Heap.lt_size e) (Nat.lt_irrefl _)) (Heap.get?_push_of_some _ e)
  have hmem : ∀ (i : Nat) (v : Value), vs.toArray[i]? = some v → v ∈ vs := fun i v hv => by
    have : vs[i]? = some v := by simpa using hv
    exact List.mem_of_getElem? this
  refine ⟨_, _, _, _, _, _, m, rfl, Walks.list hh _ l hne vs.toArray, by simpa using hsz, ⟨⟨_, Heap.get?_push_size _ rfl, rfl, rfl⟩, hl.at fun o e => Heap.get?_push_of_some _ e⟩, ?_, ?_, hF.ns.push _, ⟨?_, ?_⟩, ?_⟩
  · intro b hb
    show b < (s.heap.push _).objs.size
    rw [Heap.size_push]
    rcases List.mem_cons.mp hb with rfl | hb
    · exact Nat.lt_succ_self _
    · rw [List.mem_singleton.mp hb]; exact Nat.lt_succ_of_lt hlt
  · intro hb; exact absurd (List.mem_singleton.mp hb) (Nat.ne_of_lt hLlt)
  · intro C i v s₃ m₃ E' hC hv hn hm hk _
    exact ht C v s₃ m₃ E' (hmem i v hv) hn hm (stay hk)
  · intro C i v s₃ m₃ E' hC hv hp hn hm hk _
    exact he C v s₃ m₃ E' (hmem i v hv) hp hn hm (stay hk)
  · intro D h' tk ys vs' hD hl' hpl hlen hP hFF hns hk
    have evs : vs' = vs := by
      refine List.ext_getElem? fun j => ?_
      cases q : vs'[j]? with
      | none =>
        have hj : vs'.length ≤ j := by simpa using q
        have hj' : vs.length ≤ j := by simp at hlen; omega
        simp [hj']
      | some v => have := hP j v q; simpa using this.symm
    subst evs
    obtain ⟨c, ec⟩ := hpl
    have hDs : s.heap.get? D = none := by
      cases q : s.heap.get? D with
      | none => rfl
      | some o => have q' := Heap.get?_push_of_some { cls := .type "list_iterator", data := .fields #[.ref l, .int 0 0] } q; rw [show (s.heap.push _).get? D = none from hD] at q'; cases q'
    have kk : ∀ b o, b ≠ env.locals → s.heap.get? b = some o → h'.get? b = some o := fun b o hb e =>
      hk b o hb (fun q => by rw [List.mem_singleton.mp q] at e; exact absurd (Heap.lt_size e) (Nat.lt_irrefl _)) (Heap.get?_push_of_some _ e)
    refine hQ D h' tk ys.toList c ⟨hns, fun b o e => kk b o (fun q => ?_) (hF.keep b o e), hF.above⟩ (fun p hp => ?_) (fun p hp e => ?_) hFF
    · rw [q] at e; exact absurd (Nat.lt_of_lt_of_le (Heap.lt_size e) hF.above) (Nat.lt_irrefl _)
    · rcases List.mem_cons.mp hp with rfl | hp
      · refine ⟨by simpa using ec, fun e => ?_, ?_⟩
        · obtain ⟨oL, _, _, hL, _⟩ := hF.ns
          rw [← show D = env.locals from e, hDs] at hL; cases hL
        · cases z : h₀.get? D with
          | none => rfl
          | some o => have := hF.keep _ _ z; rw [hDs] at this; cases this
      · exact ⟨kk _ _ (N p hp).2.1 (N p hp).1, (N p hp).2⟩
    · have := (N p hp).1; rw [e, hDs] at this; cases this

variable {K : Type} [DecidableEq K] {O : KOrd prog w K}
/-- «keys = [one[0] for one in due]» -/
theorem assign_firsts {iter : Expr} {x y : Str} {px py p0 pe : Pos} {kd : Nat} {pe' : Pos} {scope : Scope} {cl : List (Str × Addr)} {pos spos : Pos} {l : Addr} {ps : List (K × Int)} {Q : Flow → Shared → Prop}
    (hh : A.handled = none) (hl : PrsAt O s.heap l ps) (hi : ∀ {Q : Value → Shared → Prop}, Q (.ref l) s → wpAny (model prog w) A (eval iter env) Q E s)
    (hF : Fr h₀ env.locals s.heap m) (N : News h₀ env.locals s.heap news)
    (hsw : swapsWith (.ListComp (.Subscript (.Name x p0) (.Constant (.int 0) kd pe) pe') [⟨.Name x px, iter, [], 0⟩] scope pos) (some (.Name y py)) spos.line env = pure true)
    (hclos : closureFor scope env = pure cl) (hcell : ∀ y ∈ scope.names, y.2 ≠ .cell) (hkind : scope.kind = .function)
    (hnames : ∀ y ∈ scope.names, y.2 = .local → scope.names.lookup y.1 = some .local) (hx : scope.names.lookup x = some .local)
    (hy : env.kindOf y = some .local) (hek : env.scope.kind = .function) (hxl : ∀ C, (compEnvC scope cl C env).kindOf x = some .local) (hxd : (x == ("__debug__" : Str)) = false)
    (hQ : ∀ D h' tk ys c, Fr h₀ env.locals h' (fun z => if z = y then some (.ref D) else m z) → News h₀ env.locals h' ((D, { cls := .type "list", dict := none, data := .seq (ys : List Value).toArray c, slots := #[] }) :: news) → (∀ p ∈ news, p.1 ≠ D) → Keys O ys (ps.map (·.1)) → ys.length < 64 →
      Q .next { s with heap := h', toks := tk })
    (hs : ∀ x, foldedSetIterable iter env x = pure x := by intro _; rfl) :
    wpAny (model prog w) A (exec (.Assign [.Name y py] (.ListComp (.Subscript (.Name x p0) (.Constant (.int 0) kd pe) pe') [⟨.Name x px, iter, [], 0⟩] scope pos) spos) env) Q E s := by
  obtain ⟨vs, hvs, hpi, hlen⟩ := hl
  refine comp_assign (fun _ => true) (fun v y => ∃ q, PairIs O s.heap v q ∧ O.knd.is q.1 y = true) hh hvs.isList (by rw [sizeLine_eq]; omega) hi hF N hsw hclos hcell hkind hnames hx hy hek ?_ ?_ ?_ hs
  · intro C v s₃ m₃ E' hv hn hm st
    exact test_nil ⟨rfl, keeps_rf _⟩
  · intro C v s₃ m₃ E' hv _ hn hm st
    obtain ⟨q, hq, hqv⟩ := hpi.mem_left v hv
    exact one_key hqv st (fun hQ => cname hn hm hQ (hxl C) hkind hxd) fun kv hkv => ⟨⟨q, hqv, hkv⟩, ⟨_, _, rfl, fun _ _ e => e⟩⟩
  · intro D h' tk ys c F' N' ne hFF
    rw [filter_all] at hFF
    refine hQ D h' tk ys c F' N' ne ?_ (by have := Paired.length hFF; omega)
    have h1 : All2 (fun v k => PairIs O s.heap v k) vs ps := hpi
    have h2 := All2.comp (S := fun y (q : K × Int) => O.knd.is q.1 y = true) h1 hFF fun a b c r f => by
      obtain ⟨q, hq, hk⟩ := f
      have e1 := hq.keyAt
      have e2 := r.keyAt
      rw [e1] at e2; rw [← e2]; exact hk
    exact All2.map_right h2 fun a b r => r
/-- «values = [one[1] for one in due]» -/
theorem assign_seconds {iter : Expr} {x y : Str} {px py p0 pe : Pos} {kd : Nat} {pe' : Pos} {scope : Scope} {cl : List (Str × Addr)} {pos spos : Pos} {l : Addr} {ps : List (K × Int)} {Q : Flow → Shared → Prop}
    (hh : A.handled = none) (hl : PrsAt O s.heap l ps) (hi : ∀ {Q : Value → Shared → Prop}, Q (.ref l) s → wpAny (model prog w) A (eval iter env) Q E s)
    (hF : Fr h₀ env.locals s.heap m) (N : News h₀ env.locals s.heap news)
    (hsw : swapsWith (.ListComp (.Subscript (.Name x p0) (.Constant (.int 1) kd pe) pe') [⟨.Name x px, iter, [], 0⟩] scope pos) (some (.Name y py)) spos.line env = pure true)
    (hclos : closureFor scope env = pure cl) (hcell : ∀ y ∈ scope.names, y.2 ≠ .cell) (hkind : scope.kind = .function)
    (hnames : ∀ y ∈ scope.names, y.2 = .local → scope.names.lookup y.1 = some .local) (hx : scope.names.lookup x = some .local)
    (hy : env.kindOf y = some .local) (hek : env.scope.kind = .function) (hxl : ∀ C, (compEnvC scope cl C env).kindOf x = some .local) (hxd : (x == ("__debug__" : Str)) = false)
    (hQ : ∀ D h' tk ys c, Fr h₀ env.locals h' (fun z => if z = y then some (.ref D) else m z) → News h₀ env.locals h' ((D, { cls := .type "list", dict := none, data := .seq (ys : List Value).toArray c, slots := #[] }) :: news) → (∀ p ∈ news, p.1 ≠ D) → Keys (intOrd prog w) ys (ps.map (·.2)) → ys.length < 64 →
      Q .next { s with heap := h', toks := tk })
    (hs : ∀ x, foldedSetIterable iter env x = pure x := by intro _; rfl) :
    wpAny (model prog w) A (exec (.Assign [.Name y py] (.ListComp (.Subscript (.Name x p0) (.Constant (.int 1) kd pe) pe') [⟨.Name x px, iter, [], 0⟩] scope pos) spos) env) Q E s := by
  obtain ⟨vs, hvs, hpi, hlen⟩ := hl
  refine comp_assign (fun _ => true) (fun v y => ∃ q, valAt s.heap v = some q ∧ (intOrd prog w).knd.is q y = true) hh hvs.isList (by rw [sizeLine_eq]; omega) hi hF N hsw hclos hcell hkind hnames hx hy hek ?_ ?_ ?_ hs
  · intro C v s₃ m₃ E' hv hn hm st
    exact test_nil ⟨rfl, keeps_rf _⟩
  · intro C v s₃ m₃ E' hv _ hn hm st
    obtain ⟨q, hq, hqv⟩ := hpi.mem_left v hv
    exact one_val hqv st (fun hQ => cname hn hm hQ (hxl C) hkind hxd) fun t => ⟨⟨q.2, hqv.valAt, beq_self_eq_true q.2⟩, ⟨_, _, rfl, fun _ _ e => e⟩⟩
  · intro D h' tk ys c F' N' ne hFF
    rw [filter_all] at hFF
    refine hQ D h' tk ys c F' N' ne ?_ (by have := Paired.length hFF; omega)
    have h1 : All2 (fun v k => PairIs O s.heap v k) vs ps := hpi
    have h2 := All2.comp (S := fun y (q : K × Int) => (intOrd prog w).knd.is q.2 y = true) h1 hFF fun a b c r f => by
      obtain ⟨q, hq, hk⟩ := f
      have e2 := r.valAt
      rw [e2] at hq; cases hq; exact hk
    exact All2.map_right h2 fun a b r => r
end
end Mine

-- part F9
namespace Mine
theorem walk_off_F9 : True := by w_top off; trivial

section
variable {prog : Program} {w : World} {A : Around} {E : Value → Shared → Prop} {s : Shared} {K : Type} [DecidableEq K] {O : KOrd prog w K} {a b : Addr} {xs ys : List Value} {ks : List K} {Q : Value → Shared → Prop} {h₀ : Heap} {L : Addr} {news : List (Addr × Obj)} {c1 c2 : Nat}
abbrev lobj (xs : List Value) (c : Nat) : Obj := { cls := .type "list", dict := none, data := .seq xs.toArray c, slots := #[] }
theorem News.isList (N : News h₀ L s.heap news) (m1 : (a, lobj xs c1) ∈ news) : s.heap.IsList a xs.toArray := ⟨_, N.get m1, rfl, _, rfl⟩
theorem eq_keysN (N : News h₀ L s.heap news) (m1 : (a, lobj xs c1) ∈ news) (m2 : (b, lobj ys c2) ∈ news) (hx : Keys O xs ks) (hy : Keys O ys ks) (hu : A.units < cLine) (h : Q (.bool true) s) :
    wpAny (model prog w) A (compareOp .Eq (.ref a) (.ref b)) Q E s := eq_keys (News.isList N m1) (News.isList N m2) hx hy hu h
theorem ne_keysN (N : News h₀ L s.heap news) (m1 : (a, lobj xs c1) ∈ news) (m2 : (b, lobj ys c2) ∈ news) (hx : Keys O xs ks) (hy : Keys O ys ks) (hu : A.units < cLine) (h : Q (.bool false) s) :
    wpAny (model prog w) A (compareOp .NotEq (.ref a) (.ref b)) Q E s := ne_keys (News.isList N m1) (News.isList N m2) hx hy hu h
variable {m : Str → Option Value} {rest : List (Addr × Obj)} {D : Addr} {x : Value}
theorem append_head (F : Fr h₀ L s.heap m) (N : News h₀ L s.heap ((D, lobj xs c1) :: rest)) (ne : ∀ p ∈ rest, p.1 ≠ D) (hlen : xs.length < 64)
    (h : ∀ h' o, Fr h₀ L h' m → News h₀ L h' ((D, o) :: rest) → Q .none { s with heap := h' }) : wpAny (model prog w) A (call (.builtin "list.append") [.ref D, x]) Q E s := by
  have z := N (D, lobj xs c1) (.head _)
  exact append_at (hsz := by rw [List.size_toArray, sizeLine_eq]; omega) z.1 fun h' hs ho' => h h' _ (F.change hs z.2.1 z.2.2) (news_set (pre := []) (post := rest) N (fun _ hp => nomatch hp) ne hs ho')
end
section
variable {prog : Program} {w : World} {A : Around} {E : Value → Shared → Prop} {s : Shared} {env : Env} {h₀ : Heap} {L : Addr} {m : Str → Option Value} {news : List (Addr × Obj)} {K : Type} [DecidableEq K] {O : KOrd prog w K}
/-- what a new list is, in a frame's ledger -/
def FreshL (h₀ : Heap) (L : Addr) (m : Str → Option Value) (news : List (Addr × Obj)) (s : Shared) (P : List Value → Prop) (Q : Value → Shared → Prop) : Prop :=
  ∀ r h' tk xs c, Fr h₀ L h' m → News h₀ L h' ((r, lobj xs c) :: news) → (∀ p ∈ news, p.1 ≠ r) → s.heap.StaysIn h' → P xs → xs.length < 64 → Q (.ref r) { s with heap := h', toks := tk }
theorem FreshL.use {P : List Value → Prop} {Q : Value → Shared → Prop} (h : FreshL h₀ L m news s P Q) (F : Fr h₀ L s.heap m) (N : News h₀ L s.heap news) {r : Addr} {h' : Heap} {tk : Nat} {xs : Array Value} (st : s.heap.StaysIn h') (hn : s.heap.get? r = none)
    (hpl : h'.PlainList r xs) (hp : P xs.toList) (hlen : xs.toList.length < 64) : Q (.ref r) { s with heap := h', toks := tk } := by
  obtain ⟨c, e⟩ := hpl
  refine h r h' tk xs.toList c (F.kept st) (fun p hp => ?_) (fun p hp e => ?_) st hp hlen
  · rcases List.mem_cons.mp hp with rfl | hp
    · refine ⟨by simpa using e, ?_, ?_⟩
      · intro er
        obtain ⟨oL, _, _, hL, _⟩ := F.ns
        rw [← show r = L from er, hn] at hL; cases hL
      · cases z : h₀.get? r with
        | none => rfl
        | some o => have := F.keep _ _ z; rw [hn] at this; cases this
    · exact ⟨st _ _ (N p hp).1, (N p hp).2⟩
  · have := (N p hp).1; rw [e, hn] at this; cases this

theorem pure_firsts {iter : Expr} {x : Str} {px p0 pe : Pos} {kd : Nat} {pe' : Pos} {scope : Scope} {cl : List (Str × Addr)} {pos pos' : Pos} {l : Addr} {vs : List Value} {ps : List (K × Int)} {Q : Value → Shared → Prop}
    (hh : A.handled = none) (hvs : s.heap.IsList l vs.toArray) (hpi : PairsIn O s.heap vs ps) (hlen : vs.length < 64) (hF : Fr h₀ L s.heap m) (N : News h₀ L s.heap news)
    (hclos : closureFor scope env = pure cl) (hcell : ∀ y ∈ scope.names, y.2 ≠ .cell) (hkind : scope.kind = .function)
    (hnames : ∀ y ∈ scope.names, y.2 = .local → scope.names.lookup y.1 = some .local) (hx : scope.names.lookup x = some .local)
    (hxl : ∀ C, (compEnvC scope cl C env).kindOf x = some .local) (hxd : (x == ("__debug__" : Str)) = false)
    (hQ : FreshL h₀ L m news s (fun ys => Keys O ys (ps.map (·.1))) Q)
    (hs : ∀ x, foldedSetIterable iter env x = pure x) :
    wpAny (model prog w) A (comprehension (.ListComp (.Subscript (.Name x p0) (.Constant (.int 0) kd pe) pe') [⟨.Name x px, iter, [], 0⟩] scope pos) scope env pos' (newList []) false (pure (.ref l)) none) Q E s := by
  refine comp_pure (fun _ => true) (fun v y => ∃ q, PairIs O s.heap v q ∧ O.knd.is q.1 y = true) hh hvs (by rw [sizeLine_eq]; omega) hclos hcell hkind hnames hx ?_ ?_ ?_ hs
  · intro C v s₃ m₃ E' hv hn hm st
    exact test_nil ⟨rfl, keeps_rf _⟩
  · intro C v s₃ m₃ E' hv _ hn hm st
    obtain ⟨q, hq, hqv⟩ := hpi.mem_left v hv
    exact one_key hqv st (fun hQ => cname hn hm hQ (hxl C) hkind hxd) fun kv hkv => ⟨⟨q, hqv, hkv⟩, ⟨_, _, rfl, fun _ _ e => e⟩⟩
  · intro D h' tk ys hD hpl hFF st
    rw [filter_all] at hFF
    refine hQ.use hF N st hD hpl ?_ (by have := Paired.length hFF; omega)
    have h1 : All2 (fun v k => PairIs O s.heap v k) vs ps := hpi
    have h2 := All2.comp (S := fun y (q : K × Int) => O.knd.is q.1 y = true) h1 hFF fun a b c r f => by
      obtain ⟨q, hq, hk⟩ := f
      have e1 := hq.keyAt
      have e2 := r.keyAt
      rw [e1] at e2; rw [← e2]; exact hk
    exact All2.map_right h2 fun a b r => r
theorem pure_seconds {iter : Expr} {x : Str} {px p0 pe : Pos} {kd : Nat} {pe' : Pos} {scope : Scope} {cl : List (Str × Addr)} {pos pos' : Pos} {l : Addr} {vs : List Value} {ps : List (K × Int)} {Q : Value → Shared → Prop}
    (hh : A.handled = none) (hvs : s.heap.IsList l vs.toArray) (hpi : PairsIn O s.heap vs ps) (hlen : vs.length < 64) (hF : Fr h₀ L s.heap m) (N : News h₀ L s.heap news)
    (hclos : closureFor scope env = pure cl) (hcell : ∀ y ∈ scope.names, y.2 ≠ .cell) (hkind : scope.kind = .function)
    (hnames : ∀ y ∈ scope.names, y.2 = .local → scope.names.lookup y.1 = some .local) (hx : scope.names.lookup x = some .local)
    (hxl : ∀ C, (compEnvC scope cl C env).kindOf x = some .local) (hxd : (x == ("__debug__" : Str)) = false)
    (hQ : FreshL h₀ L m news s (fun ys => Keys (intOrd prog w) ys (ps.map (·.2))) Q)
    (hs : ∀ x, foldedSetIterable iter env x = pure x) :
    wpAny (model prog w) A (comprehension (.ListComp (.Subscript (.Name x p0) (.Constant (.int 1) kd pe) pe') [⟨.Name x px, iter, [], 0⟩] scope pos) scope env pos' (newList []) false (pure (.ref l)) none) Q E s := by
  refine comp_pure (fun _ => true) (fun v y => ∃ q, valAt s.heap v = some q ∧ (intOrd prog w).knd.is q y = true) hh hvs (by rw [sizeLine_eq]; omega) hclos hcell hkind hnames hx ?_ ?_ ?_ hs
  · intro C v s₃ m₃ E' hv hn hm st
    exact test_nil ⟨rfl, keeps_rf _⟩
  · intro C v s₃ m₃ E' hv _ hn hm st
    obtain ⟨q, hq, hqv⟩ := hpi.mem_left v hv
    exact one_val hqv st (fun hQ => cname hn hm hQ (hxl C) hkind hxd) fun t => ⟨⟨q.2, hqv.valAt, beq_self_eq_true q.2⟩, ⟨_, _, rfl, fun _ _ e => e⟩⟩
  · intro D h' tk ys hD hpl hFF st
    rw [filter_all] at hFF
    refine hQ.use hF N st hD hpl ?_ (by have := Paired.length hFF; omega)
    have h1 : All2 (fun v k => PairIs O s.heap v k) vs ps := hpi
    have h2 := All2.comp (S := fun y (q : K × Int) => (intOrd prog w).knd.is q.2 y = true) h1 hFF fun a b c r f => by
      obtain ⟨q, hq, hk⟩ := f
      have e2 := r.valAt
      rw [e2] at hq; cases hq; exact hk
    exact All2.map_right h2 fun a b r => r
end
end Mine

-- part F11
namespace Mine
theorem walk_off_F11 : True := by w_top off; trivial

section
variable {prog : Program} {w : World} {A : Around} {E : Value → Shared → Prop} {s : Shared} {Q : Value → Shared → Prop}
theorem ne_int_same {a b : Int} {t u : Tok} (h : a = b) (q : Q (.bool false) s) : wpAny (model prog w) A (compareOp .NotEq (.int a t) (.int b u)) Q E s := PyProof.Rows.ne_int (by subst h; simpa using q)
variable {K : Type} [DecidableEq K] {O : KOrd prog w K} {h₀ : Heap} {L : Addr} {news : List (Addr × Obj)}
theorem ne_same {k : K} {u v : Value} (hu : O.knd.is k u = true) (hv : O.knd.is k v = true) (q : Q (.bool false) s) : wpAny (model prog w) A (compareOp .NotEq u v) Q E s := O.cNe hu hv (by simpa using q)
theorem eq_nilN {a b : Addr} {o : Obj} {vs : List Value} {n : Nat} {r : Bool} (hl : s.heap.IsList a vs.toArray) (N : News h₀ L s.heap news) (m2 : (b, o) ∈ news) (c2 : o.cls = .type "list") (d2 : o.data = .seq #[] n) (hu : A.units < cLine) (hr : vs.isEmpty = r) (q : Q (.bool r) s) :
    wpAny (model prog w) A (compareOp .Eq (.ref a) (.ref b)) Q E s := eq_nil hl ⟨_, N.get m2, c2, n, d2⟩ hu (by rw [hr]; exact q)
theorem ne_nilN {a b : Addr} {o : Obj} {vs : List Value} {n : Nat} {r : Bool} (hl : s.heap.IsList a vs.toArray) (N : News h₀ L s.heap news) (m2 : (b, o) ∈ news) (c2 : o.cls = .type "list") (d2 : o.data = .seq #[] n) (hu : A.units < cLine) (hr : (!vs.isEmpty) = r) (q : Q (.bool r) s) :
    wpAny (model prog w) A (compareOp .NotEq (.ref a) (.ref b)) Q E s := ne_nil hl ⟨_, N.get m2, c2, n, d2⟩ hu (by rw [hr]; exact q)

variable {x : Addr} {ps : List (K × Int)}
theorem tab_notin {p : K × Int} {key : Value} (X : (Mine.hd.heap_39 w.params).In s.heap) (t : Tab O s.heap x ps) (hp : p ∈ ps) (hkey : O.knd.is p.1 key = true) (h : Q (.bool false) { s with toks := s.toks + 1 }) :
    wpAny (model prog w) A (compareOp .NotIn key (.ref x)) Q E s := by
  obtain ⟨dx, es, n, m, kvs, hx, hdx, hen, hperm⟩ := t.at_
  obtain ⟨l1, l2, rfl, hn⟩ := t.split hperm hp
  exact notin_sub (k := p.1) (v := p.2) X hx t.lo hen hkey hn h
theorem item_last {value slice : Expr} {a : Addr} {vs : List Value} {v : Value} {u : Tok} (hl : s.heap.IsList a (vs ++ [v]).toArray) (hlen : (vs ++ [v]).length < 64) (h : Q v s)
    (hs : subscripted slice false (.ref a) (.int (-1) u) = operate [.ref a, .int (-1) u] (getItem (.ref a) (.int (-1) u))) (hg : ∀ r, letTemporaryGo value (.ref a) r = pure ()) :
    wpAny (model prog w) A (subscriptTail value slice (.ref a) (.int (-1) u)) Q E s := by
  refine subscriptTail_builtin hl.typeIs slot_list_getitem.lookup (wpAny_getItem_list_neg hl (by decide) ?_ (by decide) ?_ h) hs hg
  · simp; omega
  · have e : ((-1 : Int) + (((vs ++ [v]).toArray.size : Nat) : Int)).toNat = vs.length := by simp; omega
    rw [e]; simp
end
end Mine

-- part C2
namespace Mine
theorem walk_off_C2 : True := by w_top off; trivial
theorem fillB : (fun w : World => Mine.hd.heap_39 w.params) = (fun w => Mine.hd.heap_39 w.params) ∧ Challenge.rw_bt5022_01 = Challenge.rw_bt5022_01 := by k_fill; exact ⟨rfl, rfl⟩

section
variable {w : World} {A : Around} {s : Shared} {K : Type} [DecidableEq K] {O : KOrd Pr w K}
theorem between_ok {a : Addr} {ps : List (K × Int)} {lo hi : Value} {b c : Option K} {Q : Value → Shared → Prop} {E : Value → Shared → Prop} (Y : Ok w A s.heap 900 9000)
    {g : Heap} {vs : List Value} (hg : g.StaysIn s.heap) (hvs : s.heap.PlainList a vs.toArray) (hpi0 : PairsIn O g vs ps) (hlen : vs.length < 64) (blo : Bnd O lo b) (bhi : Bnd O hi c)
    (h : ∀ r h' tk xs, s.heap.StaysIn h' → s.heap.get? r = none → h'.PlainList r xs.toArray → PairsIn O g xs (ps.filter fun p => inb O b c p.1) → xs.length < 64 → Q (.ref r) { s with heap := h', toks := tk }) :
    wpAny (model Pr w) A (call (.ref 69) [.ref a, lo, hi]) Q E s := by
  have KX := Y.K
  obtain ⟨mg, mb, mean, T⟩ := Y.T
  obtain ⟨base, outer, A₀, B, hA⟩ := Y.below
  have hroom : A.depth < recursionLimit := Nat.lt_of_le_of_lt Y.depth (by decide)
  have hpi : PairsIn O s.heap vs ps := hpi0.at hg
  refine wpAny_call ?_
  refine' enterC (T.nolimit) KX ?k1 ?k3 hroom ?k5 ?k6 ?k7 ?k8 ?c2 ?c3 ?c4
  case k1 => k_is
  case k3 => k_is
  case k5 => exact BindsTo.of_eq (binds := [(Str.ofString "pairs", .ref a), (Str.ofString "low", lo), (Str.ofString "high", hi)]) rfl
  case k6 => exact kindsX rfl
  case k7 => decide
  case c2 => rfl
  case c3 => rfl
  case c4 => rfl
  intro L' h₁ tk cells F' N' C'
  obtain ⟨oh, ol, rfl, hoh, hol⟩ := C'.two
  k_steps
  refine comp_eval rfl ?_
  k_steps
  have ks : s.heap.StaysIn h₁ := F'.keep
  refine comp_pure (l := a) (vs := vs) (fun v => inb O b c (keyAt O s.heap v)) (fun a b => a = b) Y.hand (hvs.at fun o => ks a o).isList (by rw [sizeLine_eq]; omega) rfl (by decide) rfl (by decide) rfl ?_ ?_ ?_
  · intro C v s₃ m₃ E' hv hn hm st
    obtain ⟨q, hq, hqv⟩ := hpi.mem_left v hv
    have hcl : ∀ {c o}, (c, o) ∈ [(L' + 1 + 1, oh), (L' + 1, ol)] → ∀ s' : Shared, Keeps s₃ s' → s'.heap.get? c = some o := by
      rintro c o hm s' ⟨h2, t2, rfl, k2⟩
      exact k2 _ _ (st _ _ (N'.get hm))
    rw [hqv.keyAt]
    refine test_one ?_
    refine bound_test (O := O) (lo := lo) (hi := hi) (k := q.1) blo bhi ?_ ?_ ?_ ?_ ?_ ?_ ?_ ?_
    · intro s' k'
      exact ccell (c := L' + 1) rfl ⟨ol, hcl (by simp) s' k', hol⟩ ⟨rfl, keeps_rf _⟩ rfl
    · intro s' k'
      exact ccell (c := L' + 1) rfl ⟨ol, hcl (by simp) s' k', hol⟩ ⟨rfl, keeps_rf _⟩ rfl
    · intro s' k'
      exact ccell (c := L' + 1 + 1) rfl ⟨oh, hcl (by simp) s' k', hoh⟩ ⟨rfl, keeps_rf _⟩ rfl
    · intro s' k'
      exact ccell (c := L' + 1 + 1) rfl ⟨oh, hcl (by simp) s' k', hoh⟩ ⟨rfl, keeps_rf _⟩ rfl
    · intro s' k'
      obtain ⟨h2, t2, rfl, k2⟩ := k'
      exact one_key (O := O) hqv (fun b o e => k2 b o (st b o (ks b o e))) (fun hQ => cname (hn.at' fun o e => k2 _ o e) hm hQ rfl) fun kv hkv => ⟨hkv, ⟨_, _, rfl, fun _ _ e => e⟩⟩
    · intro s' k'
      obtain ⟨h2, t2, rfl, k2⟩ := k'
      exact one_key (O := O) hqv (fun b o e => k2 b o (st b o (ks b o e))) (fun hQ => cname (hn.at' fun o e => k2 _ o e) hm hQ rfl) fun kv hkv => ⟨hkv, ⟨_, _, rfl, fun _ _ e => e⟩⟩
    · with_unfolding_all rfl
    · with_unfolding_all rfl
  · intro C v s₃ m₃ E' hv hp hn hm st
    exact cname hn hm ⟨rfl, keeps_rf _⟩ rfl
  · intro D h' tk' ys hD hpl hF st
    have e := Paired.eqs hF
    have hpi' : PairsIn O g ys.toList (ps.filter fun p => inb O b c p.1) := by
      rw [e]; exact All2.filter hpi0 fun v q hq => by rw [(hq.at hg).keyAt]
    have st' : s.heap.StaysIn h' := fun b o x => st b o (ks b o x)
    refine h D h' _ ys.toList st' ?_ (by simpa using hpl) hpi' ?_
    · cases z : s.heap.get? D with
      | none => rfl
      | some o => have := ks _ _ z; rw [show h₁.get? D = none from hD] at this; cases this
    · rw [e]; exact Nat.lt_of_le_of_lt (List.length_filter_le _ _) hlen

variable {A₀ : Around} {h₀ : Heap} {L : Addr} {m : Str → Option Value} {news : List (Addr × Obj)} {env : Env}
theorem between_in {a : Addr} {ps : List (K × Int)} {lo hi : Value} {b c : Option K} {Q : Value → Shared → Prop} {E : Value → Shared → Prop} (Y : Ok w A₀ h₀ 899 8990) (F : Fr h₀ L s.heap m) (N : News h₀ L s.heap news) (hf : env.frame = some L) (hk : env.scope.kind = .function)
    (ha : PrsAt O h₀ a ps) (blo : Bnd O lo b) (bhi : Bnd O hi c)
    (h : ∀ r h' tk xs cc, Fr h₀ L h' m → News h₀ L h' ((r, { cls := .type "list", dict := none, data := .seq (xs : List Value).toArray cc, slots := #[] }) :: news) → (∀ p ∈ news, p.1 ≠ r) → s.heap.StaysIn h' → PairsIn O h₀ xs (ps.filter fun p => inb O b c p.1) → xs.length < 64 → Q (.ref r) { s with heap := h', toks := tk }) :
    wpAny (model Pr w) (A₀.deeper env) (call (.ref 69) [.ref a, lo, hi]) Q E s := by
  have Y' := Y.push (env := env) F hf hk
  obtain ⟨vs, hvs, hpi, hlen⟩ := ha
  refine between_ok (O := O) (Y'.mono (Nat.le_refl _) (by decide)) F.keep (hvs.at fun o => F.keep a o) hpi hlen blo bhi ?_
  intro r h' tk xs st hn hpl hk hl
  obtain ⟨cc, e⟩ := hpl
  refine h r h' tk xs cc (F.kept st) (fun p hp => ?_) (fun p hp e => ?_) st hk hl
  · rcases List.mem_cons.mp hp with rfl | hp
    · refine ⟨e, fun er => ?_, ?_⟩
      · obtain ⟨oL, _, _, hL, _⟩ := F.ns
        rw [← show r = L from er, hn] at hL; cases hL
      · cases z : h₀.get? r with
        | none => rfl
        | some o => have := F.keep _ _ z; rw [hn] at this; cases this
    · exact ⟨st _ _ (N p hp).1, (N p hp).2⟩
  · have := (N p hp).1; rw [e, hn] at this; cases this
end
end Mine

-- part C3
namespace Mine
theorem walk_off_C3 : True := by w_top off; trivial
theorem fillK : (fun w : World => Mine.hd.heap_39 w.params) = (fun w => Mine.hd.heap_39 w.params) ∧ Challenge.rw_bt5022_01 = Challenge.rw_bt5022_01 := by k_fill; exact ⟨rfl, rfl⟩

theorem sorted_unique {prog : Program} {w : World} {K : Type} [DecidableEq K] (O : KOrd prog w K) {l1 l2 : List K} (hp : l1.Perm l2) (h1 : l1.Pairwise (fun a b => O.lt b a = false)) (h2 : l2.Pairwise (fun a b => O.lt a b = true)) : l1 = l2 := by
  refine List.Perm.eq_of_pairwise (le := fun a b => O.lt b a = false) (fun a b _ _ h1 h2 => O.tri _ _ h2 h1) h1 (h2.imp ?_) hp
  intro a b hab
  cases hba : O.lt b a with
  | false => rfl
  | true => have := O.trans _ _ _ hab hba; rw [O.irrefl] at this; cases this

section
variable {w : World} {A : Around} {s : Shared} {K : Type} [DecidableEq K] {O : KOrd Pr w K}
/-- what keys tells: a new list -/
def KeysNew (O : KOrd Pr w K) (s : Shared) (ks : List K) (Q : Value → Shared → Prop) : Prop :=
  ∀ r h' tk xs, s.heap.StaysIn h' → s.heap.get? r = none → h'.PlainList r xs.toArray → Keys O xs ks → xs.length < 64 → Q (.ref r) { s with heap := h', toks := tk }

theorem keys_ok {x : Addr} {args : Args} {ps : List (K × Int)} {lo hi : Value} {b c : Option K} {Q : Value → Shared → Prop} {E : Value → Shared → Prop} (Y : Ok w A s.heap 900 9000)
    (t : Tab O s.heap x ps) (blo : Bnd O lo b) (bhi : Bnd O hi c)
    (hb : ∀ o fd, (Mine.hd.heap_39 w.params).lookup 37 = some o → o.data = .func fd → BindsTo s fd args [(Str.ofString "self", .ref x), (Str.ofString "low", lo), (Str.ofString "high", hi)])
    (h : KeysNew O s ((ps.filter fun p => inb O b c p.1).map (·.1)) Q) :
    wpAny (model Pr w) A (call (.ref 37) args.pos args.kw) Q E s := by
  have KX := Y.K
  obtain ⟨mg, mb, mean, T⟩ := Y.T
  obtain ⟨base, outer, A₀, B, hA⟩ := Y.below
  have hroom : A.depth < recursionLimit := Nat.lt_of_le_of_lt Y.depth (by decide)
  refine wpAny_call ?_
  refine' enterS (v1 := .ref x) (v2 := lo) (v3 := hi) (T.nolimit) KX ?k1 ?k3 hroom ?k5 ?k6 ?k7 ?k8 ?c2 ?c3 ?c4
  case k1 => k_is
  case k3 => k_is
  case k5 => exact hb _ _ (by k_is) rfl
  case k6 => rfl
  case k7 => decide
  case c2 => rfl
  case c3 => rfl
  case c4 => rfl
  intro L' h₁ tk ol oh F' N' hol hoh
  refine ks_wpAt_execs_cons (ks_wpAt_Return_some ?_)
  rw [eval_ListComp]
  refine comp_firstAt rfl rfl ?_
  refine Call_at1 ?_ ?_
  · walk1
    obtain ⟨dx, es, n, m, kvs, hx, hdx, hen, hperm⟩ := t.at_
    have hks : Keys O (es.map (·.key)) (kvs.map (·.1)) := by
      have : ∀ {es : List DictEntry} {kvs : List (K × Int)}, Ents O.knd es kvs → Keys O (es.map (·.key)) (kvs.map (·.1)) := by
        intro es kvs h
        induction h with
        | nil => exact .nil
        | cons r _ ih => exact .cons r.1 ih
      exact this hen
    have hel : es.length < 64 := by have := All2.length hen; have := hperm.length_eq; have := t.short; omega
    refine super_keys F' KX T (by k_is) rfl rfl rfl (by k_is) rfl (by first | rfl | decide +kernel) (by rfl) rfl rfl rfl rfl rfl (F'.keep _ _ hx) t.lo t.ne ?_
    intro v h2 tk2 st2 hv2
    refine PySem.callWith_builtin1 (wpAny_pure ?_)
    have st02 : s.heap.StaysIn h2 := fun b o e => st2 b o (F'.keep b o e)
    refine sorted_view (O := O) Y.hand hv2 ⟨dx, st02 _ _ hx⟩ hks hel ?_
    intro h3 tk3 l out n3 ks3 st3 hl0 hl hko hp3 hs3
    have st03 : s.heap.StaysIn h3 := fun b o e => st3 b o (st02 b o e)
    have eks : ks3 = ps.map (·.1) := sorted_unique O (hp3.trans (hperm.map _)) hs3 (List.pairwise_map.mpr t.sorted)
    subst eks
    have hout : out.toList.length < 64 := by have := All2.length hko; simp at this; have := t.short; simp; omega
    refine comp_pure (l := l) (vs := out.toList) (fun v => inb O b c ((O.keyOf v).getD O.dflt)) (fun a b => a = b) Y.hand ⟨_, hl, rfl, _, rfl⟩ (by rw [sizeLine_eq]; omega) rfl (by decide) rfl (by decide) rfl ?_ ?_ ?_
    · intro C v s₃ m₃ E' hv hn hm st
      obtain ⟨q, hq, hqv⟩ := hko.mem_left v hv
      have hcl : ∀ {c o}, (c, o) ∈ [(L' + 1, ol), (L' + 1 + 1, oh)] → ∀ s' : Shared, Keeps s₃ s' → s'.heap.get? c = some o := by
        rintro c o hm s' ⟨h2, t2, rfl, k2⟩
        exact k2 _ _ (st _ _ (st3 _ _ (st2 _ _ (N'.get hm))))
      rw [O.keyOf_is _ _ hqv, Option.getD_some]
      refine test_one ?_
      refine bound_test (O := O) (lo := lo) (hi := hi) (k := q) blo bhi ?_ ?_ ?_ ?_ ?_ ?_ ?_ ?_
      · intro s' k'
        exact ccell (c := L' + 1) rfl ⟨ol, hcl (by simp) s' k', hol⟩ ⟨rfl, keeps_rf _⟩ rfl
      · intro s' k'
        exact ccell (c := L' + 1) rfl ⟨ol, hcl (by simp) s' k', hol⟩ ⟨rfl, keeps_rf _⟩ rfl
      · intro s' k'
        exact ccell (c := L' + 1 + 1) rfl ⟨oh, hcl (by simp) s' k', hoh⟩ ⟨rfl, keeps_rf _⟩ rfl
      · intro s' k'
        exact ccell (c := L' + 1 + 1) rfl ⟨oh, hcl (by simp) s' k', hoh⟩ ⟨rfl, keeps_rf _⟩ rfl
      · intro s' k'
        obtain ⟨h2, t2, rfl, k2⟩ := k'
        exact cname (hn.at' fun o e => k2 _ o e) hm ⟨hqv, keeps_rf _⟩ rfl
      · intro s' k'
        obtain ⟨h2, t2, rfl, k2⟩ := k'
        exact cname (hn.at' fun o e => k2 _ o e) hm ⟨hqv, keeps_rf _⟩ rfl
      · with_unfolding_all rfl
      · with_unfolding_all rfl
    · intro C v s₃ m₃ E' hv hp hn hm st
      exact cname hn hm ⟨rfl, keeps_rf _⟩ rfl
    · intro D h' tk' ys hD hpl hF st
      have e := Paired.eqs hF
      have st' : s.heap.StaysIn h' := fun b o x => st b o (st03 b o x)
      refine h D h' _ ys.toList st' ?_ (by simpa using hpl) ?_ ?_
      · cases z : s.heap.get? D with
        | none => rfl
        | some o => have := st03 _ _ z; rw [show h3.get? D = none from hD] at this; cases this
      · rw [e]
        have := All2.filter (p := fun v => inb O b c ((O.keyOf v).getD O.dflt)) (q := inb O b c) hko fun v q hq => by rw [O.keyOf_is _ _ hq, Option.getD_some]
        rw [List.filter_map] at this
        exact this
      · rw [e]; exact Nat.lt_of_le_of_lt (List.length_filter_le _ _) hout
  · rfl
end

section
variable {w : World} {A₀ : Around} {s : Shared} {K : Type} [DecidableEq K] {O : KOrd Pr w K} {h₀ : Heap} {L : Addr} {m : Str → Option Value} {news : List (Addr × Obj)} {env : Env} {n u : Nat}
/-- what a new list is, in a frame's ledger -/
def NewList (O : KOrd Pr w K) (h₀ : Heap) (L : Addr) (m : Str → Option Value) (news : List (Addr × Obj)) (s : Shared) (ks : List K) (Q : Value → Shared → Prop) : Prop :=
  ∀ r h' tk xs c, Fr h₀ L h' m → News h₀ L h' ((r, { cls := .type "list", dict := none, data := .seq (xs : List Value).toArray c, slots := #[] }) :: news) → (∀ p ∈ news, p.1 ≠ r) → s.heap.StaysIn h' → s.heap.get? r = none → Keys O xs ks → xs.length < 64 → Q (.ref r) { s with heap := h', toks := tk }
theorem NewList.of {O : KOrd Pr w K} {ks : List K} {Q : Value → Shared → Prop} (F : Fr h₀ L s.heap m) (N : News h₀ L s.heap news) (h : NewList O h₀ L m news s ks Q) : KeysNew O s ks Q := by
  intro r h' tk xs st hn hpl hk hlen
  obtain ⟨c, e⟩ := hpl
  refine h r h' tk xs c (F.kept st) (fun p hp => ?_) (fun p hp e => ?_) st hn hk hlen
  · rcases List.mem_cons.mp hp with rfl | hp
    · refine ⟨e, ?_, ?_⟩
      · intro er
        obtain ⟨oL, _, _, hL, _⟩ := F.ns
        rw [← show r = L from er, hn] at hL; cases hL
      · cases z : h₀.get? r with
        | none => rfl
        | some o => have := F.keep _ _ z; rw [hn] at this; cases this
    · exact ⟨st _ _ (N p hp).1, (N p hp).2⟩
  · have := (N p hp).1; rw [e, hn] at this; cases this
variable {x : Addr} {ps : List (K × Int)} {lo hi : Value} {b c : Option K} {Q : Value → Shared → Prop} {E : Value → Shared → Prop}
theorem keys3 (Y : Ok w A₀ h₀ 899 8990) (F : Fr h₀ L s.heap m) (N : News h₀ L s.heap news) (hf : env.frame = some L) (hk : env.scope.kind = .function) (t : Tab O h₀ x ps) (blo : Bnd O lo b) (bhi : Bnd O hi c)
    (h : NewList O h₀ L m news s ((ps.filter fun p => inb O b c p.1).map (·.1)) Q) : wpAny (model Pr w) (A₀.deeper env) (call (.ref 37) [.ref x, lo, hi]) Q E s :=
  have Y' := Y.push (env := env) F hf hk
  keys_ok (args := ⟨[.ref x, lo, hi], []⟩) (Y'.mono (Nat.le_refl _) (by decide)) (t.at F.keep) blo bhi (keys_b3 Y'.K) (NewList.of F N h)
theorem keys2 (Y : Ok w A₀ h₀ 899 8990) (F : Fr h₀ L s.heap m) (N : News h₀ L s.heap news) (hf : env.frame = some L) (hk : env.scope.kind = .function) (t : Tab O h₀ x ps) (blo : Bnd O lo b)
    (h : NewList O h₀ L m news s ((ps.filter fun p => inb O b none p.1).map (·.1)) Q) : wpAny (model Pr w) (A₀.deeper env) (call (.ref 37) [.ref x, lo]) Q E s :=
  have Y' := Y.push (env := env) F hf hk
  keys_ok (args := ⟨[.ref x, lo], []⟩) (Y'.mono (Nat.le_refl _) (by decide)) (t.at F.keep) blo (.inl ⟨rfl, rfl⟩) (keys_b2 Y'.K) (NewList.of F N h)
theorem inb_none (O : KOrd Pr w K) (ps : List (K × Int)) : (ps.filter fun p => inb O none none p.1) = ps := List.filter_eq_self.mpr fun _ _ => rfl
theorem keys1 (Y : Ok w A₀ h₀ 899 8990) (F : Fr h₀ L s.heap m) (N : News h₀ L s.heap news) (hf : env.frame = some L) (hk : env.scope.kind = .function) (t : Tab O h₀ x ps)
    (h : NewList O h₀ L m news s (ps.map (·.1)) Q) : wpAny (model Pr w) (A₀.deeper env) (call (.ref 37) [.ref x]) Q E s :=
  have Y' := Y.push (env := env) F hf hk
  keys_ok (args := ⟨[.ref x], []⟩) (Y'.mono (Nat.le_refl _) (by decide)) (t.at F.keep) (.inl ⟨rfl, rfl⟩) (.inl ⟨rfl, rfl⟩) (keys_b1 Y'.K) (NewList.of F N (by rw [inb_none]; exact h))
end
end Mine

-- part C4
namespace Mine
theorem walk_off_C4 : True := by w_top off; trivial
theorem fillV : (fun w : World => Mine.hd.heap_39 w.params) = (fun w => Mine.hd.heap_39 w.params) ∧ Challenge.rw_bt5022_01 = Challenge.rw_bt5022_01 := by k_fill; exact ⟨rfl, rfl⟩

local macro_rules | `(tactic| walk_at "eval ListComp") => `(tactic| refine comp_eval rfl ?_)
set_option hygiene false in
local macro_rules | `(tactic| walk_at "getMethod ref") => `(tactic| (refine meth_keys (O := O) (Y.K.keeps (Fr.keep (by assumption))) (t.at (Fr.keep (by assumption))) ?_))
set_option hygiene false in
local macro_rules | `(tactic| walk_at "call ref") => `(tactic| (refine keys3 (O := O) Y (by assumption) (by assumption) rfl rfl t blo bhi ?_; unfold NewList; intro r h2 tk2 xs cc F2 N2 ne2 st2 hr2 hko hxs))
section
variable {w : World} {A : Around} {s : Shared} {K : Type} [DecidableEq K] {O : KOrd Pr w K}

theorem values_ok {x : Addr} {args : Args} {ps : List (K × Int)} {lo hi : Value} {b c : Option K} {Q : Value → Shared → Prop} {E : Value → Shared → Prop} (Y : Ok w A s.heap 899 8990)
    (t : Tab O s.heap x ps) (blo : Bnd O lo b) (bhi : Bnd O hi c)
    (hb : ∀ o fd, (Mine.hd.heap_39 w.params).lookup 43 = some o → o.data = .func fd → BindsTo s fd args [(Str.ofString "self", .ref x), (Str.ofString "low", lo), (Str.ofString "high", hi)])
    (h : KeysNew (intOrd Pr w) s ((ps.filter fun p => inb O b c p.1).map (·.2)) Q) :
    wpAny (model Pr w) A (call (.ref 43) args.pos args.kw) Q E s := by
  have KX := Y.K
  obtain ⟨mg, mb, mean, T⟩ := Y.T
  obtain ⟨base, outer, A₀, B, hA⟩ := Y.below
  have hroom : A.depth < recursionLimit := Nat.lt_of_le_of_lt Y.depth (by decide)
  refine wpAny_call ?_
  refine' enterC (binds := [(Str.ofString "self", .ref x), (Str.ofString "low", lo), (Str.ofString "high", hi)]) (T.nolimit) KX ?k1 ?k3 hroom ?k5 ?k6 ?k7 ?k8 ?c2 ?c3 ?c4
  case k1 => k_is
  case k3 => k_is
  case k5 => exact hb _ _ (by k_is) rfl
  case k6 => exact kindsX rfl
  case k7 => decide
  case c2 => rfl
  case c3 => rfl
  case c4 => rfl
  intro L' h₁ tk cells F' N' C'
  obtain ⟨oS, rfl, hoS⟩ := C'.one
  k_steps
  have st02 : s.heap.StaysIn h2 := F2.keep
  refine comp_pure (l := r) (vs := xs) (fun v => true) (fun v y => ∃ p ∈ ps, O.knd.is p.1 v = true ∧ ∃ t, y = .int p.2 t) Y.hand ⟨_, N2.get (.head _), rfl, _, rfl⟩ (by rw [sizeLine_eq]; omega) rfl (by decide) rfl (by decide) rfl ?_ ?_ ?_
  · intro C v s₃ m₃ E' hv hn hm st
    exact test_nil ⟨rfl, keeps_rf _⟩
  · intro C v s₃ m₃ E' hv hp hn hm st
    obtain ⟨q, hq, hqv⟩ := hko.mem_left v hv
    obtain ⟨p, hp, rfl⟩ := List.mem_map.mp hq
    have hpm : p ∈ ps := (List.mem_filter.mp hp).1
    have st3 : s.heap.StaysIn s₃.heap := fun b o e => st b o (st02 b o e)
    refine Subscript_ (ccell (c := L' + 1) rfl ⟨oS, st _ _ (N2.get (.tail _ (.head _))), hoS⟩ ?_ rfl)
    refine cname hn hm ?_ rfl
    exact tab_get (KX.keeps st3) (t.at st3) hpm hqv (fun t => ⟨⟨p, hpm, hqv, t, rfl⟩, ⟨_, _, rfl, fun _ _ e => e⟩⟩) (by with_unfolding_all rfl) (by intro _; with_unfolding_all rfl)
  · intro D h' tk' ys hD hpl hF st
    have st' : s.heap.StaysIn h' := fun b o x => st b o (st02 b o x)
    rw [filter_all] at hF
    have hys : Keys (intOrd Pr w) ys.toList ((ps.filter fun p => inb O b c p.1).map (·.2)) := by
      have key : ∀ (l : List (K × Int)) (xs ys : List Value), (∀ p ∈ l, p ∈ ps) → Keys O xs (l.map (·.1)) → Paired (fun (v y : Value) => ∃ p ∈ ps, O.knd.is p.1 v = true ∧ ∃ t, y = Value.int p.2 t) xs ys → Keys (intOrd Pr w) ys (l.map (·.2)) := by
        intro l
        induction l with
        | nil => intro xs ys _ hk hF; cases hk; cases hF; exact .nil
        | cons p l ih =>
          intro xs ys hl hk hF
          cases hk with
          | cons r hk =>
            cases hF with
            | cons f hF =>
              refine .cons ?_ (ih _ _ (fun q hq => hl q (.tail _ hq)) hk hF)
              obtain ⟨q, hq, hqv, t', rfl⟩ := f
              have e : q.1 = p.1 := by
                have a := O.keyOf_is _ _ hqv
                have b := O.keyOf_is _ _ r
                rw [a] at b; exact Option.some.inj b
              have := mem_of_sorted (O := O) (s := s) t (hl p (.head _)) hq e
              rw [this]
              exact beq_self_eq_true p.2
      exact key _ _ _ (fun p hp => (List.mem_filter.mp hp).1) hko hF
    refine h D h' _ ys.toList st' ?_ (by simpa using hpl) hys ?_
    · cases z : s.heap.get? D with
      | none => rfl
      | some o => have := st02 _ _ z; rw [show h2.get? D = none from hD] at this; cases this
    · have := Paired.length hF; omega
variable {A₀ : Around} {h₀ : Heap} {L : Addr} {m : Str → Option Value} {news : List (Addr × Obj)} {env : Env} {x : Addr} {ps : List (K × Int)} {lo hi : Value} {b c : Option K} {Q : Value → Shared → Prop} {E : Value → Shared → Prop}
theorem values3 (Y : Ok w A₀ h₀ 898 8980) (F : Fr h₀ L s.heap m) (N : News h₀ L s.heap news) (hf : env.frame = some L) (hk : env.scope.kind = .function) (t : Tab O h₀ x ps) (blo : Bnd O lo b) (bhi : Bnd O hi c)
    (h : NewList (intOrd Pr w) h₀ L m news s ((ps.filter fun p => inb O b c p.1).map (·.2)) Q) : wpAny (model Pr w) (A₀.deeper env) (call (.ref 43) [.ref x, lo, hi]) Q E s :=
  have Y' := Y.push (env := env) F hf hk
  values_ok (args := ⟨[.ref x, lo, hi], []⟩) (Y'.mono (Nat.le_refl _) (by decide)) (t.at F.keep) blo bhi (values_b3 Y'.K) (NewList.of F N h)
theorem values1 (Y : Ok w A₀ h₀ 898 8980) (F : Fr h₀ L s.heap m) (N : News h₀ L s.heap news) (hf : env.frame = some L) (hk : env.scope.kind = .function) (t : Tab O h₀ x ps)
    (h : NewList (intOrd Pr w) h₀ L m news s (ps.map (·.2)) Q) : wpAny (model Pr w) (A₀.deeper env) (call (.ref 43) [.ref x]) Q E s :=
  have Y' := Y.push (env := env) F hf hk
  values_ok (args := ⟨[.ref x], []⟩) (Y'.mono (Nat.le_refl _) (by decide)) (t.at F.keep) (.inl ⟨rfl, rfl⟩) (.inl ⟨rfl, rfl⟩) (values_b1 Y'.K) (NewList.of F N (by rw [inb_none]; exact h))
end
end Mine

-- part C5
namespace Mine
theorem walk_off_C5 : True := by w_top off; trivial
theorem fillM : (fun w : World => Mine.hd.heap_39 w.params) = (fun w => Mine.hd.heap_39 w.params) ∧ Challenge.rw_bt5022_01 = Challenge.rw_bt5022_01 := by k_fill; exact ⟨rfl, rfl⟩

section
variable {prog : Program} {w : World} {A : Around} {s : Shared}
  {R : Result → Shared → Prop} {name qual : Str} {params : Arguments} {body : List Stmt} {scope : Scope} {cl : List (Str × Addr)} {dV kV doc pm cdv ct : Value} {an : Option Addr} {f : Addr} {K : Frag} {oc : Value} {od : Option Addr} {osl : Array (Option Value)} {args : Args} {binds : List (Str × Value)}
/-- as enter, the running code told -/
theorem enterAt (hlim : s.heap.NoLimit) (X : K.In s.heap) (ho : K.lookup f = some ⟨oc, od, .func (fnX name qual params body scope cl dV kV doc pm an cdv ct), osl⟩) (hcd : codeIn K cdv qual = true) (hroom : A.depth < recursionLimit)
    (hbind : BindsTo s (fnX name qual params body scope cl dV kV doc pm an cdv ct) args binds) (hloc : ∀ y ∈ binds, scope.names.lookup y.1 = some .local)
    (h : ∀ L' h₁, Fr s.heap L' h₁ (fun y => binds.reverse.lookup y) → 
      _root_.PySem.wpAt (model prog w) (A.deeper (envX qual scope L' f cdv cl)) (.func body (envX qual scope L' f cdv cl)) (execs body (envX qual scope L' f cdv cl))
        (fun fl s' => R (.ok (.ret (match fl with | .ret v => v | _ => .none))) s')
        (fun e s' => wpAny (model prog w) (A.deeper (envX qual scope L' f cdv cl)) (leaving (envX qual scope L' f cdv cl) e) (fun _ s'' => R (.error e) s'') (fun e' s'' => R (.error e') s'') s')
        { s with heap := h₁, toks := s.toks + binds.length })
    (hcell : ∀ x ∈ scope.names, x.2 ≠ .cell) (hco : scope.isCoroutine = false := by rfl) (hgen : scope.isGenerator = false := by rfl) (hk : scope.kind = .function := by rfl) : codeAny (model prog w) A (.call (.ref f) args) R s := by
  refine ks_codeAny_call_defAt (fd := fnX name qual params body scope cl dV kV doc pm an cdv ct) (body := body) (binds := binds) hroom (X _ _ ho) rfl hlim (codeRec_of X hcd) rfl hbind hcell hloc (fun h₁ hns hk₁ => ?_) hco hgen hk
  exact h s.heap.objs.size h₁ ⟨hns, hk₁, Nat.le_refl _⟩
end

theorem ents_keys {w : World} {K : Type} [DecidableEq K] {O : KOrd Pr w K} : ∀ {es : List DictEntry} {kvs : List (K × Int)}, Ents O.knd es kvs → Keys O (es.map (·.key)) (kvs.map (·.1)) := by
  intro es kvs h
  induction h with
  | nil => exact .nil
  | cons r _ ih => exact .cons r.1 ih

section
variable {w : World} {A : Around} {s : Shared} {K : Type} [DecidableEq K] {O : KOrd Pr w K}

/-- the walk of maxKey, up to the call of max -/
theorem maxKey_walk {x : Addr} {ps : List (K × Int)} {Q : Value → Shared → Prop} {E : Value → Shared → Prop} (Y : Ok w A s.heap 900 9000)
    (t : Tab O s.heap x ps)
    (h : ∀ L' env h₁ tk v m, env.frame = some L' → env.scope.kind = .function → Fr s.heap L' h₁ m → KdlKeysView h₁ v x →
      wpAny (model Pr w) (A.deeper env) (call (.builtin "max") [.ref v]) Q (fun e s' => wpAny (model Pr w) (A.deeper env) (leaving env e) (fun _ s'' => E e s'') (fun e' s'' => E e' s'') s') { s with heap := h₁, toks := tk }) :
    wpAny (model Pr w) A (call (.ref 30) [.ref x]) Q E s := by
  have KX := Y.K
  obtain ⟨mg, mb, mean, T⟩ := Y.T
  have hroom : A.depth < recursionLimit := Nat.lt_of_le_of_lt Y.depth (by decide)
  refine wpAny_call ?_
  refine' enterAt (T.nolimit) KX ?k1 ?k3 hroom ?k5 ?k6 ?k7 ?k8 ?c2 ?c3 ?c4
  case k1 => k_is
  case k3 => k_is
  case k5 => exact BindsTo.of_eq (binds := [(Str.ofString "self", .ref x)]) rfl
  case k6 => exact locs rfl
  case k8 => decide
  case c2 => rfl
  case c3 => rfl
  case c4 => rfl
  intro L' h₁ F'
  have N' : News s.heap L' h₁ [] := News.nil
  refine ks_wpAt_execs_cons (ks_wpAt_Return_some ?_)
  refine Call_at1 ?_ ?_
  · walk1
    obtain ⟨dx, es, n, m, kvs, hx, hdx, hen, hperm⟩ := t.at_
    refine super_keys F' KX T (by k_is) rfl rfl rfl (by k_is) rfl (by first | rfl | decide +kernel) (by rfl) rfl rfl rfl rfl rfl (F'.keep _ _ hx) t.lo t.ne ?_
    intro v h2 tk2 st2 hv2
    refine PySem.callWith_builtin1 (wpAny_pure ?_)
    exact h L' _ h2 tk2 v _ rfl rfl (F'.kept st2) hv2
  · rfl

theorem maxKey_ok {x : Addr} {ps : List (K × Int)} {p : K × Int} {Q : Value → Shared → Prop} {E : Value → Shared → Prop} (Y : Ok w A s.heap 900 9000)
    (t : Tab O s.heap x (ps ++ [p])) (h : ∀ h' tk u, s.heap.StaysIn h' → O.knd.is p.1 u = true → Q u { s with heap := h', toks := tk }) :
    wpAny (model Pr w) A (call (.ref 30) [.ref x]) Q E s := by
  refine maxKey_walk Y t ?_
  intro L' env h₁ tk v m hf hk F' hv
  obtain ⟨dx, es, n, mm, kvs, hx, hdx, hen, hperm⟩ := t.at_
  refine max_view (O := O) (ks := kvs.map (·.1)) Y.hand hv ⟨dx, F'.keep _ _ hx⟩ (ents_keys hen) ?_ ?_
  · intro e
    have h1 := hperm.length_eq
    have h2 : kvs = [] := by simpa using e
    rw [h2] at h1; simp at h1
  · intro h' tk' u k st hkm hmax hku
    obtain ⟨q, hq, rfl⟩ := List.mem_map.mp hkm
    have hq' : q ∈ ps ++ [p] := hperm.mem_iff.mp hq
    have e : q.1 = p.1 := by
      have hpm : p ∈ kvs := hperm.mem_iff.mpr (List.mem_append_right _ (.head _))
      have h1 := hmax p.1 (List.mem_map_of_mem hpm)
      rcases List.mem_append.mp hq' with hq1 | hq1
      · have h2 := (List.pairwise_append.mp t.sorted).2.2 q hq1 p (.head _)
        rw [h2] at h1; cases h1
      · rw [List.mem_singleton.mp hq1]
    rw [e] at hku
    exact h h' tk' u (fun b o z => st b o (F'.keep b o z)) hku

/-- the exception of an empty table's maxKey, as the catching function sees it -/
structure MaxFell (s : Shared) (Lw L : Addr) (l : List Env) (e : Addr) (h' : Heap) : Prop where
  stays : (TI.gone s.heap [Lw, L]).StaysIn h'
  frames : h'.FunFrames (TI.gone s.heap [Lw, L]) l
  traced : h'.Traced (TI.gone s.heap [Lw, L]) e (.type "ValueError")
  fresh : s.heap.get? e = none
  slots : ∀ b o, b = Lw ∨ b = L → s.heap.get? b = some o → ∃ sl, h'.get? b = some { o with slots := sl }

theorem maxKey_empty {x Lw L : Addr} {oW oL : Obj} {l : List Env} {Q : Value → Shared → Prop} {E : Value → Shared → Prop} (Y : Ok w A s.heap 900 9000)
    (t : Tab O s.heap x []) (hA : A.frames = some l) (Fs : TI.Frs l [(Lw, oW), (L, oL)]) (hW : s.heap.get? Lw = some oW) (hL : s.heap.get? L = some oL)
    (h : ∀ h' tk e, MaxFell s Lw L l e h' → E (.ref e) { s with heap := h', toks := tk }) :
    wpAny (model Pr w) A (call (.ref 30) [.ref x]) Q E s := by
  refine maxKey_walk Y t ?_
  intro L' env h₁ tk v m hf hk F' hv
  obtain ⟨dx, es, n, mm, kvs, hx, hdx, hen, hperm⟩ := t.at_
  have hkv : kvs = [] := by have := hperm.length_eq; simpa using this
  subst hkv
  have hes : es = [] := All2.nil_right hen
  subst hes
  refine max_view_empty (n := n) Y.hand hv ⟨dx, F'.keep _ _ hx⟩ ?_
  intro h2 tk2 e X2
  obtain ⟨ob, tp, he, hcls, hd⟩ := X2.there
  have up : ∀ b o, s.heap.get? b = some o → h2.get? b = some o := fun b o z => X2.keeps b o (F'.keep b o z)
  have gup : (TI.gone s.heap [Lw, L]).StaysIn h2 := fun b o z => up b o (TI.gone_some z).2
  have hen0 : s.heap.get? e = none := TI.none_of F'.keep X2.new
  have hNs : h2.Ns L' m := F'.ns.keeps X2.keeps
  have hFF : h2.FunFrames (TI.gone s.heap [Lw, L]) (env :: l) := by
    refine Heap.FunFrames.cons (by rw [hk]; decide) hf hNs ?_ (Fs.fun fun p hp => ?_)
    · cases z : (TI.gone s.heap [Lw, L]).get? L' with
      | none => rfl
      | some o => exact absurd (Nat.lt_of_lt_of_le (Heap.lt_size (TI.gone_some z).2) F'.above) (Nat.lt_irrefl _)
    · rcases List.mem_cons.mp hp with rfl | hp
      · exact ⟨up _ _ hW, TI.gone_none (.head _)⟩
      · rw [List.mem_singleton.mp hp]
        exact ⟨up _ _ hL, TI.gone_none (.tail _ (.head _))⟩
  refine wpAny_leaving_first (Around.frames_deeper hA) hFF hf he gup (TI.none_of (fun b o z => (TI.gone_some z).2) hen0) hd rfl fun h' hLf => ?_
  obtain ⟨k1, ⟨_, _, k2⟩, k3, k4⟩ := hLf
  refine h h' _ e ⟨k1, k2, by rw [← hcls]; exact k3, hen0, fun b o hb z => ?_⟩
  refine k4 b o (up b o z) fun vs q => ?_
  have hdict : ∃ es ep, o.data = .dict es ep := by
    rcases hb with rfl | rfl
    · rw [hW] at z; cases z; exact Fs.dict _ (.head _)
    · rw [hL] at z; cases z; exact Fs.dict _ (.tail _ (.head _))
  obtain ⟨_, _, hdd⟩ := hdict
  rw [hdd] at q; cases q
end
end Mine

-- part C6
namespace Mine
theorem walk_off_C6 : True := by w_top off; trivial
theorem fill6 : (fun w : World => Mine.hd.heap_39 w.params) = (fun w => Mine.hd.heap_39 w.params) ∧ Challenge.rw_bt5022_01 = Challenge.rw_bt5022_01 := by k_fill; exact ⟨rfl, rfl⟩
theorem law_id_ok {w : World} {A : Around} {s : Shared} {n : Int} {t : Tok} {Q : Value → Shared → Prop} {E : Value → Shared → Prop} (O : Ok w A s.heap 900 9000)
   (h : ∀ b tb h' tk, s.heap.StaysIn h' → Q (.bytes b tb) { s with heap := h', toks := tk }) : wpAny (model Pr w) A (call (.ref 57) [.int n t]) Q E s := by
  have KX := O.K
  obtain ⟨mg, mb, mean, T⟩ := O.T
  obtain ⟨base, outer, A₀, B, hA⟩ := O.below
  have hroom : A.depth < recursionLimit := Nat.lt_of_le_of_lt O.depth (by decide)
  refine wpAny_call ?_
  refine' enter (T.nolimit) KX ?k1 ?k3 hroom ?k5 ?k6 ?k7 ?k8 ?c2 ?c3 ?c4
  case k1 => k_is
  case k3 => k_is
  case k5 => exact BindsTo.of_eq (binds := [(Str.ofString "number", .int n t)]) rfl
  case k6 => exact locs rfl
  case k8 => decide
  case c2 => rfl
  case c3 => rfl
  case c4 => rfl
  intro L' h₁ F'
  have N' : News s.heap L' h₁ [] := News.nil
  k_steps
  exact h _ _ _ _ F'.keep
end Mine

-- part C7
namespace Mine
theorem walk_off_C7 : True := by w_top off; trivial
theorem fillA : (fun w : World => Mine.hd.heap_39 w.params) = (fun w => Mine.hd.heap_39 w.params) ∧ Challenge.rw_bt5022_01 = Challenge.rw_bt5022_01 := by k_fill; exact ⟨rfl, rfl⟩

set_option hygiene false in
local macro_rules | `(tactic| walk_at "getMethod ref") => `(tactic| (first | refine meth_keys (O := O) (Y.K.keeps (Fr.keep (by assumption))) (t.at (Fr.keep (by assumption))) ?_ | refine meth_values (O := O) (Y.K.keeps (Fr.keep (by assumption))) (t.at (Fr.keep (by assumption))) ?_))
set_option hygiene false in
local macro_rules | `(tactic| walk_at "call ref") => `(tactic| (first
  | (refine between_in (O := O) (Y.mono (by decide) (by decide)) (by assumption) (by assumption) rfl rfl ha blo bhi ?_; intro r h2 tk2 xs cc F2 N2 ne2 st2 hko hxs)
  | (refine keys3 (O := O) (Y.mono (by decide) (by decide)) (by assumption) (by assumption) rfl rfl t blo bhi ?_; unfold NewList; intro r h2 tk2 xs cc F2 N2 ne2 st2 hr2 hko hxs)
  | (refine values3 (O := O) (Y.mono (by decide) (by decide)) (by assumption) (by assumption) rfl rfl t blo bhi ?_; unfold NewList; intro r h2 tk2 xs cc F2 N2 ne2 st2 hr2 hko hxs)))
set_option hygiene false in
local macro_rules | `(tactic| walk_at "exec Assign cons ListComp") => `(tactic| (k_dflt (first
  | ((with_reducible show wpAny _ _ (exec (Stmt.Assign _ (Expr.ListComp (Expr.Subscript _ (Expr.Constant (Const.int 0) _ _) _) _ _ _) _) _) _ _ _); refine' assign_firsts (O := O) (l := r) Y.hand ⟨xs, ⟨cc, ?ga⟩, hko.at (Fr.keep (by assumption)), hxs⟩ ?gb (by assumption) (by assumption) ?g1 ?g2 ?g3 ?g4 ?g5 ?g6 ?g7 ?g8 ?g9 ?g10 ?_; (case ga => refine' News.get ?na ?nb; (case na => assumption); (case nb => repeat (first | exact List.Mem.head _ | refine List.Mem.tail _ ?_))); (case gb => intro Q' hQ'; refine' nameX_L ?fa ?fb hQ'; (case fa => assumption); (case fb => rfl)); (case g1 => rfl); (case g2 => rfl); (case g3 => decide); (case g4 => rfl); (case g5 => decide); (case g6 => rfl); (case g7 => rfl); (case g8 => rfl); (case g9 => intro C; rfl); (case g10 => decide); intro Dk hk4 tk4 ks ck F4 N4 ne4 hks hkl)
  | ((with_reducible show wpAny _ _ (exec (Stmt.Assign _ (Expr.ListComp (Expr.Subscript _ (Expr.Constant (Const.int 1) _ _) _) _ _ _) _) _) _ _ _); refine' assign_seconds (O := O) (l := r) Y.hand ⟨xs, ⟨cc, ?ga⟩, hko.at (Fr.keep (by assumption)), hxs⟩ ?gb (by assumption) (by assumption) ?g1 ?g2 ?g3 ?g4 ?g5 ?g6 ?g7 ?g8 ?g9 ?g10 ?_; (case ga => refine' News.get ?na ?nb; (case na => assumption); (case nb => repeat (first | exact List.Mem.head _ | refine List.Mem.tail _ ?_))); (case gb => intro Q' hQ'; refine' nameX_L ?fa ?fb hQ'; (case fa => assumption); (case fb => rfl)); (case g1 => rfl); (case g2 => rfl); (case g3 => decide); (case g4 => rfl); (case g5 => decide); (case g6 => rfl); (case g7 => rfl); (case g8 => rfl); (case g9 => intro C; rfl); (case g10 => decide); intro Dv hk5 tk5 vs5 cv F5 N5 ne5 hvs hvl))))
set_option hygiene false in
local macro_rules | `(tactic| walk_at "compareOp NotEq ref ref") => `(tactic| (k_dflt (first
  | (refine' ne_keysN (O := O) (xs := xs) (ys := ks) ?n1 ?l1 ?l2 hko hks ?u ?_; (case n1 => assumption); (case l1 => repeat (first | exact List.Mem.head _ | refine List.Mem.tail _ ?_)); (case l2 => repeat (first | exact List.Mem.head _ | refine List.Mem.tail _ ?_)); (case u => exact Nat.lt_of_le_of_lt (Nat.add_le_add_right Y.units 3) (by decide)))
  | (refine' ne_keysN (O := intOrd Pr w) (xs := xs) (ys := vs5) ?n1 ?l1 ?l2 hko hvs ?u ?_; (case n1 => assumption); (case l1 => repeat (first | exact List.Mem.head _ | refine List.Mem.tail _ ?_)); (case l2 => repeat (first | exact List.Mem.head _ | refine List.Mem.tail _ ?_)); (case u => exact Nat.lt_of_le_of_lt (Nat.add_le_add_right Y.units 3) (by decide))))))
set_option hygiene false in
local macro_rules | `(tactic| walk_at "compareOp Eq ref ref") => `(tactic| (k_dflt (first
  | (refine' eq_keysN (O := O) (xs := xs) (ys := ks) ?n1 ?l1 ?l2 hko hks ?u ?_; (case n1 => assumption); (case l1 => repeat (first | exact List.Mem.head _ | refine List.Mem.tail _ ?_)); (case l2 => repeat (first | exact List.Mem.head _ | refine List.Mem.tail _ ?_)); (case u => exact Nat.lt_of_le_of_lt (Nat.add_le_add_right Y.units 3) (by decide)))
  | (refine' eq_keysN (O := intOrd Pr w) (xs := xs) (ys := vs5) ?n1 ?l1 ?l2 hko hvs ?u ?_; (case n1 => assumption); (case l1 => repeat (first | exact List.Mem.head _ | refine List.Mem.tail _ ?_)); (case l2 => repeat (first | exact List.Mem.head _ | refine List.Mem.tail _ ?_)); (case u => exact Nat.lt_of_le_of_lt (Nat.add_le_add_right Y.units 3) (by decide))))))
set_option hygiene false in
local macro_rules | `(tactic| walk_at "call builtin:list.append") => `(tactic| (refine' append_head ?n1 ?n2 ne2 hxs ?_; (case n1 => assumption); (case n2 => assumption); intro hap oap Fap Nap))
section
variable {w : World} {A : Around} {s : Shared} {K : Type} [DecidableEq K] {O : KOrd Pr w K}
theorem asks_ok {x a : Addr} {ps : List (K × Int)} {lo hi : Value} {b c : Option K} {Q : Value → Shared → Prop} {E : Value → Shared → Prop} (Y0 : Ok w A s.heap 890 8900)
    (t : Tab O s.heap x ps) (ha : PrsAt O s.heap a ps) (blo : Bnd O lo b) (bhi : Bnd O hi c)
    (h : ∀ h' tk, s.heap.StaysIn h' → Q (.bool true) { s with heap := h', toks := tk }) :
    wpAny (model Pr w) A (call (.ref 74) [.ref x, .ref a, lo, hi]) Q E s := by
  have Y : Ok w A s.heap 898 8980 := Y0.mono (by decide) (by decide)
  have KX := Y.K
  obtain ⟨mg, mb, mean, T⟩ := Y.T
  obtain ⟨base, outer, A₀, B, hA⟩ := Y.below
  have hroom : A.depth < recursionLimit := Nat.lt_of_le_of_lt Y.depth (by decide)
  refine wpAny_call ?_
  refine' enter (T.nolimit) KX ?k1 ?k3 hroom ?k5 ?k6 ?k7 ?k8 ?c2 ?c3 ?c4
  case k1 => k_is
  case k3 => k_is
  case k5 => exact BindsTo.of_eq (binds := [(Str.ofString "table", .ref x), (Str.ofString "pairs", .ref a), (Str.ofString "low", lo), (Str.ofString "high", hi)]) rfl
  case k6 => exact locs rfl
  case k8 => decide
  case c2 => rfl
  case c3 => rfl
  case c4 => rfl
  intro L' h₁ F'
  have N' : News s.heap L' h₁ [] := News.nil
  k_steps
  exact h _ _ (Fr.keep (by assumption))
variable {A₀ : Around} {h₀ : Heap} {L : Addr} {m : Str → Option Value} {news : List (Addr × Obj)} {env : Env}
theorem asks_in {x a : Addr} {ps : List (K × Int)} {lo hi : Value} {b c : Option K} {Q : Value → Shared → Prop} {E : Value → Shared → Prop} (Y : Ok w A₀ h₀ 889 8890) (F : Fr h₀ L s.heap m) (N : News h₀ L s.heap news) (hf : env.frame = some L) (hk : env.scope.kind = .function)
    (t : Tab O h₀ x ps) (ha : PrsAt O h₀ a ps) (blo : Bnd O lo b) (bhi : Bnd O hi c)
    (h : ∀ h' tk, Fr h₀ L h' m → News h₀ L h' news → s.heap.StaysIn h' → Q (.bool true) { s with heap := h', toks := tk }) :
    wpAny (model Pr w) (A₀.deeper env) (call (.ref 74) [.ref x, .ref a, lo, hi]) Q E s := by
  have Y' := Y.push (env := env) F hf hk
  exact asks_ok (O := O) (Y'.mono (Nat.le_refl _) (by decide)) (t.at F.keep) (ha.at F.keep) blo bhi fun h' tk st => h h' tk (F.kept st) (fun p hp => ⟨st _ _ (N p hp).1, (N p hp).2⟩) st
end
end Mine

-- part C8
namespace Mine
theorem walk_off_C8 : True := by w_top off; trivial
theorem fillN : (fun w : World => Mine.hd.heap_39 w.params) = (fun w => Mine.hd.heap_39 w.params) ∧ Challenge.rw_bt5022_01 = Challenge.rw_bt5022_01 := by k_fill; exact ⟨rfl, rfl⟩

set_option hygiene false in
local macro_rules | `(tactic| walk_at "getMethod ref") => `(tactic| (first | refine meth_keys (O := O) (Y.K.keeps (Fr.keep (by assumption))) (t.at (Fr.keep (by assumption))) ?_ | refine meth_values (O := O) (Y.K.keeps (Fr.keep (by assumption))) (t.at (Fr.keep (by assumption))) ?_))
set_option hygiene false in
local macro_rules | `(tactic| walk_at "call ref") => `(tactic| (first
  | (refine between_in (O := O) (Y.mono (by decide) (by decide)) (by assumption) (by assumption) rfl rfl ha (by first | assumption | exact .inl ⟨rfl, rfl⟩) (by first | assumption | exact .inl ⟨rfl, rfl⟩) ?_; intro rb hb2 tkb xb cb Fb Nb neb stb hkb hxb)
  | (refine keys2 (O := O) (Y.mono (by decide) (by decide)) (by assumption) (by assumption) rfl rfl t (by first | assumption | exact .inl ⟨rfl, rfl⟩) ?_; unfold NewList; intro r h2 tk2 xs cc F2 N2 ne2 st2 hr2 hko hxs)
  | (refine values3 (O := O) (Y.mono (by decide) (by decide)) (by assumption) (by assumption) rfl rfl t (by first | assumption | exact .inl ⟨rfl, rfl⟩) (by first | assumption | exact .inl ⟨rfl, rfl⟩) ?_; unfold NewList; intro r h2 tk2 xs cc F2 N2 ne2 st2 hr2 hko hxs)
  | (refine asks_in (O := O) Y (by assumption) (by assumption) rfl rfl t ha (by first | assumption | exact .inl ⟨rfl, rfl⟩) (by first | assumption | exact .inl ⟨rfl, rfl⟩) ?_; intro h3 tk3 F3 N3 st3)))
local macro_rules | `(tactic| walk_at "eval ListComp") => `(tactic| refine comp_eval rfl ?_)
set_option hygiene false in
local macro_rules | `(tactic| walk_at "comprehension") => `(tactic| (k_dflt (first
  | ((with_reducible show wpAny _ _ (comprehension (Expr.ListComp (Expr.Subscript _ (Expr.Constant (Const.int 0) _ _) _) _ _ _) _ _ _ _ _ _ _) _ _ _); refine' pure_firsts (O := O) (l := rb) (vs := xb) Y.hand ?l1 (hkb.at (Fr.keep (by assumption))) hxb (by assumption) (by assumption) ?g2 ?g3 ?g4 ?g5 ?g6 ?g9 ?g10 ?_ ?g11; (case l1 => refine' News.isList ?na ?nb; (case na => assumption); (case nb => repeat (first | exact List.Mem.head _ | refine List.Mem.tail _ ?_))); (case g2 => rfl); (case g3 => decide); (case g4 => rfl); (case g5 => decide); (case g6 => rfl); (case g9 => intro C; rfl); (case g10 => decide); (case g11 => intro x; rfl); unfold FreshL; intro Dk hk4 tk4 ks ck F4 N4 ne4 st4 hks hkl)
  | ((with_reducible show wpAny _ _ (comprehension (Expr.ListComp (Expr.Subscript _ (Expr.Constant (Const.int 1) _ _) _) _ _ _) _ _ _ _ _ _ _) _ _ _); refine' pure_seconds (O := O) (l := rb) (vs := xb) Y.hand ?l1 (hkb.at (Fr.keep (by assumption))) hxb (by assumption) (by assumption) ?g2 ?g3 ?g4 ?g5 ?g6 ?g9 ?g10 ?_ ?g11; (case l1 => refine' News.isList ?na ?nb; (case na => assumption); (case nb => repeat (first | exact List.Mem.head _ | refine List.Mem.tail _ ?_))); (case g2 => rfl); (case g3 => decide); (case g4 => rfl); (case g5 => decide); (case g6 => rfl); (case g9 => intro C; rfl); (case g10 => decide); (case g11 => intro x; rfl); unfold FreshL; intro Dk hk4 tk4 ks ck F4 N4 ne4 st4 hks hkl))))
set_option hygiene false in
local macro_rules | `(tactic| walk_at "compareOp NotEq ref ref") => `(tactic| (k_dflt (first
  | (refine' ne_keysN (O := O) (xs := xs) (ys := ks) ?n1 ?l1 ?l2 hko hks ?u ?_; (case n1 => assumption); (case l1 => repeat (first | exact List.Mem.head _ | refine List.Mem.tail _ ?_)); (case l2 => repeat (first | exact List.Mem.head _ | refine List.Mem.tail _ ?_)); (case u => exact Nat.lt_of_le_of_lt (Nat.add_le_add_right Y.units 3) (by decide)))
  | (refine' ne_keysN (O := intOrd Pr w) (xs := xs) (ys := ks) ?n1 ?l1 ?l2 hko hks ?u ?_; (case n1 => assumption); (case l1 => repeat (first | exact List.Mem.head _ | refine List.Mem.tail _ ?_)); (case l2 => repeat (first | exact List.Mem.head _ | refine List.Mem.tail _ ?_)); (case u => exact Nat.lt_of_le_of_lt (Nat.add_le_add_right Y.units 3) (by decide))))))
section
variable {w : World} {A : Around} {s : Shared} {K : Type} [DecidableEq K] {O : KOrd Pr w K}
theorem around_ok {x a : Addr} {ps : List (K × Int)} {vk va vb : Value} {k k1 k2 : K} {Q : Value → Shared → Prop} {E : Value → Shared → Prop} (Y0 : Ok w A s.heap 880 8800)
    (t : Tab O s.heap x ps) (ha : PrsAt O s.heap a ps) (hk : O.knd.is k vk = true) (hk1 : O.knd.is k1 va = true) (hk2 : O.knd.is k2 vb = true)
    (h : ∀ h' tk, s.heap.StaysIn h' → Q (.bool true) { s with heap := h', toks := tk }) :
    wpAny (model Pr w) A (call (.ref 84) [.ref x, .ref a, vk, va, vb]) Q E s := by
  have Y : Ok w A s.heap 889 8890 := Y0.mono (by decide) (by decide)
  have bk : Bnd O vk (some k) := .inr ⟨k, rfl, hk⟩
  have ba : Bnd O va (some k1) := .inr ⟨k1, rfl, hk1⟩
  have bb : Bnd O vb (some k2) := .inr ⟨k2, rfl, hk2⟩
  have KX := Y.K
  obtain ⟨mg, mb, mean, T⟩ := Y.T
  obtain ⟨base, outer, A₀, B, hA⟩ := Y.below
  have hroom : A.depth < recursionLimit := Nat.lt_of_le_of_lt Y.depth (by decide)
  refine wpAny_call ?_
  refine' enter (T.nolimit) KX ?k1 ?k3 hroom ?k5 ?k6 ?k7 ?k8 ?c2 ?c3 ?c4
  case k1 => k_is
  case k3 => k_is
  case k5 => exact BindsTo.of_eq (binds := [(Str.ofString "table", .ref x), (Str.ofString "pairs", .ref a), (Str.ofString "key", vk), (Str.ofString "above", va), (Str.ofString "below", vb)]) rfl
  case k6 => exact locs rfl
  case k8 => decide
  case c2 => rfl
  case c3 => rfl
  case c4 => rfl
  intro L' h₁ F'
  have N' : News s.heap L' h₁ [] := News.nil
  k_steps
  exact h _ _ (Fr.keep (by assumption))
end
end Mine

-- part C9
namespace Mine
theorem walk_off_C9 : True := by w_top off; trivial
theorem fillP : (fun w : World => Mine.hd.heap_39 w.params) = (fun w => Mine.hd.heap_39 w.params) ∧ Challenge.rw_bt5022_01 = Challenge.rw_bt5022_01 := by k_fill; exact ⟨rfl, rfl⟩

section
variable {prog : Program} {w : World} {K : Type} [DecidableEq K] (O : KOrd prog w K)
def put (k : K) (v : Int) : List (K × Int) → List (K × Int)
  | [] => [(k, v)]
  | p :: r => if O.lt p.1 k = true then p :: put k v r else if p.1 = k then (k, v) :: r else (k, v) :: p :: r
variable {O}
theorem put_at (k : K) (v : Int) : ∀ (ps : List (K × Int)) (i : Nat), i ≤ ps.length → (∀ j, (h : j < ps.length) → j < i → O.lt ps[j].1 k = true) → (∀ h : i < ps.length, O.lt ps[i].1 k = false) →
    put O k v ps = ps.take i ++ (k, v) :: (if (ps[i]?).any (fun p => decide (p.1 = k)) = true then ps.drop (i + 1) else ps.drop i)
  | [], i, hi, _, _ => by
    have : i = 0 := by simpa using hi
    subst this; rfl
  | p :: r, 0, _, _, h2 => by
    have := h2 (by simp)
    simp only [List.getElem_cons_zero] at this
    unfold put
    rw [if_neg (by rw [this]; decide)]
    by_cases e : p.1 = k <;> simp [e]
  | p :: r, i + 1, hi, h1, h2 => by
    have h0 := h1 0 (by simp) (by omega)
    simp only [List.getElem_cons_zero] at h0
    unfold put
    rw [if_pos h0, put_at k v r i (by simpa using hi) (fun j h hj => h1 (j + 1) (by simpa using h) (by omega)) (fun h => h2 (by simpa using h))]
    simp
end

theorem All2.take {α β : Type} {R : α → β → Prop} : ∀ {l : List α} {m : List β}, All2 R l m → ∀ i, All2 R (l.take i) (m.take i)
  | _, _, .nil, i => by simp; exact .nil
  | _, _, .cons _ _, 0 => .nil
  | _, _, .cons r h, i + 1 => .cons r (h.take i)
theorem All2.drop {α β : Type} {R : α → β → Prop} : ∀ {l : List α} {m : List β}, All2 R l m → ∀ i, All2 R (l.drop i) (m.drop i)
  | _, _, .nil, i => by simp; exact .nil
  | _, _, .cons r h, 0 => .cons r h
  | _, _, .cons _ h, i + 1 => h.drop i

section
variable {prog : Program} {w : World} {K : Type} [DecidableEq K] {O : KOrd prog w K}
theorem put_pairs {h g : Heap} {vs : List Value} {ps : List (K × Int)} (hg : g.StaysIn h) (hpi : PairsIn O g vs ps) {k : K} {v : Int} {vk : Value} {tv : Tok} {i : Nat} (hi : i ≤ ps.length) (hbe : ∀ j, (h : j < ps.length) → j < i → O.lt ps[j].1 k = true) (hge : ∀ h : i < ps.length, O.lt ps[i].1 k = false)
    {j : Nat} {z : Int} (hz : z = (j : Int)) (hj : (if (ps[i]?).any (fun p => decide (p.1 = k)) = true then i + 1 else i) = j) {D : Addr} (hD : IsTup h D [vk, .int v tv].toArray) (hk : O.knd.is k vk = true) :
    PairsIn O h ((slicePick vs.toArray none (some (i : Int)) none ++ #[Value.ref D]) ++ slicePick vs.toArray (some z) none none).toList (put O k v ps) := by
  have hpi' := hpi.at hg
  subst hz
  rw [slicePick_upto', slicePick_from', put_at k v ps i hi hbe hge]
  have e : (((vs.toArray.toList.take i).toArray ++ #[Value.ref D]) ++ (vs.toArray.toList.drop j).toArray).toList = vs.take i ++ (Value.ref D :: vs.drop j) := by simp
  rw [e]
  refine All2.append (All2.take hpi' i) (.cons ⟨D, vk, tv, rfl, hD, hk⟩ ?_)
  subst hj
  split
  · exact All2.drop hpi' _
  · exact All2.drop hpi' _
end
section
variable {prog : Program} {w : World} {A : Around} {E : Value → Shared → Prop} {s : Shared} {h₀ : Heap} {L : Addr} {m : Str → Option Value} {news : List (Addr × Obj)}
theorem add_in {l b : Addr} {o1 o2 : Obj} {xs ys : Array Value} {n1 n2 : Nat} {Q : Value → Shared → Prop} (F : Fr h₀ L s.heap m) (N : News h₀ L s.heap news) (m1 : (l, o1) ∈ news) (m2 : (b, o2) ∈ news)
    (c1 : o1.cls = .type "list") (d1 : o1.data = .seq xs n1) (c2 : o2.cls = .type "list") (d2 : o2.data = .seq ys n2) (hsz : xs.size + ys.size < 300)
    (h : ∀ h', Fr h₀ L h' m → News h₀ L h' ((s.heap.objs.size, { cls := .type "list", data := .seq (xs ++ ys) }) :: news) → Q (.ref s.heap.objs.size) { s with heap := h' }) :
    wpAny (model prog w) A (binaryOp .Add (.ref l) (.ref b)) Q E s := by
  refine add_lists (vs := xs.toList) (ws := ys.toList) F N ⟨_, N.get m1, c1, n1, by simpa using d1⟩ ⟨_, N.get m2, c2, n2, by simpa using d2⟩ (fun h' F' N' => ?_) (by rw [sizeLine_eq]; simp; omega)
  have e : (xs.toList ++ ys.toList).toArray = xs ++ ys := by simp
  rw [e] at N'
  exact h h' F' N'
end
theorem fun_place {P : Str} {i : Nat} {t ti : Tok} {f : Str → Option Value} : (fun y => if y = P then some (Value.int ((i : Int) + 1) t) else if y = P then some (Value.int (i : Int) ti) else f y) = fun y => if y = P then some (Value.int ((i + 1 : Nat) : Int) t) else f y := by
  funext y
  by_cases hy : y = P <;> simp [hy]
section
variable {prog : Program} {w : World} {A : Around} {E : Value → Shared → Prop} {s : Shared} {Q : Value → Shared → Prop}
theorem lt_true {a b : Int} {t u : Tok} (h : a < b) (q : Q (.bool true) s) : wpAny (model prog w) A (compareOp .Lt (.int a t) (.int b u)) Q E s := PyProof.Rows.lt_int (by rw [decide_eq_true h]; exact q)
theorem lt_false {a b : Int} {t u : Tok} (h : ¬ a < b) (q : Q (.bool false) s) : wpAny (model prog w) A (compareOp .Lt (.int a t) (.int b u)) Q E s := PyProof.Rows.lt_int (by rw [decide_eq_false h]; exact q)
end

set_option hygiene false in
local macro_rules | `(tactic| walk_at "compareOp Lt int int") => `(tactic| (first | refine lt_true hlt ?_ | refine lt_false hge ?_))
set_option hygiene false in
local macro_rules | `(tactic| walk_at "call builtin:len") => `(tactic| (refine len_list (hLs.at fun o => Fr.keep (by assumption) a o) hsz ?_))

set_option hygiene false in
local macro_rules | `(tactic| walk_at "compareOp Lt") => `(tactic| (refine O.cLt hkv hk ?_))
set_option hygiene false in
local macro_rules | `(tactic| walk_at "compareOp Eq") => `(tactic| (refine O.cEq hkv hk ?_))
set_option hygiene false in
local macro_rules | `(tactic| walk_at "subscriptTail") => `(tactic| (k_dflt (first
  | (refine' item_listL (l := vs) (hLs.at fun o => Fr.keep (by assumption) a o) (Int.natCast_nonneg _) ?b1 hix ?_ ?b2 ?b3; (case b1 => omega); (case b2 => with_unfolding_all rfl); (case b3 => intro r; with_unfolding_all rfl))
  | (refine' item_tupleT (t := t0) (l := [kv, .int ps[i].2 tt]) (j := 0) (ht0.keeps (Fr.keep (by assumption))) ?b1 ?b2 ?b3 ?b4 ?_ ?b5; (case b1 => decide); (case b2 => decide); (case b3 => rfl); (case b4 => rfl); (case b5 => with_unfolding_all rfl)))))
set_option hygiene false in
local macro_rules | `(tactic| walk_at "binaryOp Add ref ref") => `(tactic| (k_dflt (refine' add_in ?n1 ?n2 ?m1 ?m2 ?c1 ?d1 ?c2 ?d2 ?sz ?_; (case n1 => assumption); (case n2 => assumption); (case m1 => repeat (first | exact List.Mem.head _ | refine List.Mem.tail _ ?_)); (case m2 => repeat (first | exact List.Mem.head _ | refine List.Mem.tail _ ?_)); (case c1 => rfl); (case d1 => rfl); (case c2 => rfl); (case d2 => rfl); (case sz => (have h1 := hs1 none (some (i : Int)); have h2 := hs1 (some (i : Int)) none; have h3 := hs1 (some ((i : Int) + 1)) none; simp at h1 h2 h3 ⊢; omega)); intro hz Fz Nz)))
section
variable {w : World} {A : Around} {s : Shared} {K : Type} [DecidableEq K] {O : KOrd Pr w K}
theorem law_put_ok {a : Addr} {ps : List (K × Int)} {vk : Value} {k : K} {v : Int} {tv : Tok} {Q : Value → Shared → Prop} {E : Value → Shared → Prop} (Y : Ok w A s.heap 900 9000)
    (ha : PrsAt O s.heap a ps) (hk : O.knd.is k vk = true)
    (h : ∀ r h' tk xs, s.heap.StaysIn h' → s.heap.get? r = none → h'.PlainList r xs.toArray → PairsIn O h' xs (put O k v ps) → Q (.ref r) { s with heap := h', toks := tk }) :
    wpAny (model Pr w) A (call (.ref 64) [.ref a, vk, .int v tv]) Q E s := by
  have KX := Y.K
  obtain ⟨mg, mb, mean, T⟩ := Y.T
  obtain ⟨base, outer, A₀, B, hA⟩ := Y.below
  have hroom : A.depth < recursionLimit := Nat.lt_of_le_of_lt Y.depth (by decide)
  obtain ⟨vs, hvs, hpi, hlen⟩ := ha
  have hLs : s.heap.IsList a vs.toArray := hvs.isList
  have hsz : ((vs.toArray.size : Nat) : Int) < 2 ^ 63 := by simp; omega
  have hlp : vs.length = ps.length := All2.length hpi
  refine wpAny_call ?_
  refine' enter (T.nolimit) KX ?k1 ?k3 hroom ?k5 ?k6 ?k7 ?k8 ?c2 ?c3 ?c4
  case k1 => k_is
  case k3 => k_is
  case k5 => exact BindsTo.of_eq (binds := [(Str.ofString "pairs", .ref a), (Str.ofString "key", vk), (Str.ofString "value", .int v tv)]) rfl
  case k6 => exact locs rfl
  case k8 => decide
  case c2 => rfl
  case c3 => rfl
  case c4 => rfl
  intro L' h₁ F'
  have N' : News s.heap L' h₁ [] := News.nil
  iterate 5 walk1
  have hs1 : ∀ lo hi, (slicePick vs.toArray lo hi none).size < 64 := fun lo hi => Nat.lt_of_le_of_lt (slicePick_size_le _ _ _ _) (by simpa using hlen)
  refine While_inv2 (h₀ := s.heap) (L := L') (n₀ := ps.length) (fun n m₁ news₁ => news₁ = [] ∧ ∃ (i : Nat) (t : Tok), n = ps.length - i ∧ i ≤ ps.length ∧ (∀ j (h : j < ps.length), j < i → O.lt ps[j].1 k = true) ∧
    m₁ = fun y => if y = Str.ofString "place" then some (.int i t) else ([(Str.ofString "pairs", Value.ref a), (Str.ofString "key", vk), (Str.ofString "value", .int v tv)].reverse).lookup y) (by assumption) (by assumption) ⟨rfl, 0, _, rfl, Nat.zero_le _, fun _ _ h => absurd h (Nat.not_lt_zero _), rfl⟩ ?_
  rintro n m₁ news₁ h₂ tk₂ F₂ N₂ ⟨rfl, i, ti, rfl, hi, hbe, rfl⟩
  by_cases hil : i < ps.length
  · have hlt : (i : Int) < ((vs.toArray.size : Nat) : Int) := by simp; omega
    obtain ⟨v0, hv0, t0, kv, tt, rfl, ht0, hkv⟩ := All2.get? hpi i ps[i] (by simp [hil])
    have hix : vs[(i : Int).toNat]? = some (.ref t0) := by simpa using hv0
    k_steps
    · unfold WhileStep2
      dsimp only
      refine' ⟨_, _, _, _, ps.length - (i + 1), rfl, by assumption, by assumption, by omega, rfl, i + 1, _, rfl, by omega, fun j h hj => ?_, fun_place⟩
      by_cases e : j = i
      · subst e; assumption
      · exact hbe j h (by omega)
    · have hnlt : O.lt ps[i].1 k = false := by assumption
      have heq : ps[i].1 = k := by assumption
      have e0 : ((ps[i]?).any fun p => decide (p.1 = k)) = true := by rw [List.getElem?_eq_getElem hil]; simpa using heq
      refine h _ _ _ _ Fz.keep (News.fresh Nz (.head _)) ?_ (put_pairs (i := i) (j := i + 1) Fz.keep hpi hi hbe (fun _ => hnlt) (by push_cast; rfl) (by rw [if_pos e0]) ⟨_, (Nz _ (.tail _ (.tail _ (.tail _ (.tail _ (.head _)))))).1, rfl, _, rfl⟩ hk)
      exact ⟨0, by rw [Array.toArray_toList]; exact (Nz _ (.head _)).1⟩
    · have hnlt : O.lt ps[i].1 k = false := by assumption
      have heq : ¬ ps[i].1 = k := by assumption
      have e0 : ((ps[i]?).any fun p => decide (p.1 = k)) = false := by rw [List.getElem?_eq_getElem hil]; simpa using heq
      refine h _ _ _ _ Fz.keep (News.fresh Nz (.head _)) ?_ (put_pairs (i := i) (j := i) Fz.keep hpi hi hbe (fun _ => hnlt) rfl (by rw [if_neg (by rw [e0]; decide)]) ⟨_, (Nz _ (.tail _ (.tail _ (.tail _ (.tail _ (.head _)))))).1, rfl, _, rfl⟩ hk)
      exact ⟨0, by rw [Array.toArray_toList]; exact (Nz _ (.head _)).1⟩
  · have hge : ¬ (i : Int) < ((vs.toArray.size : Nat) : Int) := by simp; omega
    k_steps
    have e0 : ((ps[i]?).any fun p => decide (p.1 = k)) = false := by rw [List.getElem?_eq_none (by omega)]; rfl
    refine h _ _ _ _ Fz.keep (News.fresh Nz (.head _)) ?_ (put_pairs (i := i) (j := i) Fz.keep hpi hi hbe (fun h => absurd h hil) rfl (by rw [if_neg (by rw [e0]; decide)]) ⟨_, (Nz _ (.tail _ (.tail _ (.tail _ (.tail _ (.head _)))))).1, rfl, _, rfl⟩ hk)
    exact ⟨0, by rw [Array.toArray_toList]; exact (Nz _ (.head _)).1⟩
end
end Mine

-- part C10
namespace Mine
theorem walk_off_C10 : True := by w_top off; trivial
theorem fillG : (fun w : World => Mine.hd.heap_39 w.params) = (fun w => Mine.hd.heap_39 w.params) ∧ Challenge.rw_bt5022_01 = Challenge.rw_bt5022_01 := by k_fill; exact ⟨rfl, rfl⟩

theorem gone_size (h : Heap) : ∀ l : List Addr, (TI.gone h l).objs.size = h.objs.size
  | [] => rfl
  | a :: l => by
    show ((TI.gone h l).update a _).objs.size = _
    simp [Heap.update, gone_size h l]

/-- a call from law itself: law's frame is the one frame below -/
structure LawAt (w : World) (A : Around) (h : Heap) (n u : Nat) (L : Addr) : Prop where
  ok : Ok w A h n u
  fr : ∃ envL, A.frames = some [envL] ∧ envL.frame = some L ∧ envL.scope.kind ≠ .module
  obj : ∃ oL, h.get? L = some oL ∧ ∃ es ep, oL.data = .dict es ep
  KG : (Mine.hd.heap_39 w.params).In (TI.gone h [L])
  TG : ∃ mg mb mean, Top Mine.hd.view_39 (looseW Mine.hd.view_39 [Str.ofString "OOBTree", Str.ofString "OOBucket"]) mean mg mb (TI.gone h [L])

/-- all stays but L's object, which turns in its slots alone -/
def ButSlots (L : Addr) (h h' : Heap) : Prop := (∀ b o, b ≠ L → h.get? b = some o → h'.get? b = some o) ∧ ∀ o, h.get? L = some o → ∃ sl, h'.get? L = some { o with slots := sl }

theorem ButSlots.of {h h' : Heap} {L L' : Addr} {m : Str → Option Value} {oL : Obj} {frs : List (Addr × Obj)} (hL : h.get? L = some oL) (F : Fr (TI.gone h [L]) L' h' m) (SU : TI.SameUp [(L, oL)] frs) (N : News (TI.gone h [L]) L' h' frs) : ButSlots L h h' := by
  refine ⟨fun b o hb e => F.keep b o ((TI.gone_get (by simpa using hb)).trans e), fun o e => ?_⟩
  rw [hL] at e; cases e
  obtain ⟨sl, hm⟩ := SU.back _ (.head _)
  exact ⟨sl, (N _ hm).1⟩

theorem enterG {h h₁ : Heap} {L L' : Addr} {m : Str → Option Value} {oL : Obj} (F : Fr h L' h₁ m) (hL : h.get? L = some oL) : Fr (TI.gone h [L]) L' h₁ m ∧ News (TI.gone h [L]) L' h₁ [(L, oL)] := by
  refine ⟨⟨F.ns, fun b o e => F.keep b o (TI.gone_some e).2, by rw [gone_size]; exact F.above⟩, fun p hp => ?_⟩
  rw [List.mem_singleton.mp hp]
  exact ⟨F.keep _ _ hL, Nat.ne_of_lt (Nat.lt_of_lt_of_le (Heap.lt_size hL) F.above), TI.gone_none (.head _)⟩

set_option hygiene false in
local macro_rules | `(tactic| walk_at "compareOp In") => `(tactic| (refine in_sub (KG.keeps (Fr.keep (by assumption))) (Fr.keep (by assumption) _ _ hx) t.lo hen hkey hn ?_))
set_option hygiene false in
local macro_rules | `(tactic| walk_at "exec Try") => `(tactic| (refine wpAny_Try_except ?_))
section
variable {w : World} {A : Around} {s : Shared} {K : Type} [DecidableEq K] {O : KOrd Pr w K}
theorem law_gone_ok {x L : Addr} {ps : List (K × Int)} {vk : Value} {k : K} {Q : Value → Shared → Prop} {E : Value → Shared → Prop} (Y0 : LawAt w A s.heap 900 9000 L)
    (t : Tab O (TI.gone s.heap [L]) x ps) (hkey : O.knd.is k vk = true) (hnk : ∀ p ∈ ps, p.1 ≠ k)
    (h : ∀ h' tk, ButSlots L s.heap h' → Q (.bool true) { s with heap := h', toks := tk }) :
    wpAny (model Pr w) A (call (.ref 91) [.ref x, vk]) Q E s := by
  have Y := Y0.ok
  have KX := Y.K
  obtain ⟨mg0, mb0, mean0, T0⟩ := Y.T
  have KG := Y0.KG
  obtain ⟨mg, mb, mean, T⟩ := Y0.TG
  obtain ⟨envL, hA, hfL, hkL⟩ := Y0.fr
  obtain ⟨oL, hL, hdL⟩ := Y0.obj
  obtain ⟨dx, es, nn, mm, kvs, hx, hdx, hen, hperm⟩ := t.at_
  have hn : ∀ q ∈ kvs, q.1 ≠ k := fun q hq => hnk q (hperm.mem_iff.mp hq)
  have hroom : A.depth < recursionLimit := Nat.lt_of_le_of_lt Y.depth (by decide)
  refine wpAny_call ?_
  refine' enter (T0.nolimit) KX ?k1 ?k3 hroom ?k5 ?k6 ?k7 ?k8 ?c2 ?c3 ?c4
  case k1 => k_is
  case k3 => k_is
  case k5 => exact BindsTo.of_eq (binds := [(Str.ofString "table", .ref x), (Str.ofString "key", vk)]) rfl
  case k6 => exact locs rfl
  case k8 => decide
  case c2 => rfl
  case c3 => rfl
  case c4 => rfl
  intro L' h₁ F0
  obtain ⟨F', N'⟩ := enterG F0 hL
  clear F0
  iterate 18 walk1
  refine item_sub (KG.keeps (Fr.keep (by assumption))) (Fr.keep (by assumption) _ _ hx) (getItem_miss (KG.keeps (Fr.keep (by assumption))) (Fr.keep (by assumption) _ _ hx) t.lo Y.hand hen hn hkey ?_) (by with_unfolding_all rfl) (by intro r; with_unfolding_all rfl)
  intro h2 e X2
  refine TI.noted_newT0 hA (frs := [(L, oL)]) ⟨hkL, hfL, hdL, trivial⟩ X2 (by assumption) (by assumption) rfl ?_
  intro h3 frs3 SU3 Fs3 H3
  refine TT.HeldNA.land H3 ?_
  intro h4 H4
  refine TT.clause_hitTN H4 T (k := ?_) (hv := by boot_by_name)
  intro h5 F5 N5
  k_steps
  exact h _ _ (ButSlots.of hL F5 SU3 N5)
end
end Mine

-- part F10
namespace Mine
theorem walk_off_F10 : True := by w_top off; trivial

section
variable {prog : Program} {w : World} {A : Around} {E : Value → Shared → Prop} {s : Shared} {env : Env} {h₀ : Heap} {m : Str → Option Value} {news : List (Addr × Obj)} {K : Type} [DecidableEq K] {O : KOrd prog w K}

/-- «for key, value in pairs» over a list of pairs that stood before the frame -/
theorem for_pairs {xk xv : Str} {pk pv pt pos : Pos} {x1 : Nat} {iter : Expr} {body : List Stmt} {a : Addr} {vs : List Value} {ps : List (K × Int)} {Q : Flow → Shared → Prop}
    (hh : A.handled = none) (hne : xk ≠ xv) (hxk : env.kindOf xk = some .local) (hxv : env.kindOf xv = some .local) (hek : env.scope.kind = .function)
    (F : Fr h₀ env.locals s.heap m) (N : News h₀ env.locals s.heap news) (hl : h₀.IsList a vs.toArray) (hpi : PairsIn O h₀ vs ps) (hlen : vs.length < 64)
    (hi : ∀ {Q : Value → Shared → Prop}, Q (.ref a) s → wpAny (model prog w) A (eval iter env) Q E s)
    (turn : ∀ p ∈ ps, ∀ (kv : Value) (tt : Tok) (h₁ : Heap) (tk : Nat) (own : List (Addr × Obj)), O.knd.is p.1 kv = true → Fr h₀ env.locals h₁ (fun y => if y = xv then some (.int p.2 tt) else if y = xk then some kv else m y) → News h₀ env.locals h₁ (own ++ news) →
      wpAny (model prog w) A (execs body env) (fun f s₂ => f = .next ∧ ∃ h' tk', s₂ = { s with heap := h', toks := tk' } ∧ h₁.StaysIn h') E { s with heap := h₁, toks := tk })
    (done : ∀ (m₁ : Str → Option Value) (h' : Heap) (tk : Nat), Fr h₀ env.locals h' (fun y => if y = xv then m₁ y else if y = xk then m₁ y else m y) → News h₀ env.locals h' news → Q .next { s with heap := h', toks := tk })
    (hs : ∀ x, foldedSetIterable iter env x = pure x := by intro _; rfl)
    (hE : PassesOwn (model prog w) A env E := by passes_own) :
    wpAny (model prog w) A (exec (.For (.Tuple [.Name xk pk, .Name xv pv] x1 pt) iter body [] pos) env) Q E s := by
  have hls : s.heap.IsList a vs.toArray := hl.at fun o e => F.keep a o e
  obtain ⟨ol, hol, _⟩ := id hl
  have hlt : a < h₀.objs.size := Heap.lt_size hol
  have hneI : a ≠ s.heap.objs.size := Nat.ne_of_lt (Nat.lt_trans (Nat.lt_of_lt_of_le hlt F.above) F.ns.lt)
  have hLlt : env.locals < s.heap.objs.size := F.ns.lt
  refine For_unr h₀ (hi (wpAny_pyIter_list hls ?_)) hs hE
  have W := Walks.list (prog := prog) (w := w) hh s.heap.objs.size a hneI vs.toArray
  have hlp : vs.length = ps.length := All2.length hpi
  refine ⟨_, _, _, vs.toArray.size, _, _, m, news, rfl, W, ?_, ?_, ?_, ⟨⟨_, Heap.get?_push_size _ rfl, rfl, rfl⟩, hls.at fun o e => Heap.get?_push_of_some _ e⟩, F.push _, (fun p hp => ⟨Heap.get?_push_of_some _ (N p hp).1, (N p hp).2⟩), ?_, ?_⟩
  · intro hm
    rcases List.mem_cons.mp hm with e | hm
    · exact absurd hLlt (e ▸ Nat.lt_irrefl _)
    · exact absurd (Nat.lt_of_lt_of_le hlt F.above) ((List.mem_singleton.mp hm) ▸ Nat.lt_irrefl _)
  · intro b hb
    rw [List.mem_singleton.mp hb]
    exact next_is_new F
  · intro p hp hI
    exact absurd (Heap.lt_size (N p hp).1) ((List.mem_singleton.mp hI) ▸ Nat.lt_irrefl _)
  · intro i s' v Q' st q
    cases v with
    | ref T => exact wpAny_letOwnedTupleGo_listiter st.1 q
    | _ => exact wpAny_pure q
  · have key : ∀ (k i : Nat) (m₁ : Str → Option Value), i + k = vs.toArray.size → (∀ z, z ≠ xk → z ≠ xv → m₁ z = m z) →
        Unr prog w A E h₀ env (.Tuple [.Name xk pk, .Name xv pv] x1 pt) body Q (fun i v => vs.toArray[i]? = some v) [s.heap.objs.size, a] { s with heap := s.heap.push { cls := .type "list_iterator", data := .fields #[.ref a, .int 0 0] } } k i m₁ news := by
      intro k
      induction k with
      | zero =>
        intro i m₁ _ hm
        refine Unr.zero fun h' tk F' N' => done m₁ h' tk ?_ N'
        have e : (fun y => if y = xv then m₁ y else if y = xk then m₁ y else m y) = m₁ := by
          funext y
          by_cases h1 : y = xv
          · rw [if_pos h1]
          · by_cases h2 : y = xk
            · rw [if_neg h1, if_pos h2]
            · rw [if_neg h1, if_neg h2, hm y h2 h1]
        rw [e]; exact F'
      | succ k ih =>
        intro i m₁ hik hm
        refine Unr.succ fun v h₁ tk₁ own hv hown F₁ N₁ => ?_
        have hip : i < ps.length := by simp at hik; omega
        obtain ⟨v0, hv0, t0, kv, tt, rfl, ht0, hkv⟩ := hpi.get? i ps[i] (by simp [hip])
        have hvv : v = .ref t0 := by
          have : vs[i]? = some v := by simpa using hv
          rw [hv0] at this; exact (Option.some.inj this).symm
        subst hvv
        have ht1 : IsTup h₁ t0 #[kv, .int ps[i].2 tt] := ht0.keeps F₁.keep
        refine assign_Tuple_tuple (s := { s with heap := h₁, toks := tk₁ }) hh ht1 rfl rfl fun h₂ hx₂ => ?_
        have up2 : h₁.StaysIn h₂ := fun b o e => hx₂ b o (Nat.ne_of_lt (Heap.lt_size e)) e
        show wpAny _ _ (assignInOrder [assign (.Name xk pk) env, assign (.Name xv pv) env] [kv, .int ps[i].2 tt]) _ _ _
        refine assignInOrder_cons (wpAny_assign_Name (wpAny_storeName_local (m := m₁) hxk ?_ (fun h₃ hns₃ hs₃ => ?_) (by rw [hek]; rfl)))
        · exact (F₁.kept up2).ns
        have F₃ : Fr h₀ env.locals h₃ (fun y => if y = xk then some kv else m₁ y) := (F₁.kept up2).set hns₃ hs₃
        refine assignInOrder_cons (wpAny_assign_Name (wpAny_storeName_local (m := fun y => if y = xk then some kv else m₁ y) hxv F₃.ns (fun h₄ hns₄ hs₄ => ?_) (by rw [hek]; rfl)))
        have F₄ := F₃.set hns₄ hs₄
        refine assignInOrder_nil ?_
        have N₄ : News h₀ env.locals h₄ (own ++ news) := (News.set (News.set (fun p hp => ⟨up2 _ _ (N₁ p hp).1, (N₁ p hp).2⟩) hs₃) hs₄)
        have e4 : (fun y => if y = xv then some (Value.int ps[i].2 tt) else if y = xk then some kv else m₁ y) = fun y => if y = xv then some (Value.int ps[i].2 tt) else if y = xk then some kv else m y := by
          funext y
          by_cases h1 : y = xv
          · rw [if_pos h1, if_pos h1]
          · by_cases h2 : y = xk
            · rw [if_neg h1, if_pos h2, if_neg h1, if_pos h2]
            · rw [if_neg h1, if_neg h2, if_neg h1, if_neg h2, hm y h2 h1]
        refine wpAny_mono (turn ps[i] (List.getElem_mem hip) kv tt h₄ _ own hkv (by rw [← e4]; exact F₄) N₄) (fun f s₂ hf => ?_) fun _ _ e => e
        obtain ⟨rfl, h', tk', rfl, st⟩ := hf
        refine ⟨rfl, h', tk', _, news, rfl, F₄.kept st, fun p hp => ⟨st _ _ (N₄ p hp).1, (N₄ p hp).2⟩, rfl, ih (i + 1) _ (by omega) fun z h1 h2 => ?_⟩
        simp only [if_neg h1, if_neg h2]
        exact hm z h1 h2
    exact key _ 0 m (by simp) fun _ _ _ => rfl
end
end Mine

-- part F12
namespace Mine
theorem walk_off_F12 : True := by w_top off; trivial

section
variable {prog : Program} {w : World} {A₀ : Around} {E : Value → Shared → Prop} {s s' : Shared} {g : Heap} {L L' a e : Addr} {m : Str → Option Value} {name : Str} {scope : Scope} {cd : Value} {Q : Unit → Shared → Prop} {envL : Env} {oL : Obj} {new : List (Addr × Obj)}
theorem noted_fell (hA : A₀.frames = some [envL]) (M : MaxFell s L' L [envOf name scope L' a cd, envL] e s'.heap) (Fs : TI.Frs [envL] [(L, oL)]) (F : Fr g L' s.heap m) (N : News g L' s.heap (new ++ [(L, oL)])) (hnd : new.all TI.notDict = true)
    (k : ∀ h' frs', TI.SameUp [(L, oL)] frs' → TT.HeldN g L' h' m e "ValueError" (new ++ frs') → Q () { s' with heap := h' }) :
    wpAny (model prog w) (A₀.deeper (envOf name scope L' a cd)) (noteFrame (.ref e) (envOf name scope L' a cd)) Q E s' := by
  have hL : s.heap.get? L = some oL := (N _ (List.mem_append_right _ (.head _))).1
  obtain ⟨oe, vs, T, oT, ts, he, hcl, hd, h1, hnT, hTe, hT, hdT, h3⟩ := M.traced
  have hsz : 0 < vs.size := Nat.lt_of_le_of_lt (Nat.zero_le _) (Array.getElem?_eq_some_iff.mp h1).1
  have ht : s'.heap.TracedW (TI.gone s.heap [L', L]) e (.type "ValueError") vs[0] := ⟨oe, vs, T, oT, ts, he, ⟨hcl, Array.getElem?_eq_getElem hsz⟩, hd, h1, hnT, hTe, hT, hdT, h3⟩
  have hen : (TI.gone s.heap [L', L]).get? e = none := TI.none_of (fun b o z => (TI.gone_some z).2) M.fresh
  obtain ⟨oW, es, ep, hW, hWr⟩ := F.ns
  obtain ⟨sw, hsw⟩ := M.slots L' oW (.inl rfl) hW
  obtain ⟨sl, hsl⟩ := M.slots L oL (.inr rfl) hL
  have hNs : s'.heap.Ns L' m := ⟨_, es, ep, hsw, hWr⟩
  refine wpAny_noteFrame_onW (Around.frames_deeper hA) M.frames rfl ht M.stays hen fun h' hN => ?_
  obtain ⟨frs₂, SU₂, _, H⟩ := TI.held_of_noted (X := "ValueError") Fs F N hnd hNs (frs₁ := [(L, { oL with slots := sl })]) ⟨rfl, ⟨sl, rfl⟩, trivial⟩ (fun q hq => by rw [List.mem_singleton.mp hq]; exact hsl) M.fresh hN
  exact k h' frs₂ SU₂ H
end

theorem ButSlots.of2 {h h' : Heap} {L L' : Addr} {m : Str → Option Value} {oL : Obj} {frs new : List (Addr × Obj)} (hL : h.get? L = some oL) (F : Fr (TI.gone h [L]) L' h' m) (SU : TI.SameUp [(L, oL)] frs) (N : News (TI.gone h [L]) L' h' (new ++ frs)) : ButSlots L h h' :=
  ButSlots.of hL F SU fun p hp => N p (List.mem_append_right _ hp)
end Mine

-- part C11
namespace Mine
theorem walk_off_C11 : True := by w_top off; trivial
theorem fillW : (fun w : World => Mine.hd.heap_39 w.params) = (fun w => Mine.hd.heap_39 w.params) ∧ Challenge.rw_bt5022_01 = Challenge.rw_bt5022_01 := by k_fill; exact ⟨rfl, rfl⟩

section
variable {w : World} {A₀ : Around} {s : Shared} {K : Type} [DecidableEq K] {O : KOrd Pr w K} {h₀ : Heap} {L : Addr} {m : Str → Option Value} {news : List (Addr × Obj)} {env : Env}
theorem maxKey_in {x : Addr} {ps : List (K × Int)} {p : K × Int} {Q : Value → Shared → Prop} {E : Value → Shared → Prop} (Y : Ok w A₀ h₀ 899 8990) (F : Fr h₀ L s.heap m) (N : News h₀ L s.heap news) (hf : env.frame = some L) (hk : env.scope.kind = .function)
    (t : Tab O h₀ x (ps ++ [p])) (h : ∀ h' tk u, Fr h₀ L h' m → News h₀ L h' news → s.heap.StaysIn h' → O.knd.is p.1 u = true → Q u { s with heap := h', toks := tk }) :
    wpAny (model Pr w) (A₀.deeper env) (call (.ref 30) [.ref x]) Q E s := by
  have Y' := Y.push (env := env) F hf hk
  exact maxKey_ok (O := O) (Y'.mono (Nat.le_refl _) (by decide)) (t.at F.keep) fun h' tk u st hu => h h' tk u (F.kept st) (fun p hp => ⟨st _ _ (N p hp).1, (N p hp).2⟩) st hu
end

theorem toG {h h₁ : Heap} {L L' : Addr} {m : Str → Option Value} {oL : Obj} {news : List (Addr × Obj)} (F : Fr h L' h₁ m) (N : News h L' h₁ news) (hL : h.get? L = some oL) : Fr (TI.gone h [L]) L' h₁ m ∧ News (TI.gone h [L]) L' h₁ (news ++ [(L, oL)]) := by
  obtain ⟨F', N'⟩ := enterG F hL
  refine ⟨F', fun p hp => ?_⟩
  rcases List.mem_append.mp hp with hp | hp
  · exact ⟨(N p hp).1, (N p hp).2.1, TI.none_of (fun b o z => (TI.gone_some z).2) (N p hp).2.2⟩
  · exact N' p hp

set_option hygiene false in
local macro_rules | `(tactic| walk_at "getMethod ref") => `(tactic| (first | refine meth_keys (O := O) (Y.K.keeps (Fr.keep (by assumption))) (t.at (Fr.keep (by assumption))) ?_ | refine meth_values (O := O) (Y.K.keeps (Fr.keep (by assumption))) (t.at (Fr.keep (by assumption))) ?_ | refine meth_maxKey (O := O) (Y.K.keeps (Fr.keep (by assumption))) (t.at (Fr.keep (by assumption))) ?_))
set_option hygiene false in
local macro_rules | `(tactic| walk_at "call ref") => `(tactic| (first
  | (refine keys1 (O := O) (Y.mono (by decide) (by decide)) (by assumption) (by assumption) rfl rfl t ?_; unfold NewList; intro r h2 tk2 xs cc F2 N2 ne2 st2 hr2 hko hxs)
  | (refine values1 (O := O) (Y.mono (by decide) (by decide)) (by assumption) (by assumption) rfl rfl t ?_; unfold NewList; intro r h2 tk2 xs cc F2 N2 ne2 st2 hr2 hko hxs)
  | (refine maxKey_in (O := O) (Y.mono (by decide) (by decide)) (by assumption) (by assumption) rfl rfl t ?_; intro h2 tk2 uu F2 N2 st2 huu)))
local macro_rules | `(tactic| walk_at "eval ListComp") => `(tactic| refine comp_eval rfl ?_)
set_option hygiene false in
local macro_rules | `(tactic| walk_at "call builtin:len") => `(tactic| (first
  | refine len_list (hLs.at fun o => Fr.keep (by assumption) a o) hsz ?_
  | (refine len_sub (Y.K.keeps (Fr.keep (by assumption))) (Fr.keep (by assumption) _ _ hx) t.lo hel ?_; intro tl)))
set_option hygiene false in
local macro_rules | `(tactic| walk_at "compareOp NotEq int int") => `(tactic| (first | refine ne_int_same hll ?_ | refine ne_int_same rfl ?_))
set_option hygiene false in
local macro_rules | `(tactic| walk_at "compareOp NotEq") => `(tactic| (first | refine ne_same (O := O) huu hkv ?_))
set_option hygiene false in
local macro_rules | `(tactic| walk_at "compareOp NotIn") => `(tactic| (refine tab_notin (O := O) (Y.K.keeps (Fr.keep (by assumption))) (t.at (Fr.keep (by assumption))) hp hkv ?_))
set_option hygiene false in
local macro_rules | `(tactic| walk_at "comprehension") => `(tactic| (k_dflt (first
  | ((with_reducible show wpAny _ _ (comprehension (Expr.ListComp (Expr.Subscript _ (Expr.Constant (Const.int 0) _ _) _) _ _ _) _ _ _ _ _ _ _) _ _ _); refine' pure_firsts (O := O) (l := a) (vs := vs) Y.hand (hLs.at fun o => Fr.keep (by assumption) a o) (hpi.at (Fr.keep (by assumption))) hlen (by assumption) (by assumption) ?g2 ?g3 ?g4 ?g5 ?g6 ?g9 ?g10 ?_ ?g11; (case g2 => rfl); (case g3 => decide); (case g4 => rfl); (case g5 => decide); (case g6 => rfl); (case g9 => intro C; rfl); (case g10 => decide); (case g11 => intro x; rfl); unfold FreshL; intro Dk hk4 tk4 ks ck F4 N4 ne4 st4 hks hkl)
  | ((with_reducible show wpAny _ _ (comprehension (Expr.ListComp (Expr.Subscript _ (Expr.Constant (Const.int 1) _ _) _) _ _ _) _ _ _ _ _ _ _) _ _ _); refine' pure_seconds (O := O) (l := a) (vs := vs) Y.hand (hLs.at fun o => Fr.keep (by assumption) a o) (hpi.at (Fr.keep (by assumption))) hlen (by assumption) (by assumption) ?g2 ?g3 ?g4 ?g5 ?g6 ?g9 ?g10 ?_ ?g11; (case g2 => rfl); (case g3 => decide); (case g4 => rfl); (case g5 => decide); (case g6 => rfl); (case g9 => intro C; rfl); (case g10 => decide); (case g11 => intro x; rfl); unfold FreshL; intro Dk hk4 tk4 ks ck F4 N4 ne4 st4 hks hkl))))
set_option hygiene false in
local macro_rules | `(tactic| walk_at "compareOp NotEq ref ref") => `(tactic| (k_dflt (first
  | (refine' ne_keysN (O := O) (xs := xs) (ys := ks) ?n1 ?l1 ?l2 hko hks ?u ?_; (case n1 => assumption); (case l1 => repeat (first | exact List.Mem.head _ | refine List.Mem.tail _ ?_)); (case l2 => repeat (first | exact List.Mem.head _ | refine List.Mem.tail _ ?_)); (case u => exact Nat.lt_of_le_of_lt (Nat.add_le_add_right Y.units 3) (by decide)))
  | (refine' ne_keysN (O := intOrd Pr w) (xs := xs) (ys := ks) ?n1 ?l1 ?l2 hko hks ?u ?_; (case n1 => assumption); (case l1 => repeat (first | exact List.Mem.head _ | refine List.Mem.tail _ ?_)); (case l2 => repeat (first | exact List.Mem.head _ | refine List.Mem.tail _ ?_)); (case u => exact Nat.lt_of_le_of_lt (Nat.add_le_add_right Y.units 3) (by decide))))))
set_option hygiene false in
local macro_rules | `(tactic| walk_at "compareOp Eq ref ref") => `(tactic| (k_dflt (refine' eq_nilN (vs := vs) (hLs.at fun o => Fr.keep (by assumption) a o) ?n1 ?l1 ?c1 ?d1 ?u hvn ?_; (case n1 => assumption); (case l1 => repeat (first | exact List.Mem.head _ | refine List.Mem.tail _ ?_)); (case c1 => rfl); (case d1 => rfl); (case u => exact Nat.lt_of_le_of_lt (Nat.add_le_add_right Y.units 3) (by decide)))))
local macro_rules | `(tactic| walk_at "exec Try") => `(tactic| (refine wpAny_Try_except ?_))
set_option hygiene false in
local macro_rules | `(tactic| walk_at "subscriptTail") => `(tactic| (k_dflt (first
  | ((with_reducible show wpAny _ _ (subscriptTail _ (Expr.UnaryOp _ _ _) _ _) _ _ _); refine' item_last (vs := vs0) (v := Value.ref t0) (hLs0.at fun o => Fr.keep (by assumption) a o) hlen0 ?_ ?b2 ?b3; (case b2 => with_unfolding_all rfl); (case b3 => intro r; with_unfolding_all rfl))
  | ((with_reducible show wpAny _ _ (subscriptTail _ (Expr.Constant _ _ _) _ _) _ _ _); refine' item_tupleT (t := t0) (l := [kv, .int p.2 tt]) (j := 0) (ht0.keeps (Fr.keep (by assumption))) ?b1 ?b2 ?b3 ?b4 ?_ ?b5; (case b1 => decide); (case b2 => decide); (case b3 => rfl); (case b4 => rfl); (case b5 => with_unfolding_all rfl))
  | ((with_reducible show wpAny _ _ (subscriptTail _ (Expr.Name _ _) _ _) _ _ _); refine' tab_get (O := O) (Y.K.keeps (Fr.keep (by assumption))) (t.at (Fr.keep (by assumption))) hp hkv ?_ ?b1 ?b2; (case b1 => with_unfolding_all rfl); (case b2 => intro r; with_unfolding_all rfl)))))

section
variable {w : World} {A : Around} {s : Shared} {K : Type} [DecidableEq K] {O : KOrd Pr w K}
theorem whole_ok {x a L : Addr} {ps : List (K × Int)} {Q : Value → Shared → Prop} {E : Value → Shared → Prop} (Y0 : LawAt w A s.heap 890 8900 L)
    (t : Tab O s.heap x ps) (ha : PrsAt O s.heap a ps)
    (h : ∀ h' tk, ButSlots L s.heap h' → Q (.bool true) { s with heap := h', toks := tk }) :
    wpAny (model Pr w) A (call (.ref 79) [.ref x, .ref a]) Q E s := by
  have Y : Ok w A s.heap 898 8980 := Y0.ok.mono (by decide) (by decide)
  have KX := Y.K
  obtain ⟨mg, mb, mean, T⟩ := Y.T
  obtain ⟨mgG, mbG, meanG, TG⟩ := Y0.TG
  obtain ⟨envL, hA, hfL, hkL⟩ := Y0.fr
  obtain ⟨oL, hL, hdL⟩ := Y0.obj
  obtain ⟨dx, es, nn, mm, kvs, hx, hdx, hen, hperm⟩ := t.at_
  obtain ⟨vs, hvs, hpi, hlen⟩ := ha
  have hLs : s.heap.IsList a vs.toArray := hvs.isList
  have hsz : ((vs.toArray.size : Nat) : Int) < 2 ^ 63 := by simp; omega
  have hel : es.length ≤ 1000 := by have := All2.length hen; have := hperm.length_eq; have := t.short; omega
  have hll : (es.length : Int) = ((vs.toArray.size : Nat) : Int) := by have := All2.length hen; have := hperm.length_eq; have := All2.length hpi; simp; omega
  have hroom : A.depth < recursionLimit := Nat.lt_of_le_of_lt Y.depth (by decide)
  refine wpAny_call ?_
  refine' enter (T.nolimit) KX ?k1 ?k3 hroom ?k5 ?k6 ?k7 ?k8 ?c2 ?c3 ?c4
  case k1 => k_is
  case k3 => k_is
  case k5 => exact BindsTo.of_eq (binds := [(Str.ofString "table", .ref x), (Str.ofString "pairs", .ref a)]) rfl
  case k6 => exact locs rfl
  case k8 => decide
  case c2 => rfl
  case c3 => rfl
  case c4 => rfl
  intro L' h₁ F'
  have N' : News s.heap L' h₁ [] := News.nil
  rcases List.eq_nil_or_concat ps with rfl | ⟨ps0, p, rfl⟩
  · have hv0 : vs = [] := All2.nil_right hpi
    have hvn : vs.isEmpty = true := by rw [hv0]; rfl
    iterate 69 walk1
    rename Fr _ _ _ _ => Fc
    rename News _ _ _ _ => Nc
    obtain ⟨FG, NG⟩ := toG Fc Nc hL
    obtain ⟨oW, esW, epW, hW, hWd, hWr⟩ := id Fc.ns
    refine' maxKey_empty (O := O) (Lw := L') (L := L) (oW := oW) (oL := oL) ?gY ?gT ?gA ?gF ?gW ?gL ?_
    case gA => exact Around.frames_deeper hA
    case gY => exact (Y.push Fc rfl rfl).mono (by decide) (by decide)
    case gT => exact t.at Fc.keep
    case gF => exact ⟨(show ScopeKind.function ≠ ScopeKind.module by decide), rfl, ⟨_, _, hWd⟩, hkL, hfL, hdL, trivial⟩
    case gW => exact hW
    case gL => exact Fc.keep _ _ hL
    intro h3 tk3 e M
    refine noted_fell hA M ⟨hkL, hfL, hdL, trivial⟩ FG NG rfl ?_
    intro h4 frs4 SU4 H4
    refine TT.HeldNA.land H4 ?_
    intro h5 H5
    refine TT.clause_hitTN H5 TG (k := ?_) (hv := by boot_by_name)
    intro h6 F6 N6
    k_steps
    exact h _ _ (ButSlots.of2 hL F6 SU4 N6)
  · simp only [List.concat_eq_append] at *
    obtain ⟨vs0, v1, e1, hpi0, hp1⟩ : ∃ vs0 v1, vs = vs0 ++ [v1] ∧ PairsIn O s.heap vs0 ps0 ∧ PairIs O s.heap v1 p := by
      obtain ⟨l1, l2, e, a1, a2⟩ := All2.of_append hpi
      cases a2 with
      | cons r a2 => cases a2; exact ⟨l1, _, e, a1, r⟩
    obtain ⟨t0, kv, tt, rfl, ht0, hkv⟩ := hp1
    have hvn : vs.isEmpty = false := by rw [e1]; simp
    have hLs0 : s.heap.IsList a (vs0 ++ [Value.ref t0]).toArray := by rw [← e1]; exact hLs
    have hlen0 : (vs0 ++ [Value.ref t0]).length < 64 := by rw [← e1]; exact hlen
    iterate 85 walk1
    refine' for_pairs (O := O) (a := a) (vs := vs) Y.hand ?g1 ?g2 ?g3 ?g4 (by assumption) (by assumption) hLs hpi hlen ?g5 ?gturn ?gdone ?g6
    (case g1 => decide)
    (case g2 => rfl)
    (case g3 => rfl)
    (case g4 => rfl)
    (case g5 => intro Q' hQ'; refine' nameX_L ?fa ?fb hQ'; (case fa => assumption); (case fb => rfl))
    (case g6 => intro x; rfl)
    case gdone =>
      intro mD hD tkD FD ND
      k_steps
      exact h _ _ ⟨fun b o _ e => FD.keep b o e, fun o e => ⟨o.slots, FD.keep _ _ e⟩⟩
    case gturn =>
      intro q hp kv tt hT tkT own hkv FT NT
      k_steps
      exact fun _ _ e => e
end
end Mine

-- part P1
namespace Mine
theorem walk_off_P1 : True := by w_top off; trivial

section
variable {prog : Program} {w : World} {K : Type} [DecidableEq K] {O : KOrd prog w K} {k : K} {v v0 : Int}
theorem mem_put : ∀ {ps : List (K × Int)} {q : K × Int}, q ∈ put O k v ps → q = (k, v) ∨ q ∈ ps
  | [], q, h => .inl (List.mem_singleton.mp h)
  | p :: r, q, h => by
    unfold put at h
    split at h
    · rcases List.mem_cons.mp h with rfl | h
      · exact .inr (.head _)
      · rcases mem_put h with h | h
        · exact .inl h
        · exact .inr (.tail _ h)
    · split at h
      · rcases List.mem_cons.mp h with rfl | h
        · exact .inl rfl
        · exact .inr (.tail _ h)
      · rcases List.mem_cons.mp h with rfl | h
        · exact .inl rfl
        · exact .inr h
theorem put_mem : ∀ {ps : List (K × Int)}, (k, v) ∈ put O k v ps
  | [] => .head _
  | p :: r => by
    unfold put
    split
    · exact .tail _ put_mem
    · split <;> exact .head _
theorem put_len : ∀ (ps : List (K × Int)), (put O k v ps).length ≤ ps.length + 1
  | [] => by simp [put]
  | p :: r => by
    unfold put
    have := put_len r
    split
    · simp only [List.length_cons]; omega
    · split <;> simp only [List.length_cons] <;> omega
abbrev Asc (O : KOrd prog w K) (ps : List (K × Int)) : Prop := ps.Pairwise (fun p q => O.lt p.1 q.1 = true)
theorem put_asc : ∀ {ps : List (K × Int)}, Asc O ps → Asc O (put O k v ps)
  | [], _ => by simp [put, Asc]
  | p :: r, h => by
    obtain ⟨h1, h2⟩ := List.pairwise_cons.mp h
    unfold put
    split
    · rename_i hlt
      refine List.pairwise_cons.mpr ⟨fun q hq => ?_, put_asc h2⟩
      rcases mem_put hq with rfl | hq
      · exact hlt
      · exact h1 q hq
    · rename_i hlt
      split
      · rename_i he
        exact List.pairwise_cons.mpr ⟨fun q hq => by have := h1 q hq; rwa [he] at this, h2⟩
      · rename_i he
        have hk : O.lt k p.1 = true := by
          cases z : O.lt k p.1 with
          | true => rfl
          | false => exact absurd (O.tri _ _ (by simpa using hlt) z) he
        refine List.pairwise_cons.mpr ⟨fun q hq => ?_, h⟩
        rcases List.mem_cons.mp hq with rfl | hq
        · exact hk
        · exact O.trans _ _ _ hk (h1 q hq)
theorem put_new : ∀ {ps : List (K × Int)}, (∀ p ∈ ps, p.1 ≠ k) → (put O k v ps).Perm ((k, v) :: ps)
  | [], _ => by simp [put]
  | p :: r, h => by
    unfold put
    split
    · exact ((put_new fun q hq => h q (.tail _ hq)).cons p).trans (List.Perm.swap ..)
    · rw [if_neg (h p (.head _))]
theorem put_hit : ∀ {ps : List (K × Int)}, Asc O ps → (k, v0) ∈ ps → ∃ r, ps.Perm ((k, v0) :: r) ∧ (put O k v ps).Perm ((k, v) :: r)
  | [], _, h => nomatch h
  | p :: r, h, hm => by
    obtain ⟨h1, h2⟩ := List.pairwise_cons.mp h
    unfold put
    split
    · rename_i hlt
      have hr : (k, v0) ∈ r := by
        rcases List.mem_cons.mp hm with rfl | hm
        · rw [O.irrefl] at hlt; cases hlt
        · exact hm
      obtain ⟨r', a, b⟩ := put_hit h2 hr
      exact ⟨p :: r', (a.cons p).trans (List.Perm.swap ..), (b.cons p).trans (List.Perm.swap ..)⟩
    · rename_i hlt
      have hp : p = (k, v0) := by
        rcases List.mem_cons.mp hm with h | hm
        · exact h.symm
        · exact absurd (h1 _ hm) hlt
      subst hp
      rw [if_pos rfl]
      exact ⟨r, .refl _, .refl _⟩

/-- the table's own order after a set, a set again, a pop -/
theorem set_new {kvs ps : List (K × Int)} (hp : kvs.Perm ps) (hn : ∀ p ∈ ps, p.1 ≠ k) : (kvs ++ [(k, v)]).Perm (put O k v ps) :=
  (List.perm_append_comm.trans ((hp.cons (k, v)))).trans (put_new hn).symm
theorem set_hit {l1 l2 ps : List (K × Int)} (hs : Asc O ps) (hp : (l1 ++ (k, v0) :: l2).Perm ps) : (l1 ++ (k, v) :: l2).Perm (put O k v ps) := by
  obtain ⟨r, a, b⟩ := put_hit (v := v) hs (hp.mem_iff.mp (List.mem_append_right _ (.head _)))
  have h1 : ((k, v0) :: (l1 ++ l2)).Perm ((k, v0) :: r) := List.perm_middle.symm.trans (hp.trans a)
  have h2 : (l1 ++ l2).Perm r := h1.cons_inv
  exact (List.perm_middle.trans (h2.cons (k, v))).trans b.symm
theorem pop_perm {l1 l2 ps : List (K × Int)} (hs : Asc O ps) (hp : (l1 ++ (k, v0) :: l2).Perm ps) : (l1 ++ l2).Perm (ps.filter fun p => decide (p.1 ≠ k)) := by
  have hne : ps.Pairwise (fun a b => a.1 ≠ b.1) := hs.imp fun {a b} h e => by rw [e, O.irrefl] at h; cases h
  have hne' : (l1 ++ (k, v0) :: l2).Pairwise (fun a b => a.1 ≠ b.1) := (hp.pairwise_iff fun h => h.symm).mpr hne
  have h1 := hp.filter (fun p => decide (p.1 ≠ k))
  rw [List.filter_append, List.filter_cons] at h1
  obtain ⟨a1, a2, a3⟩ := List.pairwise_append.mp hne'
  obtain ⟨b1, b2⟩ := List.pairwise_cons.mp a2
  have e1 : l1.filter (fun p => decide (p.1 ≠ k)) = l1 := List.filter_eq_self.mpr fun q hq => by simpa using a3 q hq _ (.head _)
  have e2 : l2.filter (fun p => decide (p.1 ≠ k)) = l2 := List.filter_eq_self.mpr fun q hq => by simpa using fun e => b1 q hq e.symm
  rw [e1, e2] at h1
  simpa using h1
theorem filter_asc {ps : List (K × Int)} (hs : Asc O ps) (f : K × Int → Bool) : Asc O (ps.filter f) := hs.filter f
/-- what «found» holds -/
theorem found_of : ∀ {ps : List (K × Int)}, Asc O ps → (∃ v0, (k, v0) ∈ ps ∧ (ps.filter fun p => decide (p.1 = k)) = [(k, v0)]) ∨ ((∀ p ∈ ps, p.1 ≠ k) ∧ (ps.filter fun p => decide (p.1 = k)) = [])
  | [], _ => .inr ⟨fun _ h => (nomatch h), rfl⟩
  | p :: r, h => by
    obtain ⟨h1, h2⟩ := List.pairwise_cons.mp h
    by_cases e : p.1 = k
    · left
      have hr : (r.filter fun p => decide (p.1 = k)) = [] := by
        rw [List.filter_eq_nil_iff]
        intro q hq
        have := h1 q hq
        simp only [decide_eq_true_eq]
        intro e2
        rw [e, e2, O.irrefl] at this; cases this
      refine ⟨p.2, ?_, ?_⟩
      · rw [← e]; exact .head _
      · rw [List.filter_cons, if_pos (by simpa using e), hr, ← e]
    · have e0 : ¬ (decide (p.1 = k) = true) := by simpa using e
      rcases found_of h2 with ⟨v0, a, b⟩ | ⟨a, b⟩
      · exact .inl ⟨v0, .tail _ a, by rw [List.filter_cons, if_neg e0, b]⟩
      · refine .inr ⟨fun q hq => ?_, by rw [List.filter_cons, if_neg e0, b]⟩
        rcases List.mem_cons.mp hq with rfl | hq
        · exact e
        · exact a q hq
end
end Mine

-- part L0
namespace Mine
theorem walk_off_L0 : True := by w_top off; trivial
def lawBody : List Stmt := match PySem.Challenge.pw_bt5022_01.main.body.getLast? with
  | some (.FunctionDef _ _ body _ _ _ _ _ _ _) => body
  | _ => []
def lawScope : Scope := match PySem.Challenge.pw_bt5022_01.main.body.getLast? with
  | some (.FunctionDef _ _ _ _ _ _ scope _ _ _) => scope
  | _ => { kind := .function, names := [], isGenerator := false, isCoroutine := false }
def loopBody : List Stmt := (lawBody.findSome? fun | .For _ _ body _ _ => some body | _ => none).getD []
example : lawBody.length = 7 := by rfl
example : loopBody.length = 10 := by rfl
example : ∃ a b c d, loopBody[5]? = some (.If a b c d) := by
  have e : loopBody[5]? = loopBody[5]? := rfl
  conv at e => rhs; whnf
  exact ⟨_, _, _, _, e⟩
end Mine

-- part L1
namespace Mine
theorem walk_off_L1 : True := by w_top off; trivial

/-- all objects of the heap but those at ex -/
def snap (h₀ h : Heap) (ex : List Addr) : List (Addr × Obj) :=
  (List.range h.objs.size).filterMap fun a => if a ∈ ex then none else if (h₀.get? a).isSome then none else (h.get? a).map fun o => (a, o)
theorem mem_snap {h₀ h : Heap} {ex : List Addr} {p : Addr × Obj} : p ∈ snap h₀ h ex ↔ (p.1 ∉ ex ∧ h₀.get? p.1 = none ∧ h.get? p.1 = some p.2) := by
  unfold snap
  rw [List.mem_filterMap]
  constructor
  · rintro ⟨a, ha, e⟩
    split at e
    · cases e
    · rename_i h1
      split at e
      · cases e
      · rename_i h2
        cases q : h.get? a with
        | none => rw [q] at e; cases e
        | some o =>
          rw [q] at e
          cases e
          refine ⟨h1, ?_, q⟩
          cases z : h₀.get? a with
          | none => rfl
          | some o => rw [z] at h2; exact absurd rfl h2
  · rintro ⟨h1, h2, h3⟩
    refine ⟨p.1, List.mem_range.mpr (Heap.lt_size h3), ?_⟩
    rw [if_neg h1, if_neg (by rw [h2]; exact Bool.false_ne_true), h3]
    rfl
/-- what a ledger with the snapshot says of a later heap -/
theorem snap_keeps {h₀ h h' : Heap} {L : Addr} {m : Str → Option Value} {news : List (Addr × Obj)} {ex : List Addr} (F : Fr h₀ L h m) (F' : ∀ b o, h₀.get? b = some o → h'.get? b = some o) (N : News h₀ L h' news) (hs : ∀ p ∈ snap h₀ h ex, p ∈ news) :
    ∀ b o, b ∉ ex → h.get? b = some o → h'.get? b = some o := by
  intro b o hb e
  cases z : h₀.get? b with
  | some o' =>
    have := F.keep _ _ z
    rw [e] at this
    rw [Option.some.inj this]
    exact F' _ _ z
  | none => exact (N (b, o) (hs _ (mem_snap.mpr ⟨hb, z, e⟩))).1
end Mine

-- part L2
namespace Mine
theorem walk_off_L2 : True := by w_top off; trivial

section
variable {w : World} {K : Type} [DecidableEq K] {O : KOrd Pr w K}
structure TabD (O : KOrd Pr w K) (h : Heap) (x dx : Addr) (ps : List (K × Int)) : Prop where
  at_ : ∃ es n m kvs, h.get? x = some (treeObj dx es n) ∧ h.get? dx = some (dictOf [] m) ∧ Ents O.knd es kvs ∧ kvs.Perm ps
  sorted : Asc O ps
  short : ps.length < 64
  lo : (x == sysModules) = false
  ne : x ≠ 46
theorem TabD.tab {h : Heap} {x dx : Addr} {ps : List (K × Int)} (t : TabD O h x dx ps) : Tab O h x ps :=
  let ⟨es, n, m, kvs, a, b, c, d⟩ := t.at_
  ⟨⟨dx, es, n, m, kvs, a, b, c, d⟩, t.sorted, t.short, t.lo, t.ne⟩
theorem TabD.move {h h' : Heap} {x dx : Addr} {ps : List (K × Int)} (t : TabD O h x dx ps) (k1 : ∀ o, h.get? x = some o → h'.get? x = some o) (k2 : ∀ o, h.get? dx = some o → h'.get? dx = some o) : TabD O h' x dx ps :=
  let ⟨es, n, m, kvs, a, b, c, d⟩ := t.at_
  ⟨⟨es, n, m, kvs, k1 _ a, k2 _ b, c, d⟩, t.sorted, t.short, t.lo, t.ne⟩
end

/-- what the frame is known to hold -/
def Has (m : Str → Option Value) : List (Str × Value) → Prop
  | [] => True
  | p :: r => m p.1 = some p.2 ∧ Has m r
/-- the frame's map, written out as far as it is known -/
abbrev over (ps : List (Str × Value)) (m : Str → Option Value) : Str → Option Value := fun y => match ps.lookup y with | some v => some v | none => m y
theorem Has.get {m : Str → Option Value} : ∀ {ps : List (Str × Value)}, Has m ps → ∀ {x v}, ps.lookup x = some v → m x = some v
  | [], _, x, v, e => by cases e
  | p :: r, h, x, v, e => by
    obtain ⟨h1, h2⟩ := h
    rw [List.lookup_cons] at e
    split at e
    · rename_i he
      cases e
      rw [beq_iff_eq] at he
      rw [he]; exact h1
    · exact h2.get e
theorem Has.over {m : Str → Option Value} {ps : List (Str × Value)} (h : Has m ps) : over ps m = m := by
  funext y
  show (match ps.lookup y with | some v => some v | none => m y) = m y
  cases e : ps.lookup y with
  | none => rfl
  | some v => exact (h.get e).symm

/-- law's state: what its frame and the heap hold -/
structure LSt (w : World) (h₀ : Heap) (L I : Addr) (oI : Obj) (xT dT xB dB aN aP aO : Addr) (ws : List Value) (pT : List (Int × Int)) (pB : List (List UInt8 × Int)) (cK cN : Option Value) (ex : List (Str × Value)) (h : Heap) (m : Str → Option Value) : Prop where
  F : Fr h₀ L h m
  ck : h.IsCell (L + 1) cK
  cn : h.IsCell (L + 1 + 1) cN
  tT : TabD (intOrd Pr w) h xT dT pT
  tB : TabD (bytesOrd Pr w) h xB dB pB
  lt : L + 1 + 1 < xT ∧ L + 1 + 1 < dT ∧ L + 1 + 1 < xB ∧ L + 1 + 1 < dB ∧ xT ≠ xB
  pl : PrsAt (intOrd Pr w) h aP pT
  oc : PrsAt (bytesOrd Pr w) h aO pB
  nu : h.IsList aN ws.toArray
  it : h.get? I = some oI
  itd : ∃ a, oI.data = .fields a
  fm : Has m ((Str.ofString "tree", .ref xT) :: (Str.ofString "bucket", .ref xB) :: (Str.ofString "plain", .ref aP) :: (Str.ofString "octets", .ref aO) :: (Str.ofString "numbers", .ref aN) :: ex)

abbrev Ex (L xT xB : Addr) : List Addr := [L, L + 1, L + 1 + 1, xT, xB]
section
variable {w : World} {h₀ : Heap} {L I : Addr} {oI : Obj} {xT dT xB dB aN aP aO : Addr} {cK cN : Option Value} {ex : List (Str × Value)} {ws : List Value} {pT : List (Int × Int)} {pB : List (List UInt8 × Int)} {h h' : Heap} {m m' : Str → Option Value}
theorem LSt.seqs (S : LSt w h₀ L I oI xT dT xB dB aN aP aO ws pT pB cK cN ex h m) {b : Addr} {o : Obj} {xs : Array Value} {n : Nat} (e : h.get? b = some o) (d : o.data = .seq xs n) : b ∉ Ex L xT xB := by
  intro hb
  simp only [Ex, List.mem_cons, List.not_mem_nil, or_false] at hb
  rcases hb with rfl | rfl | rfl | rfl | rfl
  · obtain ⟨oL, es, ep, hL, hd, _⟩ := S.F.ns
    rw [hL] at e; cases e; rw [hd] at d; cases d
  · obtain ⟨o', h1, hd⟩ := S.ck
    rw [h1] at e; cases e; rw [hd] at d; cases d
  · obtain ⟨o', h1, hd⟩ := S.cn
    rw [h1] at e; cases e; rw [hd] at d; cases d
  · obtain ⟨es, n', mm, kvs, h1, _⟩ := S.tT.at_
    rw [h1] at e; cases e; cases d
  · obtain ⟨es, n', mm, kvs, h1, _⟩ := S.tB.at_
    rw [h1] at e; cases e; cases d
theorem LSt.dicts (S : LSt w h₀ L I oI xT dT xB dB aN aP aO ws pT pB cK cN ex h m) : dT ∉ Ex L xT xB ∧ dB ∉ Ex L xT xB := by
  obtain ⟨a1, a2, a3, a4, a5⟩ := S.lt
  obtain ⟨es, n', mm, kvs, h1, h2, _⟩ := S.tT.at_
  obtain ⟨es', n'', mm', kvs', h1', h2', _⟩ := S.tB.at_
  have k : ∀ d : Addr, L + 1 + 1 < d → ∀ mm, h.get? d = some (dictOf [] mm) → d ∉ Ex L xT xB := by
    intro d hd mm e hb
    simp only [Ex, List.mem_cons, List.not_mem_nil, or_false] at hb
    rcases hb with rfl | rfl | rfl | rfl | rfl
    · exact absurd hd (Nat.not_lt.mpr (Nat.le_succ_of_le (Nat.le_succ _)))
    · exact absurd hd (Nat.not_lt.mpr (Nat.le_succ _))
    · exact absurd hd (Nat.lt_irrefl _)
    · rw [h1] at e; cases e
    · rw [h1'] at e; cases e
  exact ⟨k _ a2 _ h2, k _ a4 _ h2'⟩
theorem LSt.itNot (S : LSt w h₀ L I oI xT dT xB dB aN aP aO ws pT pB cK cN ex h m) : I ∉ Ex L xT xB := by
  obtain ⟨fs, d⟩ := S.itd
  have e := S.it
  intro hb
  simp only [Ex, List.mem_cons, List.not_mem_nil, or_false] at hb
  rcases hb with rfl | rfl | rfl | rfl | rfl
  · obtain ⟨oL, es, ep, hL, hd, _⟩ := S.F.ns
    rw [hL] at e; cases e; rw [hd] at d; cases d
  · obtain ⟨o', h1, hd⟩ := S.ck
    rw [h1] at e; cases e; rw [hd] at d; cases d
  · obtain ⟨o', h1, hd⟩ := S.cn
    rw [h1] at e; cases e; rw [hd] at d; cases d
  · obtain ⟨es, n', mm, kvs, h1, _⟩ := S.tT.at_
    rw [h1] at e; cases e; cases d
  · obtain ⟨es, n', mm, kvs, h1, _⟩ := S.tB.at_
    rw [h1] at e; cases e; cases d
/-- the frame, with all that is known of its map written out -/
theorem LSt.frm (S : LSt w h₀ L I oI xT dT xB dB aN aP aO ws pT pB cK cN ex h m) : Fr h₀ L h (over ((Str.ofString "tree", .ref xT) :: (Str.ofString "bucket", .ref xB) :: (Str.ofString "plain", .ref aP) :: (Str.ofString "octets", .ref aO) :: (Str.ofString "numbers", .ref aN) :: ex) m) := by
  rw [S.fm.over]; exact S.F
theorem PrsAt.move {K : Type} [DecidableEq K] {O : KOrd Pr w K} {a : Addr} {ps : List (K × Int)} (x : PrsAt O h a ps) (k : ∀ b o xs n, o.data = .seq xs n → h.get? b = some o → h'.get? b = some o) : PrsAt O h' a ps := by
  obtain ⟨vs, ⟨n, e⟩, hp, hl⟩ := x
  exact ⟨vs, ⟨n, k _ _ _ _ rfl e⟩, All2.imp hp fun v p r => let ⟨t, kv, tt, e, ⟨o, ho, hc, n, hd⟩, hk⟩ := r; ⟨t, kv, tt, e, ⟨o, k _ _ _ _ hd ho, hc, n, hd⟩, hk⟩, hl⟩

/-- the ledger that a part of the loop starts with -/
theorem LSt.news (S : LSt w h₀ L I oI xT dT xB dB aN aP aO ws pT pB cK cN ex h m) : ∃ oK oN oT oB fz, News h₀ L h ((L + 1 + 1, oN) :: (L + 1, oK) :: (xT, oT) :: (xB, oB) :: fz) ∧ oK.data = .cell cK ∧ oN.data = .cell cN ∧ h.get? xT = some oT ∧ h.get? xB = some oB ∧
    (∀ p ∈ (xT, oT) :: (xB, oB) :: fz, p.1 ≠ L + 1 ∧ p.1 ≠ L + 1 + 1) ∧ (∀ p ∈ fz, p.1 ≠ xT ∧ p.1 ≠ xB) ∧ (∀ p ∈ snap h₀ h (Ex L xT xB), p ∈ fz) := by
  obtain ⟨oK, hK, dK⟩ := S.ck
  obtain ⟨oN, hN, dN⟩ := S.cn
  obtain ⟨es, n', mm, kvs, hT, _⟩ := S.tT.at_
  obtain ⟨es', n'', mm', kvs', hB, _⟩ := S.tB.at_
  obtain ⟨a1, a2, a3, a4, a5⟩ := S.lt
  have nw : ∀ b, L < b → h₀.get? b = none := fun b hb => Heap.get?_none_of_le (Nat.le_trans S.F.above (Nat.le_of_lt hb))
  have l1 : L < L + 1 := Nat.lt_succ_self _
  have l2 : L < L + 1 + 1 := Nat.lt_succ_of_lt l1
  refine ⟨oK, oN, _, _, snap h₀ h (Ex L xT xB), fun p hp => ?_, dK, dN, hT, hB, fun p hp => ?_, fun p hp => ?_, fun p hp => hp⟩
  · rcases List.mem_cons.mp hp with rfl | hp
    · exact ⟨hN, Nat.ne_of_gt l2, nw _ l2⟩
    rcases List.mem_cons.mp hp with rfl | hp
    · exact ⟨hK, Nat.ne_of_gt l1, nw _ l1⟩
    rcases List.mem_cons.mp hp with rfl | hp
    · exact ⟨hT, Nat.ne_of_gt (Nat.lt_trans l2 a1), nw _ (Nat.lt_trans l2 a1)⟩
    rcases List.mem_cons.mp hp with rfl | hp
    · exact ⟨hB, Nat.ne_of_gt (Nat.lt_trans l2 a3), nw _ (Nat.lt_trans l2 a3)⟩
    obtain ⟨b1, b2, b3⟩ := mem_snap.mp hp
    exact ⟨b3, fun e => b1 (by rw [e]; exact .head _), b2⟩
  · rcases List.mem_cons.mp hp with rfl | hp
    · exact ⟨Nat.ne_of_gt (Nat.lt_trans (Nat.lt_succ_self _) a1), Nat.ne_of_gt a1⟩
    rcases List.mem_cons.mp hp with rfl | hp
    · exact ⟨Nat.ne_of_gt (Nat.lt_trans (Nat.lt_succ_self _) a3), Nat.ne_of_gt a3⟩
    obtain ⟨b1, b2, b3⟩ := mem_snap.mp hp
    exact ⟨fun e => b1 (by rw [e]; exact .tail _ (.head _)), fun e => b1 (by rw [e]; exact .tail _ (.tail _ (.head _)))⟩
  · obtain ⟨b1, b2, b3⟩ := mem_snap.mp hp
    exact ⟨fun e => b1 (by rw [e]; exact .tail _ (.tail _ (.tail _ (.head _)))), fun e => b1 (by rw [e]; exact .tail _ (.tail _ (.tail _ (.tail _ (.head _))))) ⟩
end
end Mine

-- part L3
namespace Mine
theorem walk_off_L3 : True := by w_top off; trivial

section
variable {w : World} {h₀ : Heap} {L I : Addr} {oI : Obj} {xT dT xB dB aN aP aO : Addr} {cK cN cK' cN' : Option Value} {ex ex' : List (Str × Value)} {ws : List Value} {pT : List (Int × Int)} {pB : List (List UInt8 × Int)} {h h' : Heap} {m m' : Str → Option Value}
theorem LSt.plT (S : LSt w h₀ L I oI xT dT xB dB aN aP aO ws pT pB cK cN ex h m) (k : ∀ b o, b ∉ Ex L xT xB → h.get? b = some o → h'.get? b = some o) : PrsAt (intOrd Pr w) h' aP pT := S.pl.move fun b o _ _ d e => k b o (S.seqs e d) e
theorem LSt.ocT (S : LSt w h₀ L I oI xT dT xB dB aN aP aO ws pT pB cK cN ex h m) (k : ∀ b o, b ∉ Ex L xT xB → h.get? b = some o → h'.get? b = some o) : PrsAt (bytesOrd Pr w) h' aO pB := S.oc.move fun b o _ _ d e => k b o (S.seqs e d) e
theorem LSt.nuT (S : LSt w h₀ L I oI xT dT xB dB aN aP aO ws pT pB cK cN ex h m) (k : ∀ b o, b ∉ Ex L xT xB → h.get? b = some o → h'.get? b = some o) : h'.IsList aN ws.toArray := by
  obtain ⟨o, e, c, n, d⟩ := S.nu
  exact ⟨o, k _ _ (S.seqs e d) e, c, n, d⟩
theorem LSt.treeT (S : LSt w h₀ L I oI xT dT xB dB aN aP aO ws pT pB cK cN ex h m) (k : ∀ b o, b ∉ Ex L xT xB → h.get? b = some o → h'.get? b = some o) (kT : ∀ o, h.get? xT = some o → h'.get? xT = some o) : TabD (intOrd Pr w) h' xT dT pT :=
  S.tT.move kT fun o e => k _ _ S.dicts.1 e
theorem LSt.treeB (S : LSt w h₀ L I oI xT dT xB dB aN aP aO ws pT pB cK cN ex h m) (k : ∀ b o, b ∉ Ex L xT xB → h.get? b = some o → h'.get? b = some o) (kB : ∀ o, h.get? xB = some o → h'.get? xB = some o) : TabD (bytesOrd Pr w) h' xB dB pB :=
  S.tB.move kB fun o e => k _ _ S.dicts.2 e

theorem LSt.itT (S : LSt w h₀ L I oI xT dT xB dB aN aP aO ws pT pB cK cN ex h m) (k : ∀ b o, b ∉ Ex L xT xB → h.get? b = some o → h'.get? b = some o) : h'.get? I = some oI := k _ _ S.itNot S.it

/-- a part that leaves tables and lists as they are -/
theorem LSt.same (S : LSt w h₀ L I oI xT dT xB dB aN aP aO ws pT pB cK cN ex h m) (F' : Fr h₀ L h' m') (k : ∀ b o, b ∉ Ex L xT xB → h.get? b = some o → h'.get? b = some o)
    (ck : h'.IsCell (L + 1) cK') (cn : h'.IsCell (L + 1 + 1) cN')
    (kT : ∀ o, h.get? xT = some o → h'.get? xT = some o) (kB : ∀ o, h.get? xB = some o → h'.get? xB = some o)
    (fm : Has m' ((Str.ofString "tree", .ref xT) :: (Str.ofString "bucket", .ref xB) :: (Str.ofString "plain", .ref aP) :: (Str.ofString "octets", .ref aO) :: (Str.ofString "numbers", .ref aN) :: ex')) :
    LSt w h₀ L I oI xT dT xB dB aN aP aO ws pT pB cK' cN' ex' h' m' :=
  ⟨F', ck, cn, S.treeT k kT, S.treeB k kB, S.lt, S.plT k, S.ocT k, S.nuT k, S.itT k, S.itd, fm⟩
end
end Mine

-- part L4
namespace Mine
theorem walk_off_L4 : True := by w_top off; trivial

theorem ButSlots.fr {h₀ h h' : Heap} {L : Addr} {m : Str → Option Value} (x : ButSlots L h h') (F : Fr h₀ L h m) : Fr h₀ L h' m := by
  obtain ⟨⟨o, es, ep, ho, r⟩, k, ab⟩ := F
  obtain ⟨sl, e⟩ := x.2 _ ho
  exact ⟨⟨_, es, ep, e, r⟩, fun b o e' => x.1 b o (Nat.ne_of_lt (Nat.lt_of_lt_of_le (Heap.lt_size e') ab)) (k b o e'), ab⟩
theorem ButSlots.news {h₀ h h' : Heap} {L : Addr} {news : List (Addr × Obj)} (x : ButSlots L h h') (N : News h₀ L h news) : News h₀ L h' news :=
  fun p hp => ⟨x.1 _ _ (N p hp).2.1 (N p hp).1, (N p hp).2⟩
theorem ButSlots.of_stays {h h' : Heap} {L : Addr} (st : h.StaysIn h') : ButSlots L h h' := ⟨fun b o _ e => st b o e, fun o e => ⟨o.slots, st _ _ e⟩⟩

/-- where law runs -/
structure LawEnv (w : World) (A₀ : Around) (h₀ : Heap) (env : Env) (L : Addr) : Prop where
  Y : Ok w A₀ h₀ 800 8000
  fr : A₀.frames = some []
  hf : env.frame = some L
  hk : env.scope.kind = .function
section
variable {w : World} {A₀ : Around} {h₀ h : Heap} {env : Env} {L : Addr} {m : Str → Option Value}
theorem LawEnv.gone (F : Fr h₀ L h m) : ∀ b o, h₀.get? b = some o → (TI.gone h [L]).get? b = some o := fun b o e => by
  have hb : b ≠ L := Nat.ne_of_lt (Nat.lt_of_lt_of_le (Heap.lt_size e) F.above)
  exact (TI.gone_get (by simpa using hb)).trans (F.keep b o e)
theorem LawEnv.at (V : LawEnv w A₀ h₀ env L) (F : Fr h₀ L h m) : LawAt w (A₀.deeper env) h 801 8003 L := by
  obtain ⟨mg, mb, mean, T⟩ := V.Y.T
  obtain ⟨oL, es, ep, hL, hd, _⟩ := id F.ns
  exact ⟨V.Y.push F V.hf V.hk, ⟨env, Around.frames_deeper V.fr, V.hf, by rw [V.hk]; decide⟩, ⟨oL, hL, es, ep, hd⟩, V.Y.K.keeps (LawEnv.gone F), ⟨mg, mb, mean, T.keeps (LawEnv.gone F)⟩⟩
theorem LawAt.mono {A : Around} {n u n' u' : Nat} (x : LawAt w A h n u L) (hn : n ≤ n') (hu : u ≤ u') : LawAt w A h n' u' L := ⟨x.ok.mono hn hu, x.fr, x.obj, x.KG, x.TG⟩
end

section
variable {w : World} {A₀ : Around} {E : Value → Shared → Prop} {s : Shared} {K : Type} [DecidableEq K] {O : KOrd Pr w K} {h₀ : Heap} {env : Env} {L : Addr} {m : Str → Option Value} {news : List (Addr × Obj)} {Q : Value → Shared → Prop}
theorem whole_L {x a : Addr} {ps : List (K × Int)} (V : LawEnv w A₀ h₀ env L) (F : Fr h₀ L s.heap m) (N : News h₀ L s.heap news) (t : Tab O s.heap x ps) (ha : PrsAt O s.heap a ps)
    (h : ∀ h' tk, Fr h₀ L h' m → News h₀ L h' news → Q (.bool true) { s with heap := h', toks := tk }) :
    wpAny (model Pr w) (A₀.deeper env) (call (.ref 79) [.ref x, .ref a]) Q E s :=
  whole_ok (O := O) ((V.at F).mono (by decide) (by decide)) t ha fun h' tk b => h h' tk (b.fr F) (b.news N)
theorem around_L {x a : Addr} {ps : List (K × Int)} {vk va vb : Value} {k k1 k2 : K} (V : LawEnv w A₀ h₀ env L) (F : Fr h₀ L s.heap m) (N : News h₀ L s.heap news) (t : Tab O s.heap x ps) (ha : PrsAt O s.heap a ps)
    (hk : O.knd.is k vk = true) (hk1 : O.knd.is k1 va = true) (hk2 : O.knd.is k2 vb = true)
    (h : ∀ h' tk, Fr h₀ L h' m → News h₀ L h' news → Q (.bool true) { s with heap := h', toks := tk }) :
    wpAny (model Pr w) (A₀.deeper env) (call (.ref 84) [.ref x, .ref a, vk, va, vb]) Q E s :=
  around_ok (O := O) ((V.at F).ok.mono (by decide) (by decide)) t ha hk hk1 hk2 fun h' tk st => h h' tk ((ButSlots.of_stays st).fr F) ((ButSlots.of_stays (L := L) st).news N)
theorem asks_L {x a : Addr} {ps : List (K × Int)} {lo hi : Value} {b c : Option K} (V : LawEnv w A₀ h₀ env L) (F : Fr h₀ L s.heap m) (N : News h₀ L s.heap news) (t : Tab O s.heap x ps) (ha : PrsAt O s.heap a ps)
    (blo : Bnd O lo b) (bhi : Bnd O hi c)
    (h : ∀ h' tk, Fr h₀ L h' m → News h₀ L h' news → Q (.bool true) { s with heap := h', toks := tk }) :
    wpAny (model Pr w) (A₀.deeper env) (call (.ref 74) [.ref x, .ref a, lo, hi]) Q E s :=
  asks_ok (O := O) ((V.at F).ok.mono (by decide) (by decide)) t ha blo bhi fun h' tk st => h h' tk ((ButSlots.of_stays st).fr F) ((ButSlots.of_stays (L := L) st).news N)
theorem id_L {n : Int} {t : Tok} (V : LawEnv w A₀ h₀ env L) (F : Fr h₀ L s.heap m) (N : News h₀ L s.heap news)
    (h : ∀ b tb h' tk, Fr h₀ L h' m → News h₀ L h' news → Q (.bytes b tb) { s with heap := h', toks := tk }) :
    wpAny (model Pr w) (A₀.deeper env) (call (.ref 57) [.int n t]) Q E s :=
  law_id_ok ((V.at F).ok.mono (by decide) (by decide)) fun b tb h' tk st => h b tb h' tk ((ButSlots.of_stays st).fr F) ((ButSlots.of_stays (L := L) st).news N)
theorem gone_L {x : Addr} {ps : List (K × Int)} {vk : Value} {k : K} (V : LawEnv w A₀ h₀ env L) (F : Fr h₀ L s.heap m) (N : News h₀ L s.heap news) (hx : ∃ o, (x, o) ∈ news)
    (t : Tab O s.heap x ps) (hd : ∀ dx es n, s.heap.get? x = some (treeObj dx es n) → dx ≠ L) (hkey : O.knd.is k vk = true) (hnk : ∀ p ∈ ps, p.1 ≠ k)
    (h : ∀ h' tk, Fr h₀ L h' m → News h₀ L h' news → Q (.bool true) { s with heap := h', toks := tk }) :
    wpAny (model Pr w) (A₀.deeper env) (call (.ref 91) [.ref x, vk]) Q E s := by
  have tG : Tab O (TI.gone s.heap [L]) x ps := by
    obtain ⟨dx, es, n, mm, kvs, h1, h2, h3, h4⟩ := t.at_
    obtain ⟨o, ho⟩ := hx
    have hxL : x ≠ L := (N _ ho).2.1
    exact ⟨⟨dx, es, n, mm, kvs, (TI.gone_get (by simpa using hxL)).trans h1, (TI.gone_get (by simpa using hd _ _ _ h1)).trans h2, h3, h4⟩, t.sorted, t.short, t.lo, t.ne⟩
  exact law_gone_ok (O := O) ((V.at F).mono (by decide) (by decide)) tG hkey hnk fun h' tk b => h h' tk (b.fr F) (b.news N)
theorem put_L {a : Addr} {ps : List (K × Int)} {vk : Value} {k : K} {v : Int} {tv : Tok} (V : LawEnv w A₀ h₀ env L) (F : Fr h₀ L s.heap m) (N : News h₀ L s.heap news)
    (ha : PrsAt O s.heap a ps) (hk : O.knd.is k vk = true)
    (h : ∀ r h' tk xs, Fr h₀ L h' m → News h₀ L h' news → s.heap.StaysIn h' → h'.PlainList r (xs : List Value).toArray → PairsIn O h' xs (put O k v ps) → (∀ p ∈ news, p.1 ≠ r) → r ≠ L → Q (.ref r) { s with heap := h', toks := tk }) :
    wpAny (model Pr w) (A₀.deeper env) (call (.ref 64) [.ref a, vk, .int v tv]) Q E s :=
  law_put_ok (O := O) ((V.at F).ok.mono (by decide) (by decide)) ha hk fun r h' tk xs st hn hpl hpi => h r h' tk xs ((ButSlots.of_stays st).fr F) ((ButSlots.of_stays (L := L) st).news N) st hpl hpi
    (fun p hp e => by have := (N p hp).1; rw [e, hn] at this; cases this) (fun e => by obtain ⟨oL, _, _, hL, _⟩ := F.ns; rw [e, hL] at hn; cases hn)
end
end Mine

-- part F14
namespace Mine
theorem walk_off_F14 : True := by w_top off; trivial

section
variable {prog : Program} {w : World} {A : Around} {E : Value → Shared → Prop} {s : Shared} {env : Env} {h₀ : Heap} {m : Str → Option Value} {news : List (Addr × Obj)}
variable {K : Type} [DecidableEq K] {O : KOrd prog w K}
theorem PairIs.moveS {h h' : Heap} {v : Value} {p : K × Int} (x : PairIs O h v p) (k : ∀ b o xs n, o.data = .seq xs n → h.get? b = some o → h'.get? b = some o) : PairIs O h' v p :=
  let ⟨t, kv, tt, e, ⟨o, ho, hc, n, hd⟩, hk⟩ := x; ⟨t, kv, tt, e, ⟨o, k _ _ _ _ hd ho, hc, n, hd⟩, hk⟩
theorem PairsIn.moveS {h h' : Heap} {vs : List Value} {ps : List (K × Int)} (x : PairsIn O h vs ps) (k : ∀ b o xs n, o.data = .seq xs n → h.get? b = some o → h'.get? b = some o) : PairsIn O h' vs ps := All2.imp x fun _ _ r => r.moveS k
/-- «found = [one for one in plain if one[0] == key]» -/
theorem assign_found {iter : Expr} {x y nm : Str} {px py p0 pe pn pc px2 : Pos} {kd : Nat} {pe' : Pos} {scope : Scope} {cl : List (Str × Addr)} {pos spos : Pos} {l c : Addr} {vk : Value} {k : K} {ps : List (K × Int)} {Q : Flow → Shared → Prop}
    {g : Heap} (hg : ∀ b o xs n, o.data = .seq xs n → g.get? b = some o → s.heap.get? b = some o) {vs : List Value} (hvs : s.heap.PlainList l vs.toArray) (hpi0 : PairsIn O g vs ps) (hlen : vs.length < 64) (hh : A.handled = none) (hi : ∀ {Q : Value → Shared → Prop}, Q (.ref l) s → wpAny (model prog w) A (eval iter env) Q E s)
    (hF : Fr h₀ env.locals s.heap m) (N : News h₀ env.locals s.heap news) (hc : s.heap.IsCell c (some vk)) (hk : O.knd.is k vk = true)
    (hsw : swapsWith (.ListComp (.Name x px2) [⟨.Name x px, iter, [.Compare (.Subscript (.Name x p0) (.Constant (.int 0) kd pe) pe') [.Eq] [.Name nm pn] pc], 0⟩] scope pos) (some (.Name y py)) spos.line env = pure true)
    (hclos : closureFor scope env = pure cl) (hcell : ∀ y ∈ scope.names, y.2 ≠ .cell) (hkind : scope.kind = .function)
    (hnames : ∀ y ∈ scope.names, y.2 = .local → scope.names.lookup y.1 = some .local) (hx : scope.names.lookup x = some .local)
    (hy : env.kindOf y = some .local) (hek : env.scope.kind = .function) (hxl : ∀ C, (compEnvC scope cl C env).kindOf x = some .local) (hxd : (x == ("__debug__" : Str)) = false)
    (hnl : ∀ C, (compEnvC scope cl C env).kindOf nm = some .cell) (hnc : cl.lookup nm = some c) (hnd : (nm == ("__debug__" : Str)) = false) (hmk : behindInMarks .Eq (.Name nm pn) = false)
    (hQ : ∀ D h' tk ys cc, Fr h₀ env.locals h' (fun z => if z = y then some (.ref D) else m z) → News h₀ env.locals h' ((D, { cls := .type "list", dict := none, data := .seq (ys : List Value).toArray cc, slots := #[] }) :: news) → (∀ p ∈ news, p.1 ≠ D) → PairsIn O g ys (ps.filter fun p => decide (p.1 = k)) → ys.length < 64 →
      Q .next { s with heap := h', toks := tk })
    (hs : ∀ x, foldedSetIterable iter env x = pure x := by intro _; rfl) :
    wpAny (model prog w) A (exec (.Assign [.Name y py] (.ListComp (.Name x px2) [⟨.Name x px, iter, [.Compare (.Subscript (.Name x p0) (.Constant (.int 0) kd pe) pe') [.Eq] [.Name nm pn] pc], 0⟩] scope pos) spos) env) Q E s := by
  have hpi : PairsIn O s.heap vs ps := hpi0.moveS hg
  refine comp_assign (fun v => decide (keyAt O s.heap v = k)) (fun a b => a = b) hh hvs.isList (by rw [sizeLine_eq]; omega) hi hF N hsw hclos hcell hkind hnames hx hy hek ?_ ?_ ?_ hs
  · intro C v s₃ m₃ E' hv hn hm st
    obtain ⟨q, hq, hqv⟩ := hpi.mem_left v hv
    rw [hqv.keyAt]
    refine test_one (wpAny_isTrue_Compare1 (one_key hqv st (fun hQ => cname hn hm hQ (hxl C) hkind hxd) fun kv hkv => ?_) hmk)
    obtain ⟨oc, hoc, hdc⟩ := hc
    refine ccell hnc (s := { s₃ with toks := s₃.toks + 1 }) ⟨oc, st _ _ hoc, hdc⟩ ?_ (hnl C) hkind hnd
    exact O.cEq hkv hk (wpAny_truthy_bool ⟨rfl, ⟨_, _, rfl, fun _ _ e => e⟩⟩)
  · intro C v s₃ m₃ E' hv hp hn hm st
    exact cname hn hm ⟨rfl, keeps_rf _⟩ (hxl C) hkind hxd
  · intro D h' tk ys cc F' N' ne hFF
    have e := Paired.eqs hFF
    refine hQ D h' tk ys cc F' N' ne ?_ ?_
    · rw [e]; exact All2.filter hpi0 fun v q hq => by rw [(hq.moveS hg).keyAt]
    · rw [e]; exact Nat.lt_of_le_of_lt (List.length_filter_le _ _) hlen
/-- «plain = [one for one in plain if one[0] != key]» -/
theorem assign_rest {iter : Expr} {x y nm : Str} {px py p0 pe pn pc px2 : Pos} {kd : Nat} {pe' : Pos} {scope : Scope} {cl : List (Str × Addr)} {pos spos : Pos} {l c : Addr} {vk : Value} {k : K} {ps : List (K × Int)} {Q : Flow → Shared → Prop}
    {g : Heap} (hg : ∀ b o xs n, o.data = .seq xs n → g.get? b = some o → s.heap.get? b = some o) {vs : List Value} (hvs : s.heap.PlainList l vs.toArray) (hpi0 : PairsIn O g vs ps) (hlen : vs.length < 64) (hh : A.handled = none) (hi : ∀ {Q : Value → Shared → Prop}, Q (.ref l) s → wpAny (model prog w) A (eval iter env) Q E s)
    (hF : Fr h₀ env.locals s.heap m) (N : News h₀ env.locals s.heap news) (hc : s.heap.IsCell c (some vk)) (hk : O.knd.is k vk = true)
    (hsw : swapsWith (.ListComp (.Name x px2) [⟨.Name x px, iter, [.Compare (.Subscript (.Name x p0) (.Constant (.int 0) kd pe) pe') [.NotEq] [.Name nm pn] pc], 0⟩] scope pos) (some (.Name y py)) spos.line env = pure true)
    (hclos : closureFor scope env = pure cl) (hcell : ∀ y ∈ scope.names, y.2 ≠ .cell) (hkind : scope.kind = .function)
    (hnames : ∀ y ∈ scope.names, y.2 = .local → scope.names.lookup y.1 = some .local) (hx : scope.names.lookup x = some .local)
    (hy : env.kindOf y = some .local) (hek : env.scope.kind = .function) (hxl : ∀ C, (compEnvC scope cl C env).kindOf x = some .local) (hxd : (x == ("__debug__" : Str)) = false)
    (hnl : ∀ C, (compEnvC scope cl C env).kindOf nm = some .cell) (hnc : cl.lookup nm = some c) (hnd : (nm == ("__debug__" : Str)) = false) (hmk : behindInMarks .NotEq (.Name nm pn) = false)
    (hQ : ∀ D h' tk ys cc, Fr h₀ env.locals h' (fun z => if z = y then some (.ref D) else m z) → News h₀ env.locals h' ((D, { cls := .type "list", dict := none, data := .seq (ys : List Value).toArray cc, slots := #[] }) :: news) → (∀ p ∈ news, p.1 ≠ D) → PairsIn O g ys (ps.filter fun p => decide (p.1 ≠ k)) → ys.length < 64 →
      Q .next { s with heap := h', toks := tk })
    (hs : ∀ x, foldedSetIterable iter env x = pure x := by intro _; rfl) :
    wpAny (model prog w) A (exec (.Assign [.Name y py] (.ListComp (.Name x px2) [⟨.Name x px, iter, [.Compare (.Subscript (.Name x p0) (.Constant (.int 0) kd pe) pe') [.NotEq] [.Name nm pn] pc], 0⟩] scope pos) spos) env) Q E s := by
  have hpi : PairsIn O s.heap vs ps := hpi0.moveS hg
  refine comp_assign (fun v => decide (keyAt O s.heap v ≠ k)) (fun a b => a = b) hh hvs.isList (by rw [sizeLine_eq]; omega) hi hF N hsw hclos hcell hkind hnames hx hy hek ?_ ?_ ?_ hs
  · intro C v s₃ m₃ E' hv hn hm st
    obtain ⟨q, hq, hqv⟩ := hpi.mem_left v hv
    rw [hqv.keyAt]
    refine test_one (wpAny_isTrue_Compare1 (one_key hqv st (fun hQ => cname hn hm hQ (hxl C) hkind hxd) fun kv hkv => ?_) hmk)
    obtain ⟨oc, hoc, hdc⟩ := hc
    refine ccell hnc (s := { s₃ with toks := s₃.toks + 1 }) ⟨oc, st _ _ hoc, hdc⟩ ?_ (hnl C) hkind hnd
    exact O.cNe hkv hk (wpAny_truthy_bool ⟨by simp, ⟨_, _, rfl, fun _ _ e => e⟩⟩)
  · intro C v s₃ m₃ E' hv hp hn hm st
    exact cname hn hm ⟨rfl, keeps_rf _⟩ (hxl C) hkind hxd
  · intro D h' tk ys cc F' N' ne hFF
    have e := Paired.eqs hFF
    refine hQ D h' tk ys cc F' N' ne ?_ ?_
    · rw [e]; exact All2.filter hpi0 fun v q hq => by rw [(hq.moveS hg).keyAt]
    · rw [e]; exact Nat.lt_of_le_of_lt (List.length_filter_le _ _) hlen
end
end Mine

-- part M0
namespace Mine
theorem walk_off_M0 : True := by w_top off; trivial
theorem fillM0 : (fun w : World => Mine.hd.heap_39 w.params) = (fun w => Mine.hd.heap_39 w.params) ∧ Challenge.rw_bt5022_01 = Challenge.rw_bt5022_01 := by k_fill; exact ⟨rfl, rfl⟩
section
variable {M : Model} {A : Around} {E : Value → Shared → Prop} {s : Shared} {h₀ : Heap} {L f : Addr} {m : Str → Option Value} {cd : Value} {sc : Scope} {qn : Str}
  {v : Value} {Q : Unit → Shared → Prop} {news rest : List (Addr × Obj)} {oK oN : Obj} {v₀ : Option Value}
theorem cell_set {c : Addr} {o : Obj} {x : Str} (F : Fr h₀ L s.heap m) (N : News h₀ L s.heap news) (hm : (c, o) ∈ news) (hd : o.data = .cell v₀) (hc : (envOfC qn sc L f cd).cells.lookup x = some c)
    (h : ∀ h' o', Fr h₀ L h' m → h'.get? c = some o' → (∀ p ∈ news, p.1 ≠ c → h'.get? p.1 = some p.2) → o'.data = .cell (some v) → Q () { s with heap := h' })
    (hk : sc.kind = .function) (hx : (envOfC qn sc L f cd).kindOf x = some .cell) : wpAny M A (storeName (envOfC qn sc L f cd) x v) Q E s := by
  have z := N _ hm
  refine wpAny_storeName_cell hk hx hc ⟨o, z.1, hd⟩ fun h' hv hs => ?_
  obtain ⟨o', ho', hd'⟩ := hv
  refine h h' o' ⟨F.ns.sameBut hs (Ne.symm z.2.1), fun b ob e => (hs.2 b (fun q => ?_)).trans (F.keep b ob e), F.above⟩ ho' (fun p hp hne => (hs.2 _ hne).trans (N p hp).1) hd'
  rw [q, z.2.2] at e; cases e
theorem store_key (F : Fr h₀ L s.heap m) (N : News h₀ L s.heap news) (hsub : ∀ p ∈ (L + 1 + 1, oN) :: (L + 1, oK) :: rest, p ∈ news) (dK : oK.data = .cell v₀) (hr : ∀ p ∈ rest, p.1 ≠ L + 1 ∧ p.1 ≠ L + 1 + 1)
    (h : ∀ h' o', Fr h₀ L h' m → News h₀ L h' ((L + 1 + 1, oN) :: (L + 1, o') :: rest) → o'.data = .cell (some v) → Q () { s with heap := h' })
    (hc : (envOfC qn sc L f cd).cells.lookup (Str.ofString "key") = some (L + 1)) (hk : sc.kind = .function) (hx : (envOfC qn sc L f cd).kindOf (Str.ofString "key") = some .cell) :
    wpAny M A (storeName (envOfC qn sc L f cd) (Str.ofString "key") v) Q E s := by
  refine cell_set F N (hsub _ (.tail _ (.head _))) dK hc (fun h' o' F' ho' kp hd' => h h' o' F' (fun p hp => ?_) hd') hk hx
  rcases List.mem_cons.mp hp with rfl | hp
  · have := hsub _ (.head _)
    exact ⟨kp _ this (Nat.ne_of_gt (Nat.lt_succ_self _)), (N _ this).2⟩
  rcases List.mem_cons.mp hp with rfl | hp
  · exact ⟨ho', (N _ (hsub _ (.tail _ (.head _)))).2⟩
  · have := hsub _ (.tail _ (.tail _ hp))
    exact ⟨kp _ this (hr p hp).1, (N _ this).2⟩
theorem store_name (F : Fr h₀ L s.heap m) (N : News h₀ L s.heap news) (hsub : ∀ p ∈ (L + 1 + 1, oN) :: (L + 1, oK) :: rest, p ∈ news) (dN : oN.data = .cell v₀) (hr : ∀ p ∈ rest, p.1 ≠ L + 1 ∧ p.1 ≠ L + 1 + 1)
    (h : ∀ h' o', Fr h₀ L h' m → News h₀ L h' ((L + 1 + 1, o') :: (L + 1, oK) :: rest) → o'.data = .cell (some v) → Q () { s with heap := h' })
    (hc : (envOfC qn sc L f cd).cells.lookup (Str.ofString "name") = some (L + 1 + 1)) (hk : sc.kind = .function) (hx : (envOfC qn sc L f cd).kindOf (Str.ofString "name") = some .cell) :
    wpAny M A (storeName (envOfC qn sc L f cd) (Str.ofString "name") v) Q E s := by
  refine cell_set F N (hsub _ (.head _)) dN hc (fun h' o' F' ho' kp hd' => h h' o' F' (fun p hp => ?_) hd') hk hx
  rcases List.mem_cons.mp hp with rfl | hp
  · exact ⟨ho', (N _ (hsub _ (.head _))).2⟩
  rcases List.mem_cons.mp hp with rfl | hp
  · have := hsub _ (.tail _ (.head _))
    exact ⟨kp _ this (Nat.ne_of_lt (Nat.lt_succ_self _)), (N _ this).2⟩
  · have := hsub _ (.tail _ (.tail _ hp))
    exact ⟨kp _ this (hr p hp).2, (N _ this).2⟩
end

theorem execs_append_at {M : Model} {E : Value → Shared → Prop} {env : Env} {Q : Flow → Shared → Prop} {r : List Stmt} {Γ : Ctx} : ∀ {l : List Stmt} {p : Pos} {s : Shared},
    Sem.wp M Γ (execs l env) (fun f p' s' => match f with | .next => Sem.wp M Γ (execs r env) (fun f _ s => Q f s) (fun e _ s => E e s) p' s' | f => Q f s') (fun e _ s => E e s) p s → Sem.wp M Γ (execs (l ++ r) env) (fun f _ s => Q f s) (fun e _ s => E e s) p s
  | [], p, s, h => h
  | st :: l, p, s, h => by
    show Sem.wp M Γ (execs (st :: (l ++ r)) env) _ _ _ _
    rw [execs_cons, Sem.wp_bind'] at h ⊢
    refine Sem.wp_mono M Γ _ (fun f p' s' h' => ?_) (fun _ _ _ h' => h') _ _ h
    cases f with
    | next => exact execs_append_at (l := l) h'
    | _ => exact h'
/-- a list of statements in two pieces -/
theorem execs_append {M : Model} {A : Around} {E : Value → Shared → Prop} {env : Env} {Q : Flow → Shared → Prop} {l r : List Stmt} {s : Shared}
    (h : wpAny M A (execs l env) (fun f s' => match f with | .next => wpAny M A (execs r env) Q E s' | f => Q f s') E s) : wpAny M A (execs (l ++ r) env) Q E s := by
  intro Γ p hΓ
  refine execs_append_at (Sem.wp_mono M Γ _ (fun f p' s' h' => ?_) (fun _ _ _ h' => h') _ _ (h Γ p hΓ))
  cases f with
  | next => exact h' Γ p' hΓ
  | _ => exact h'
end Mine

-- part M1
namespace Mine
theorem walk_off_M1 : True := by w_top off; trivial
theorem fillM1 : (fun w : World => Mine.hd.heap_39 w.params) = (fun w => Mine.hd.heap_39 w.params) ∧ Challenge.rw_bt5022_01 = Challenge.rw_bt5022_01 := by k_fill; exact ⟨rfl, rfl⟩
set_option hygiene false in
local macro_rules | `(tactic| walk_at "call ref") => `(tactic| (refine id_L V (by assumption) (by assumption) ?_; intro b tb hI tkI FI NI))
set_option hygiene false in
local macro_rules | `(tactic| walk_at "subscriptTail") => `(tactic| (k_dflt (
   (refine' item_listL (l := ws) S.nu (Int.natCast_nonneg _) ?b1 hix ?_ ?b2 ?b3; (case b1 => omega); (case b2 => with_unfolding_all rfl); (case b3 => intro r; with_unfolding_all rfl)))))
set_option hygiene false in
local macro_rules | `(tactic| walk_at "storeName") => `(tactic| (k_dflt (first
  | (with_reducible show wpAny _ _ (storeName _ (Str.ofString "key") _) _ _ _; refine' store_key (rest := (xT, oT) :: (xB, oB) :: fz) (by assumption) (by assumption) ?sub dK hr ?_ rfl rfl rfl; (case sub => exact fun p hp => hp); intro hK oK' FK NK dK')
  | (with_reducible show wpAny _ _ (storeName _ (Str.ofString "name") _) _ _ _; refine' store_name (rest := (xT, oT) :: (xB, oB) :: fz) (by assumption) (by assumption) ?sub dN hr ?_ rfl rfl rfl; (case sub => exact fun p hp => hp); intro hN oN' FN NN dN'))))

section
variable {w : World} {A₀ : Around} {E : Value → Shared → Prop} {s : Shared} {h₀ : Heap} {L I f : Addr} {oI : Obj} {xT dT xB dB aN aP aO : Addr} {ws : List Value} {pT : List (Int × Int)} {pB : List (List UInt8 × Int)} {cK cN : Option Value} {m : Str → Option Value} {cd : Value}
theorem partA {sc : Scope} (hsc : lawScope = sc) {st0 st1 st2 st3 st4 : Stmt} (h0 : loopBody[0]? = some st0) (h1 : loopBody[1]? = some st1) (h2 : loopBody[2]? = some st2) (h3 : loopBody[3]? = some st3) (h4 : loopBody[4]? = some st4)
    (V : LawEnv w A₀ h₀ (envOfC (Str.ofString "law") sc L f cd) L) {i : Nat} {ti tn : Tok} {n : Int} (S : LSt w h₀ L I oI xT dT xB dB aN aP aO ws pT pB cK cN [(Str.ofString "step", .int i ti)] s.heap m)
    (hn : ws[i]? = some (.int n tn)) (hlen : i < 63) {Q : Flow → Shared → Prop}
    (h : ∀ h' tk m' (k v : Int) (b : Array UInt8) (t1 t2 t3 t4 t5 t6 : Tok), LSt w h₀ L I oI xT dT xB dB aN aP aO ws pT pB (some (.int k t1)) (some (.bytes b t2)) [(Str.ofString "step", .int i t3), (Str.ofString "number", .int n t4), (Str.ofString "kept", .int (if n < 0 then -n else n) t5), (Str.ofString "value", .int v t6)] h' m' → Q .next { s with heap := h', toks := tk }) :
    wpAny (model Pr w) (A₀.deeper (envOfC (Str.ofString "law") sc L f cd)) (execs [st0, st1, st2, st3, st4] (envOfC (Str.ofString "law") sc L f cd)) Q E s := by
  conv at hsc => lhs; whnf
  conv at h0 => lhs; whnf
  conv at h1 => lhs; whnf
  conv at h2 => lhs; whnf
  conv at h3 => lhs; whnf
  conv at h4 => lhs; whnf
  cases h0; cases h1; cases h2; cases h3; cases h4; subst hsc
  have KX := V.Y.K
  obtain ⟨mg, mb, mean, T⟩ := V.Y.T
  have hix : ws[(i : Int).toNat]? = some (.int n tn) := by simpa using hn
  obtain ⟨oK, oN, oT, oB, fz, N, dK, dN, hoT, hoB, hr, hxz, hsn⟩ := S.news
  have F := S.frm
  k_steps
  all_goals (
    rename Fr _ _ _ _ => Fz
    rename News _ _ _ _ => Nz
    exact h _ _ _ _ _ _ _ _ _ _ _ _ (S.same Fz (snap_keeps S.F Fz.keep Nz (fun p hp => .tail _ (.tail _ (.tail _ (.tail _ (hsn p hp)))))) ⟨_, Nz.get (.tail _ (.head _)), dK'⟩ ⟨_, Nz.get (.head _), dN'⟩
      (fun o e => by rw [hoT] at e; cases e; exact Nz.get (.tail _ (.tail _ (.head _)))) (fun o e => by rw [hoB] at e; cases e; exact Nz.get (.tail _ (.tail _ (.tail _ (.head _)))))
      ⟨rfl, rfl, rfl, rfl, rfl, rfl, rfl, rfl, rfl, trivial⟩))
end
end Mine

-- part M2
namespace Mine
theorem walk_off_M2 : True := by w_top off; trivial
theorem fillM2 : (fun w : World => Mine.hd.heap_39 w.params) = (fun w => Mine.hd.heap_39 w.params) ∧ Challenge.rw_bt5022_01 = Challenge.rw_bt5022_01 := by k_fill; exact ⟨rfl, rfl⟩
theorem int_is {w : World} (k : Int) (t : Tok) : (intOrd Pr w).knd.is k (.int k t) = true := beq_self_eq_true k
theorem bytes_is {w : World} (b : Array UInt8) (t : Tok) : (bytesOrd Pr w).knd.is b.toList (.bytes b t) = true := by
  show PySem.W.isBytes b.toList (.bytes b t) = true
  simp [PySem.W.isBytes]
section
variable {w : World} {A₀ : Around} {E : Value → Shared → Prop} {s : Shared} {h₀ h : Heap} {L I f : Addr} {oI oT oB : Obj} {xT dT xB dB aN aP aO : Addr} {ws : List Value} {pT : List (Int × Int)} {pB : List (List UInt8 × Int)} {cK cN : Option Value} {ex : List (Str × Value)} {m m' : Str → Option Value} {news fz : List (Addr × Obj)} {env : Env} {Q : Value → Shared → Prop}
theorem LSt.nowK (S : LSt w h₀ L I oI xT dT xB dB aN aP aO ws pT pB cK cN ex h m) (hsn : ∀ p ∈ snap h₀ h (Ex L xT xB), p ∈ fz) (F : Fr h₀ L s.heap m') (N : News h₀ L s.heap news) (hs : ∀ p ∈ (xT, oT) :: (xB, oB) :: fz, p ∈ news) :
    ∀ b o, b ∉ Ex L xT xB → h.get? b = some o → s.heap.get? b = some o := snap_keeps S.F F.keep N fun p hp => hs p (.tail _ (.tail _ (hsn p hp)))
theorem LSt.nowT (S : LSt w h₀ L I oI xT dT xB dB aN aP aO ws pT pB cK cN ex h m) (hsn : ∀ p ∈ snap h₀ h (Ex L xT xB), p ∈ fz) (hoT : h.get? xT = some oT) (F : Fr h₀ L s.heap m') (N : News h₀ L s.heap news) (hs : ∀ p ∈ (xT, oT) :: (xB, oB) :: fz, p ∈ news) :
    TabD (intOrd Pr w) s.heap xT dT pT := S.treeT (S.nowK hsn F N hs) fun o e => by rw [hoT] at e; cases e; exact N.get (hs _ (.head _))
theorem LSt.nowB (S : LSt w h₀ L I oI xT dT xB dB aN aP aO ws pT pB cK cN ex h m) (hsn : ∀ p ∈ snap h₀ h (Ex L xT xB), p ∈ fz) (hoB : h.get? xB = some oB) (F : Fr h₀ L s.heap m') (N : News h₀ L s.heap news) (hs : ∀ p ∈ (xT, oT) :: (xB, oB) :: fz, p ∈ news) :
    TabD (bytesOrd Pr w) s.heap xB dB pB := S.treeB (S.nowK hsn F N hs) fun o e => by rw [hoB] at e; cases e; exact N.get (hs _ (.tail _ (.head _)))
theorem whole_T (V : LawEnv w A₀ h₀ env L) (S : LSt w h₀ L I oI xT dT xB dB aN aP aO ws pT pB cK cN ex h m) (hsn : ∀ p ∈ snap h₀ h (Ex L xT xB), p ∈ fz) (hoT : h.get? xT = some oT) (F : Fr h₀ L s.heap m') (N : News h₀ L s.heap news) (hs : ∀ p ∈ (xT, oT) :: (xB, oB) :: fz, p ∈ news)
    (hq : ∀ h' tk, Fr h₀ L h' m' → News h₀ L h' news → Q (.bool true) { s with heap := h', toks := tk }) :
    wpAny (model Pr w) (A₀.deeper env) (call (.ref 79) [.ref xT, .ref aP]) Q E s :=
  whole_L (O := intOrd Pr w) V F N (S.nowT hsn hoT F N hs).tab (S.plT (S.nowK hsn F N hs)) hq
theorem whole_B (V : LawEnv w A₀ h₀ env L) (S : LSt w h₀ L I oI xT dT xB dB aN aP aO ws pT pB cK cN ex h m) (hsn : ∀ p ∈ snap h₀ h (Ex L xT xB), p ∈ fz) (hoB : h.get? xB = some oB) (F : Fr h₀ L s.heap m') (N : News h₀ L s.heap news) (hs : ∀ p ∈ (xT, oT) :: (xB, oB) :: fz, p ∈ news)
    (hq : ∀ h' tk, Fr h₀ L h' m' → News h₀ L h' news → Q (.bool true) { s with heap := h', toks := tk }) :
    wpAny (model Pr w) (A₀.deeper env) (call (.ref 79) [.ref xB, .ref aO]) Q E s :=
  whole_L (O := bytesOrd Pr w) V F N (S.nowB hsn hoB F N hs).tab (S.ocT (S.nowK hsn F N hs)) hq
theorem around_T {k k1 k2 : Int} {t t1 t2 : Tok} (V : LawEnv w A₀ h₀ env L) (S : LSt w h₀ L I oI xT dT xB dB aN aP aO ws pT pB cK cN ex h m) (hsn : ∀ p ∈ snap h₀ h (Ex L xT xB), p ∈ fz) (hoT : h.get? xT = some oT) (F : Fr h₀ L s.heap m') (N : News h₀ L s.heap news) (hs : ∀ p ∈ (xT, oT) :: (xB, oB) :: fz, p ∈ news)
    (hq : ∀ h' tk, Fr h₀ L h' m' → News h₀ L h' news → Q (.bool true) { s with heap := h', toks := tk }) :
    wpAny (model Pr w) (A₀.deeper env) (call (.ref 84) [.ref xT, .ref aP, .int k t, .int k1 t1, .int k2 t2]) Q E s :=
  around_L (O := intOrd Pr w) V F N (S.nowT hsn hoT F N hs).tab (S.plT (S.nowK hsn F N hs)) (int_is _ _) (int_is _ _) (int_is _ _) hq
theorem around_B {k k1 k2 : Array UInt8} {t t1 t2 : Tok} (V : LawEnv w A₀ h₀ env L) (S : LSt w h₀ L I oI xT dT xB dB aN aP aO ws pT pB cK cN ex h m) (hsn : ∀ p ∈ snap h₀ h (Ex L xT xB), p ∈ fz) (hoB : h.get? xB = some oB) (F : Fr h₀ L s.heap m') (N : News h₀ L s.heap news) (hs : ∀ p ∈ (xT, oT) :: (xB, oB) :: fz, p ∈ news)
    (hq : ∀ h' tk, Fr h₀ L h' m' → News h₀ L h' news → Q (.bool true) { s with heap := h', toks := tk }) :
    wpAny (model Pr w) (A₀.deeper env) (call (.ref 84) [.ref xB, .ref aO, .bytes k t, .bytes k1 t1, .bytes k2 t2]) Q E s :=
  around_L (O := bytesOrd Pr w) V F N (S.nowB hsn hoB F N hs).tab (S.ocT (S.nowK hsn F N hs)) (bytes_is _ _) (bytes_is _ _) (bytes_is _ _) hq
end
end Mine

-- part M3
namespace Mine
theorem walk_off_M3 : True := by w_top off; trivial
theorem fillM3 : (fun w : World => Mine.hd.heap_39 w.params) = (fun w => Mine.hd.heap_39 w.params) ∧ Challenge.rw_bt5022_01 = Challenge.rw_bt5022_01 := by k_fill; exact ⟨rfl, rfl⟩
set_option hygiene false in
local macro_rules | `(tactic| walk_at "call ref") => `(tactic| (k_dflt (first
  | (refine id_L V (by assumption) (by assumption) ?_; intro b tb hI tkI FI NI)
  | (refine whole_T V S hsn hoT (by assumption) (by assumption) (fun p hp => .tail _ (.tail _ hp)) ?_; intro h2 tk2 F2 N2)
  | (refine whole_B V S hsn hoB (by assumption) (by assumption) (fun p hp => .tail _ (.tail _ hp)) ?_; intro h2 tk2 F2 N2)
  | (refine around_T V S hsn hoT (by assumption) (by assumption) (fun p hp => .tail _ (.tail _ hp)) ?_; intro h2 tk2 F2 N2)
  | (refine around_B V S hsn hoB (by assumption) (by assumption) (fun p hp => .tail _ (.tail _ hp)) ?_; intro h2 tk2 F2 N2))))

section
variable {w : World} {A₀ : Around} {E : Value → Shared → Prop} {s : Shared} {h₀ : Heap} {L I f : Addr} {oI : Obj} {xT dT xB dB aN aP aO : Addr} {ws : List Value} {pT : List (Int × Int)} {pB : List (List UInt8 × Int)} {cK cN : Option Value} {m : Str → Option Value} {cd : Value}
theorem partD {sc : Scope} (hsc : lawScope = sc) {st7 st8 st9 : Stmt} (h7 : loopBody[7]? = some st7) (h8 : loopBody[8]? = some st8) (h9 : loopBody[9]? = some st9)
    (V : LawEnv w A₀ h₀ (envOfC (Str.ofString "law") sc L f cd) L) {i : Nat} {n k kk v : Int} {b : Array UInt8} {t1 t2 t3 t4 t5 t6 : Tok}
    (S : LSt w h₀ L I oI xT dT xB dB aN aP aO ws pT pB (some (.int k t1)) (some (.bytes b t2)) [(Str.ofString "step", .int i t3), (Str.ofString "number", .int n t4), (Str.ofString "kept", .int kk t5), (Str.ofString "value", .int v t6)] s.heap m)
    {Q : Flow → Shared → Prop}
    (h : ∀ h' tk m', LSt w h₀ L I oI xT dT xB dB aN aP aO ws pT pB (some (.int k t1)) (some (.bytes b t2)) [(Str.ofString "step", .int i t3)] h' m' → Q .next { s with heap := h', toks := tk }) :
    wpAny (model Pr w) (A₀.deeper (envOfC (Str.ofString "law") sc L f cd)) (execs [st7, st8, st9] (envOfC (Str.ofString "law") sc L f cd)) Q E s := by
  conv at hsc => lhs; whnf
  conv at h7 => lhs; whnf
  conv at h8 => lhs; whnf
  conv at h9 => lhs; whnf
  cases h7; cases h8; cases h9; subst hsc
  have KX := V.Y.K
  obtain ⟨mg, mb, mean, T⟩ := V.Y.T
  obtain ⟨oK, oN, oT, oB, fz, N, dK, dN, hoT, hoB, hr, hxz, hsn⟩ := S.news
  have F := S.frm
  k_steps
  all_goals (
    rename Fr _ _ _ _ => Fz
    rename News _ _ _ _ => Nz
    exact h _ _ _ (S.same Fz (snap_keeps S.F Fz.keep Nz (fun p hp => .tail _ (.tail _ (.tail _ (.tail _ (hsn p hp)))))) ⟨_, Nz.get (.tail _ (.head _)), dK⟩ ⟨_, Nz.get (.head _), dN⟩
      (fun o e => by rw [hoT] at e; cases e; exact Nz.get (.tail _ (.tail _ (.head _)))) (fun o e => by rw [hoB] at e; cases e; exact Nz.get (.tail _ (.tail _ (.tail _ (.head _)))))
      ⟨rfl, rfl, rfl, rfl, rfl, rfl, trivial⟩))
end
end Mine

-- part M4
namespace Mine
theorem walk_off_M4 : True := by w_top off; trivial
theorem fillM4 : (fun w : World => Mine.hd.heap_39 w.params) = (fun w => Mine.hd.heap_39 w.params) ∧ Challenge.rw_bt5022_01 = Challenge.rw_bt5022_01 := by k_fill; exact ⟨rfl, rfl⟩
section
variable {w : World} {K : Type} [DecidableEq K] {O : KOrd Pr w K} {h : Heap} {ys : List Value} {l : List (K × Int)}
theorem PairsIn.one {q : K × Int} (e : l = [q]) (x : PairsIn O h ys l) : ∃ t kv tt, ys = [Value.ref t] ∧ IsTup h t [kv, .int q.2 tt].toArray := by
  subst e
  cases x with
  | cons r x =>
    cases x
    obtain ⟨t, kv, tt, rfl, it, _⟩ := r
    exact ⟨t, kv, tt, rfl, it⟩
theorem PairsIn.none (e : l = []) (x : PairsIn O h ys l) : ys = [] := by
  subst e; exact All2.nil_right x
end

section
variable {w : World} {A : Around} {E : Value → Shared → Prop} {s : Shared} {K : Type} [DecidableEq K] {O : KOrd Pr w K} {h₀ : Heap} {L x dx : Addr} {ps : List (K × Int)} {m : Str → Option Value} {news : List (Addr × Obj)} {key : Value} {k : K} {v0 v : Int} {tv : Tok} {oX : Obj}
theorem sameFr {h' : Heap} (F : Fr h₀ L s.heap m) (N : News h₀ L s.heap news) (hm : (x, oX) ∈ news) (hs : Heap.SameBut x s.heap h') : Fr h₀ L h' m := by
  have z := N _ hm
  refine ⟨F.ns.sameBut hs (Ne.symm z.2.1), fun b ob e => (hs.2 b (fun q => ?_)).trans (F.keep b ob e), F.above⟩
  rw [q, z.2.2] at e; cases e
theorem tab_pop {Q : Value → Shared → Prop} (X : (Mine.hd.heap_39 w.params).In s.heap) (F : Fr h₀ L s.heap m) (N : News h₀ L s.heap news) (hm : (x, oX) ∈ news) (t : TabD O s.heap x dx ps) (hp : (k, v0) ∈ ps) (hkey : O.knd.is k key = true)
    (h : ∀ es' n' kvs' h' tt, Fr h₀ L h' m → h'.get? x = some (treeObj dx es' n') → Ents O.knd es' kvs' → kvs'.Perm (ps.filter fun p => decide (p.1 ≠ k)) → (∀ p ∈ news, p.1 ≠ x → h'.get? p.1 = some p.2) → Q (.int v0 tt) { s with heap := h', toks := s.toks + 1 }) :
    wpAny (model Pr w) A (call (.builtin "dict.pop") [.ref x, key]) Q E s := by
  obtain ⟨es, n, mm, kvs, hx, hdx, hen, hperm⟩ := t.at_
  obtain ⟨l1, l2, rfl, hn⟩ := t.tab.split hperm hp
  refine pop_hit (p := (k, v0)) X hx hen hn hkey (O.part _ _ hkey) (by have := hperm.length_eq; have := t.short; omega) fun es' n' h' tt hx' hen' hs => ?_
  exact h es' n' _ h' tt (sameFr F N hm hs) hx' hen' (pop_perm t.sorted hperm) fun p hp hne => (hs.2 _ hne).trans (N p hp).1
theorem tab_set {Q : Unit → Shared → Prop} (X : (Mine.hd.heap_39 w.params).In s.heap) (F : Fr h₀ L s.heap m) (N : News h₀ L s.heap news) (hm : (x, oX) ∈ news) (t : TabD O s.heap x dx ps) (hkey : O.knd.is k key = true)
    (h : ∀ es' n' kvs' h', Fr h₀ L h' m → h'.get? x = some (treeObj dx es' n') → Ents O.knd es' kvs' → kvs'.Perm (put O k v ps) → (∀ p ∈ news, p.1 ≠ x → h'.get? p.1 = some p.2) → Q () { s with heap := h', toks := s.toks + 1 }) :
    wpAny (model Pr w) A (setItem (.ref x) key (.int v tv)) Q E s := by
  obtain ⟨es, n, mm, kvs, hx, hdx, hen, hperm⟩ := t.at_
  refine setItem_sub X hx ?_
  rcases found_of (k := k) t.sorted with ⟨v0, hp, _⟩ | ⟨hn, _⟩
  · obtain ⟨l1, l2, rfl, hn⟩ := t.tab.split hperm hp
    refine dictSet_hit hx hen hn hkey fun es' n' h' hx' hen' hs => ?_
    exact h es' n' _ h' (sameFr F N hm hs) hx' hen' (set_hit t.sorted hperm) fun p hp hne => (hs.2 _ hne).trans (N p hp).1
  · refine dictSet_new hx hen (fun q hq => hn q (hperm.mem_iff.mp hq)) hkey (by have := hperm.length_eq; have := t.short; omega) fun es' n' h' hx' hen' hs => ?_
    exact h es' n' _ h' (sameFr F N hm hs) hx' hen' (set_new hperm hn) fun p hp hne => (hs.2 _ hne).trans (N p hp).1
end

section
variable {h₀ h h' : Heap} {L xT xB : Addr} {oK oN oT oB oT' oB' : Obj} {fz own news : List (Addr × Obj)}
theorem News.reT (N : News h₀ L h news) (hs : ∀ p ∈ own ++ (L + 1 + 1, oN) :: (L + 1, oK) :: (xT, oT) :: (xB, oB) :: fz, p ∈ news) (hown : ∀ p ∈ own, p.1 ≠ xT) (hr : ∀ p ∈ (xT, oT) :: (xB, oB) :: fz, p.1 ≠ L + 1 ∧ p.1 ≠ L + 1 + 1)
    (hxz : ∀ p ∈ fz, p.1 ≠ xT ∧ p.1 ≠ xB) (hne : xT ≠ xB) (ho : h'.get? xT = some oT') (kp : ∀ p ∈ news, p.1 ≠ xT → h'.get? p.1 = some p.2) :
    News h₀ L h' (own ++ (L + 1 + 1, oN) :: (L + 1, oK) :: (xT, oT') :: (xB, oB) :: fz) := by
  have go : ∀ p, p ∈ news → p.1 ≠ xT → h'.get? p.1 = some p.2 ∧ p.1 ≠ L ∧ h₀.get? p.1 = none := fun p hp hn => ⟨kp p hp hn, (N p hp).2⟩
  have hT := hr _ (.head _)
  intro p hp
  rcases List.mem_append.mp hp with hp | hp
  · exact go p (hs p (List.mem_append_left _ hp)) (hown p hp)
  have hs' : ∀ p ∈ (L + 1 + 1, oN) :: (L + 1, oK) :: (xT, oT) :: (xB, oB) :: fz, p ∈ news := fun p hp => hs p (List.mem_append_right _ hp)
  rcases List.mem_cons.mp hp with rfl | hp
  · exact go _ (hs' _ (.head _)) (Ne.symm hT.2)
  rcases List.mem_cons.mp hp with rfl | hp
  · exact go _ (hs' _ (.tail _ (.head _))) (Ne.symm hT.1)
  rcases List.mem_cons.mp hp with rfl | hp
  · exact ⟨ho, (N _ (hs' _ (.tail _ (.tail _ (.head _))))).2⟩
  rcases List.mem_cons.mp hp with rfl | hp
  · exact go _ (hs' _ (.tail _ (.tail _ (.tail _ (.head _))))) (Ne.symm hne)
  · exact go _ (hs' _ (.tail _ (.tail _ (.tail _ (.tail _ hp))))) (hxz p hp).1
theorem News.reB (N : News h₀ L h news) (hs : ∀ p ∈ own ++ (L + 1 + 1, oN) :: (L + 1, oK) :: (xT, oT) :: (xB, oB) :: fz, p ∈ news) (hown : ∀ p ∈ own, p.1 ≠ xB) (hr : ∀ p ∈ (xT, oT) :: (xB, oB) :: fz, p.1 ≠ L + 1 ∧ p.1 ≠ L + 1 + 1)
    (hxz : ∀ p ∈ fz, p.1 ≠ xT ∧ p.1 ≠ xB) (hne : xT ≠ xB) (ho : h'.get? xB = some oB') (kp : ∀ p ∈ news, p.1 ≠ xB → h'.get? p.1 = some p.2) :
    News h₀ L h' (own ++ (L + 1 + 1, oN) :: (L + 1, oK) :: (xT, oT) :: (xB, oB') :: fz) := by
  have go : ∀ p, p ∈ news → p.1 ≠ xB → h'.get? p.1 = some p.2 ∧ p.1 ≠ L ∧ h₀.get? p.1 = none := fun p hp hn => ⟨kp p hp hn, (N p hp).2⟩
  have hT := hr _ (.tail _ (.head _))
  intro p hp
  rcases List.mem_append.mp hp with hp | hp
  · exact go p (hs p (List.mem_append_left _ hp)) (hown p hp)
  have hs' : ∀ p ∈ (L + 1 + 1, oN) :: (L + 1, oK) :: (xT, oT) :: (xB, oB) :: fz, p ∈ news := fun p hp => hs p (List.mem_append_right _ hp)
  rcases List.mem_cons.mp hp with rfl | hp
  · exact go _ (hs' _ (.head _)) (Ne.symm hT.2)
  rcases List.mem_cons.mp hp with rfl | hp
  · exact go _ (hs' _ (.tail _ (.head _))) (Ne.symm hT.1)
  rcases List.mem_cons.mp hp with rfl | hp
  · exact go _ (hs' _ (.tail _ (.tail _ (.head _)))) hne
  rcases List.mem_cons.mp hp with rfl | hp
  · exact ⟨ho, (N _ (hs' _ (.tail _ (.tail _ (.tail _ (.head _)))))).2⟩
  · exact go _ (hs' _ (.tail _ (.tail _ (.tail _ (.tail _ hp))))) (hxz p hp).2
end

section
variable {w : World} {A₀ : Around} {E : Value → Shared → Prop} {s : Shared} {h₀ h : Heap} {L I f : Addr} {oI oT oB oK oN : Obj} {xT dT xB dB aN aP aO : Addr} {ws : List Value} {pT : List (Int × Int)} {pB : List (List UInt8 × Int)} {cK cN : Option Value} {ex : List (Str × Value)} {m m' : Str → Option Value} {news fz own : List (Addr × Obj)} {env : Env} {k v v0 : Int} {b : Array UInt8} {t tv : Tok}
theorem LSt.tup (S : LSt w h₀ L I oI xT dT xB dB aN aP aO ws pT pB cK cN ex h m) {h' : Heap} (kp : ∀ b o, b ∉ Ex L xT xB → h.get? b = some o → h'.get? b = some o) {a : Addr} {xs : Array Value} (x : IsTup h a xs) : IsTup h' a xs := by
  obtain ⟨o, e, c, n, d⟩ := x
  exact ⟨o, kp _ _ (S.seqs e d) e, c, n, d⟩
theorem pop_T {Q : Value → Shared → Prop} (V : LawEnv w A₀ h₀ env L) (S : LSt w h₀ L I oI xT dT xB dB aN aP aO ws pT pB cK cN ex h m) (hsn : ∀ p ∈ snap h₀ h (Ex L xT xB), p ∈ fz) (hoT : h.get? xT = some oT) (F : Fr h₀ L s.heap m') (N : News h₀ L s.heap news)
    (hs : ∀ p ∈ own ++ (L + 1 + 1, oN) :: (L + 1, oK) :: (xT, oT) :: (xB, oB) :: fz, p ∈ news) (hown : ∀ p ∈ own, p.1 ≠ xT) (hr : ∀ p ∈ (xT, oT) :: (xB, oB) :: fz, p.1 ≠ L + 1 ∧ p.1 ≠ L + 1 + 1) (hxz : ∀ p ∈ fz, p.1 ≠ xT ∧ p.1 ≠ xB) (hp : (k, v0) ∈ pT)
    (hq : ∀ es' n' kvs' h' tt, Fr h₀ L h' m' → News h₀ L h' (own ++ (L + 1 + 1, oN) :: (L + 1, oK) :: (xT, treeObj dT es' n') :: (xB, oB) :: fz) → Ents (intOrd Pr w).knd es' kvs' → kvs'.Perm (pT.filter fun p => decide (p.1 ≠ k)) → Q (.int v0 tt) { s with heap := h', toks := s.toks + 1 }) :
    wpAny (model Pr w) (A₀.deeper env) (call (.builtin "dict.pop") [.ref xT, .int k t]) Q E s :=
  tab_pop (O := intOrd Pr w) (V.Y.K.keeps F.keep) F N (hs _ (List.mem_append_right _ (.tail _ (.tail _ (.head _))))) (S.nowT hsn hoT F N fun p hp => hs p (List.mem_append_right _ (.tail _ (.tail _ hp)))) hp (int_is _ _)
    fun es' n' kvs' h' tt F' hx hen hpm kp => hq es' n' kvs' h' tt F' (News.reT N hs hown hr hxz S.lt.2.2.2.2 hx kp) hen hpm
theorem pop_B {k : List UInt8} {key : Value} {Q : Value → Shared → Prop} (V : LawEnv w A₀ h₀ env L) (S : LSt w h₀ L I oI xT dT xB dB aN aP aO ws pT pB cK cN ex h m) (hsn : ∀ p ∈ snap h₀ h (Ex L xT xB), p ∈ fz) (hoB : h.get? xB = some oB) (F : Fr h₀ L s.heap m') (N : News h₀ L s.heap news)
    (hs : ∀ p ∈ own ++ (L + 1 + 1, oN) :: (L + 1, oK) :: (xT, oT) :: (xB, oB) :: fz, p ∈ news) (hown : ∀ p ∈ own, p.1 ≠ xB) (hr : ∀ p ∈ (xT, oT) :: (xB, oB) :: fz, p.1 ≠ L + 1 ∧ p.1 ≠ L + 1 + 1) (hxz : ∀ p ∈ fz, p.1 ≠ xT ∧ p.1 ≠ xB) (hp : (k, v0) ∈ pB) (hkey : (bytesOrd Pr w).knd.is k key = true)
    (hq : ∀ es' n' kvs' h' tt, Fr h₀ L h' m' → News h₀ L h' (own ++ (L + 1 + 1, oN) :: (L + 1, oK) :: (xT, oT) :: (xB, treeObj dB es' n') :: fz) → Ents (bytesOrd Pr w).knd es' kvs' → kvs'.Perm (pB.filter fun p => decide (p.1 ≠ k)) → Q (.int v0 tt) { s with heap := h', toks := s.toks + 1 }) :
    wpAny (model Pr w) (A₀.deeper env) (call (.builtin "dict.pop") [.ref xB, key]) Q E s :=
  tab_pop (O := bytesOrd Pr w) (V.Y.K.keeps F.keep) F N (hs _ (List.mem_append_right _ (.tail _ (.tail _ (.tail _ (.head _)))))) (S.nowB hsn hoB F N fun p hp => hs p (List.mem_append_right _ (.tail _ (.tail _ hp)))) hp hkey
    fun es' n' kvs' h' tt F' hx hen hpm kp => hq es' n' kvs' h' tt F' (News.reB N hs hown hr hxz S.lt.2.2.2.2 hx kp) hen hpm
theorem set_T {A : Around} {Q : Unit → Shared → Prop} (KX : (Mine.hd.heap_39 w.params).In h₀) (S : LSt w h₀ L I oI xT dT xB dB aN aP aO ws pT pB cK cN ex h m) (hsn : ∀ p ∈ snap h₀ h (Ex L xT xB), p ∈ fz) (hoT : h.get? xT = some oT) (F : Fr h₀ L s.heap m') (N : News h₀ L s.heap news)
    (hs : ∀ p ∈ (L + 1 + 1, oN) :: (L + 1, oK) :: (xT, oT) :: (xB, oB) :: fz, p ∈ news) (hr : ∀ p ∈ (xT, oT) :: (xB, oB) :: fz, p.1 ≠ L + 1 ∧ p.1 ≠ L + 1 + 1) (hxz : ∀ p ∈ fz, p.1 ≠ xT ∧ p.1 ≠ xB)
    (hq : ∀ es' n' kvs' h', Fr h₀ L h' m' → News h₀ L h' ((L + 1 + 1, oN) :: (L + 1, oK) :: (xT, treeObj dT es' n') :: (xB, oB) :: fz) → Ents (intOrd Pr w).knd es' kvs' → kvs'.Perm (put (intOrd Pr w) k v pT) → Q () { s with heap := h', toks := s.toks + 1 }) :
    wpAny (model Pr w) A (setItem (.ref xT) (.int k t) (.int v tv)) Q E s :=
  tab_set (O := intOrd Pr w) (KX.keeps F.keep) F N (hs _ (.tail _ (.tail _ (.head _)))) (S.nowT hsn hoT F N fun p hp => hs p (.tail _ (.tail _ hp))) (int_is _ _)
    fun es' n' kvs' h' F' hx hen hpm kp => hq es' n' kvs' h' F' (News.reT (own := []) N hs (fun _ hp => nomatch hp) hr hxz S.lt.2.2.2.2 hx kp) hen hpm
theorem set_B {A : Around} {k : List UInt8} {key : Value} {Q : Unit → Shared → Prop} (KX : (Mine.hd.heap_39 w.params).In h₀) (S : LSt w h₀ L I oI xT dT xB dB aN aP aO ws pT pB cK cN ex h m) (hsn : ∀ p ∈ snap h₀ h (Ex L xT xB), p ∈ fz) (hoB : h.get? xB = some oB) (F : Fr h₀ L s.heap m') (N : News h₀ L s.heap news)
    (hs : ∀ p ∈ (L + 1 + 1, oN) :: (L + 1, oK) :: (xT, oT) :: (xB, oB) :: fz, p ∈ news) (hr : ∀ p ∈ (xT, oT) :: (xB, oB) :: fz, p.1 ≠ L + 1 ∧ p.1 ≠ L + 1 + 1) (hxz : ∀ p ∈ fz, p.1 ≠ xT ∧ p.1 ≠ xB) (hkey : (bytesOrd Pr w).knd.is k key = true)
    (hq : ∀ es' n' kvs' h', Fr h₀ L h' m' → News h₀ L h' ((L + 1 + 1, oN) :: (L + 1, oK) :: (xT, oT) :: (xB, treeObj dB es' n') :: fz) → Ents (bytesOrd Pr w).knd es' kvs' → kvs'.Perm (put (bytesOrd Pr w) k v pB) → Q () { s with heap := h', toks := s.toks + 1 }) :
    wpAny (model Pr w) A (setItem (.ref xB) key (.int v tv)) Q E s :=
  tab_set (O := bytesOrd Pr w) (KX.keeps F.keep) F N (hs _ (.tail _ (.tail _ (.tail _ (.head _))))) (S.nowB hsn hoB F N fun p hp => hs p (.tail _ (.tail _ hp))) hkey
    fun es' n' kvs' h' F' hx hen hpm kp => hq es' n' kvs' h' F' (News.reB (own := []) N hs (fun _ hp => nomatch hp) hr hxz S.lt.2.2.2.2 hx kp) hen hpm

section
variable {es' : List DictEntry} {n' : Nat}
theorem LSt.tabT (S : LSt w h₀ L I oI xT dT xB dB aN aP aO ws pT pB cK cN ex h m) {h' : Heap} {kvs' pT' : List (Int × Int)} (kp : ∀ b o, b ∉ Ex L xT xB → h.get? b = some o → h'.get? b = some o) (hx : h'.get? xT = some (treeObj dT es' n')) (hen : Ents (intOrd Pr w).knd es' kvs') (hpm : kvs'.Perm pT') (ha : Asc (intOrd Pr w) pT') (hl : pT'.length < 64) :
    TabD (intOrd Pr w) h' xT dT pT' := by
  obtain ⟨es, n, mm, kvs, _, hdx, _, _⟩ := S.tT.at_
  exact ⟨⟨es', n', mm, kvs', hx, kp _ _ S.dicts.1 hdx, hen, hpm⟩, ha, hl, S.tT.lo, S.tT.ne⟩
theorem LSt.tabB (S : LSt w h₀ L I oI xT dT xB dB aN aP aO ws pT pB cK cN ex h m) {h' : Heap} {kvs' pB' : List (List UInt8 × Int)} (kp : ∀ b o, b ∉ Ex L xT xB → h.get? b = some o → h'.get? b = some o) (hx : h'.get? xB = some (treeObj dB es' n')) (hen : Ents (bytesOrd Pr w).knd es' kvs') (hpm : kvs'.Perm pB') (ha : Asc (bytesOrd Pr w) pB') (hl : pB'.length < 64) :
    TabD (bytesOrd Pr w) h' xB dB pB' := by
  obtain ⟨es, n, mm, kvs, _, hdx, _, _⟩ := S.tB.at_
  exact ⟨⟨es', n', mm, kvs', hx, kp _ _ S.dicts.2 hdx, hen, hpm⟩, ha, hl, S.tB.lo, S.tB.ne⟩
end
theorem TabD.ne_dict {O : KOrd Pr w Int} {x dx : Addr} {ps : List (Int × Int)} (t : TabD O h x dx ps) (hL : L < dx) : ∀ dx' es n, h.get? x = some (treeObj dx' es n) → dx' ≠ L := by
  intro dx' es n e
  obtain ⟨es', n', mm, kvs, hx, _⟩ := t.at_
  rw [hx] at e
  cases e
  exact Nat.ne_of_gt hL
theorem TabD.ne_dictB {O : KOrd Pr w (List UInt8)} {x dx : Addr} {ps : List (List UInt8 × Int)} (t : TabD O h x dx ps) (hL : L < dx) : ∀ dx' es n, h.get? x = some (treeObj dx' es n) → dx' ≠ L := by
  intro dx' es n e
  obtain ⟨es', n', mm, kvs, hx, _⟩ := t.at_
  rw [hx] at e
  cases e
  exact Nat.ne_of_gt hL
theorem gone_T {Q : Value → Shared → Prop} {pT' : List (Int × Int)} {oX : Obj} (V : LawEnv w A₀ h₀ env L) (hL : L < dT) (F : Fr h₀ L s.heap m') (N : News h₀ L s.heap news) (hm : (xT, oX) ∈ news) (tT : TabD (intOrd Pr w) s.heap xT dT pT') (hnk : ∀ p ∈ pT', p.1 ≠ k)
    (hq : ∀ h' tk, Fr h₀ L h' m' → News h₀ L h' news → Q (.bool true) { s with heap := h', toks := tk }) : wpAny (model Pr w) (A₀.deeper env) (call (.ref 91) [.ref xT, .int k t]) Q E s :=
  gone_L (O := intOrd Pr w) V F N ⟨_, hm⟩ tT.tab (tT.ne_dict hL) (int_is _ _) hnk hq
theorem gone_B {k : List UInt8} {key : Value} {Q : Value → Shared → Prop} {pB' : List (List UInt8 × Int)} {oX : Obj} (V : LawEnv w A₀ h₀ env L) (hL : L < dB) (F : Fr h₀ L s.heap m') (N : News h₀ L s.heap news) (hm : (xB, oX) ∈ news) (tB : TabD (bytesOrd Pr w) s.heap xB dB pB') (hkey : (bytesOrd Pr w).knd.is k key = true) (hnk : ∀ p ∈ pB', p.1 ≠ k)
    (hq : ∀ h' tk, Fr h₀ L h' m' → News h₀ L h' news → Q (.bool true) { s with heap := h', toks := tk }) : wpAny (model Pr w) (A₀.deeper env) (call (.ref 91) [.ref xB, key]) Q E s :=
  gone_L (O := bytesOrd Pr w) V F N ⟨_, hm⟩ tB.tab (tB.ne_dictB hL) hkey hnk hq
end

section
variable {w : World} {A₀ : Around} {E : Value → Shared → Prop} {s : Shared} {K : Type} [DecidableEq K] {O : KOrd Pr w K} {h₀ : Heap} {env : Env} {L f : Addr} {m : Str → Option Value} {news : List (Addr × Obj)}
theorem put_N {Q : Value → Shared → Prop} {a : Addr} {ps : List (K × Int)} {vk : Value} {k : K} {v : Int} {tv : Tok} (V : LawEnv w A₀ h₀ env L) (F : Fr h₀ L s.heap m) (N : News h₀ L s.heap news)
    (ha : PrsAt O s.heap a ps) (hk : O.knd.is k vk = true)
    (h : ∀ r h' tk xs cc, Fr h₀ L h' m → News h₀ L h' ((r, lobj xs cc) :: news) → PairsIn O h' xs (put O k v ps) → Q (.ref r) { s with heap := h', toks := tk }) :
    wpAny (model Pr w) (A₀.deeper env) (call (.ref 64) [.ref a, vk, .int v tv]) Q E s :=
  law_put_ok (O := O) ((V.at F).ok.mono (by decide) (by decide)) ha hk fun r h' tk xs st hn ⟨cc, er⟩ hpi => h r h' tk xs cc ((ButSlots.of_stays st).fr F) (fun p hp => by
    rcases List.mem_cons.mp hp with rfl | hp
    · refine ⟨er, fun e => ?_, ?_⟩
      · obtain ⟨oL, _, _, hL, _⟩ := F.ns
        rw [← show r = L from e, hn] at hL; cases hL
      · cases z : h₀.get? r with
        | none => rfl
        | some o => have := F.keep _ _ z; rw [hn] at this; cases this
    · exact (ButSlots.of_stays (L := L) st).news N p hp) hpi
theorem store_L {cd : Value} {sc : Scope} {qn x : Str} {v : Value} {Q : Unit → Shared → Prop} {M : Model} {A : Around} (F : Fr h₀ L s.heap m) (N : News h₀ L s.heap news)
    (h : ∀ h', Fr h₀ L h' (fun y => if y = x then some v else m y) → News h₀ L h' news → (∀ b o xs n, o.data = .seq xs n → s.heap.get? b = some o → h'.get? b = some o) → Q () { s with heap := h', toks := s.toks + 1 })
    (hk : sc.kind = .function) (hx : (envOfC qn sc L f cd).kindOf x = some .local) : wpAny M A (storeName (envOfC qn sc L f cd) x v) Q E s :=
  wpAny_storeName_local hx F.ns (fun h' hn hs => h h' (F.set hn hs) (N.set hs) fun b o xs n hd e => (hs.2 b (by
    rintro rfl
    obtain ⟨oL, es, ep, hL, hLd, _⟩ := F.ns
    rw [hL] at e; cases e; rw [hLd] at hd; cases hd)).trans e) (by show (sc.kind == .class || (sc.kind == .module && L != mainGlobals)) = false; rw [hk]; rfl)
end
section
variable {w : World} {h₀ h g : Heap} {L I f : Addr} {oI oT oB : Obj} {xT dT xB dB aN aP aO aP' aO' : Addr} {ws : List Value} {pT pT' : List (Int × Int)} {pB pB' : List (List UInt8 × Int)} {cK cN cK' cN' : Option Value} {ex ex' : List (Str × Value)} {m m' : Str → Option Value} {news fz : List (Addr × Obj)}
theorem LSt.nowG (S : LSt w h₀ L I oI xT dT xB dB aN aP aO ws pT pB cK cN ex h m) (hsn : ∀ p ∈ snap h₀ h (Ex L xT xB), p ∈ fz) (F : Fr h₀ L g m') (N : News h₀ L g news) (hs : ∀ p ∈ fz, p ∈ news) :
    ∀ b o, b ∉ Ex L xT xB → h.get? b = some o → g.get? b = some o := snap_keeps S.F F.keep N fun p hp => hs p (hsn p hp)
theorem LSt.seqG (S : LSt w h₀ L I oI xT dT xB dB aN aP aO ws pT pB cK cN ex h m) (k : ∀ b o, b ∉ Ex L xT xB → h.get? b = some o → g.get? b = some o) : ∀ b o xs n, o.data = .seq xs n → h.get? b = some o → g.get? b = some o :=
  fun b o _ _ d e => k b o (S.seqs e d) e
theorem LSt.changeT (S : LSt w h₀ L I oI xT dT xB dB aN aP aO ws pT pB cK cN ex h m) (F' : Fr h₀ L g m') (k : ∀ b o, b ∉ Ex L xT xB → h.get? b = some o → g.get? b = some o)
    (ck : g.IsCell (L + 1) cK') (cn : g.IsCell (L + 1 + 1) cN') (tT : TabD (intOrd Pr w) g xT dT pT') (kB : ∀ o, h.get? xB = some o → g.get? xB = some o) (pl : PrsAt (intOrd Pr w) g aP' pT')
    (fm : Has m' ((Str.ofString "tree", .ref xT) :: (Str.ofString "bucket", .ref xB) :: (Str.ofString "plain", .ref aP') :: (Str.ofString "octets", .ref aO) :: (Str.ofString "numbers", .ref aN) :: ex')) :
    LSt w h₀ L I oI xT dT xB dB aN aP' aO ws pT' pB cK' cN' ex' g m' :=
  ⟨F', ck, cn, tT, S.treeB k kB, S.lt, pl, S.ocT k, S.nuT k, S.itT k, S.itd, fm⟩
theorem LSt.changeB (S : LSt w h₀ L I oI xT dT xB dB aN aP aO ws pT pB cK cN ex h m) (F' : Fr h₀ L g m') (k : ∀ b o, b ∉ Ex L xT xB → h.get? b = some o → g.get? b = some o)
    (ck : g.IsCell (L + 1) cK') (cn : g.IsCell (L + 1 + 1) cN') (tB : TabD (bytesOrd Pr w) g xB dB pB') (kT : ∀ o, h.get? xT = some o → g.get? xT = some o) (oc : PrsAt (bytesOrd Pr w) g aO' pB')
    (fm : Has m' ((Str.ofString "tree", .ref xT) :: (Str.ofString "bucket", .ref xB) :: (Str.ofString "plain", .ref aP) :: (Str.ofString "octets", .ref aO') :: (Str.ofString "numbers", .ref aN) :: ex')) :
    LSt w h₀ L I oI xT dT xB dB aN aP aO' ws pT pB' cK' cN' ex' g m' :=
  ⟨F', ck, cn, S.treeT k kT, tB, S.lt, S.plT k, oc, S.nuT k, S.itT k, S.itd, fm⟩
end
end Mine

-- part M5
namespace Mine
theorem walk_off_M5 : True := by w_top off; trivial
theorem fillM5 : (fun w : World => Mine.hd.heap_39 w.params) = (fun w => Mine.hd.heap_39 w.params) ∧ Challenge.rw_bt5022_01 = Challenge.rw_bt5022_01 := by k_fill; exact ⟨rfl, rfl⟩
set_option hygiene false in
local macro_rules | `(tactic| walk_at "exec Assign cons ListComp") => `(tactic| (k_dflt (first
  | ((with_reducible show wpAny _ _ (exec (Stmt.Assign [Expr.Name (Str.ofString "found") _] (Expr.ListComp _ _ _ _) _) _) _ _ _); refine' assign_found (O := (intOrd Pr w)) (g := s.heap) (l := aP) (c := L + 1) (vk := .int k t1) (k := k) (vs := vs) (ps := pT) ?q0 ?hl hpi hlv V.Y.hand ?gb (by assumption) (by assumption) ?hc (int_is _ _) ?g1 ?g2 ?g3 ?g4 ?g5 ?g6 ?g7 ?g8 ?g9 ?g10 ?g11 ?g12 ?g13 ?g14 ?_; (case q0 => exact S.seqG (S.nowG hsn (by assumption) (by assumption) (fun p hp => by repeat (first | exact hp | refine List.Mem.tail _ ?_)))); (case hl => exact ⟨cv, S.seqG (S.nowG hsn (by assumption) (by assumption) (fun p hp => by repeat (first | exact hp | refine List.Mem.tail _ ?_))) _ _ _ _ rfl hvs⟩); (case hc => exact ⟨_, News.get (by assumption) (by repeat (first | exact List.Mem.head _ | refine List.Mem.tail _ ?_)), dK⟩); (case gb => intro Q' hQ'; refine' nameX_L ?fa ?fb hQ'; (case fa => assumption); (case fb => rfl)); (case g1 => rfl); (case g2 => rfl); (case g3 => decide); (case g4 => rfl); (case g5 => decide); (case g6 => rfl); (case g7 => rfl); (case g8 => rfl); (case g9 => intro C; rfl); (case g10 => decide); (case g11 => intro C; rfl); (case g12 => rfl); (case g13 => decide); (case g14 => with_unfolding_all rfl); intro D hD tkD ys cc FD ND neD hpD hlD; (first | (have hX := PairsIn.one hfe hpD; obtain ⟨t0, kv0, tt0, rfl, ht0⟩ := hX) | (have hX := PairsIn.none hfn hpD; subst hX)))
  | ((with_reducible show wpAny _ _ (exec (Stmt.Assign [Expr.Name (Str.ofString "plain") _] (Expr.ListComp _ _ _ _) _) _) _ _ _); refine' assign_rest (O := (intOrd Pr w)) (g := s.heap) (l := aP) (c := L + 1) (vk := .int k t1) (k := k) (vs := vs) (ps := pT) ?q0 ?hl hpi hlv V.Y.hand ?gb (by assumption) (by assumption) ?hc (int_is _ _) ?g1 ?g2 ?g3 ?g4 ?g5 ?g6 ?g7 ?g8 ?g9 ?g10 ?g11 ?g12 ?g13 ?g14 ?_; (case q0 => exact S.seqG (S.nowG hsn (by assumption) (by assumption) (fun p hp => by repeat (first | exact hp | refine List.Mem.tail _ ?_)))); (case hl => exact ⟨cv, S.seqG (S.nowG hsn (by assumption) (by assumption) (fun p hp => by repeat (first | exact hp | refine List.Mem.tail _ ?_))) _ _ _ _ rfl hvs⟩); (case hc => exact ⟨_, News.get (by assumption) (by repeat (first | exact List.Mem.head _ | refine List.Mem.tail _ ?_)), dK⟩); (case gb => intro Q' hQ'; refine' nameX_L ?fa ?fb hQ'; (case fa => assumption); (case fb => rfl)); (case g1 => rfl); (case g2 => rfl); (case g3 => decide); (case g4 => rfl); (case g5 => decide); (case g6 => rfl); (case g7 => rfl); (case g8 => rfl); (case g9 => intro C; rfl); (case g10 => decide); (case g11 => intro C; rfl); (case g12 => rfl); (case g13 => decide); (case g14 => with_unfolding_all rfl); intro DR hDR tkDR yr cr FDR NDR neDR hpR hlR))))
set_option hygiene false in
local macro_rules | `(tactic| walk_at "compareOp NotEq ref ref") => `(tactic| (k_dflt (first
  | (refine' ne_nilN (vs := [Value.ref t0]) ?hl ?n1 ?m2 ?c2 ?d2 ?u (r := true) rfl ?_; (case hl => refine' News.isList (c1 := cc) ?na ?nb; (case na => assumption); (case nb => (repeat (first | exact List.Mem.head _ | refine List.Mem.tail _ ?_)))); (case n1 => assumption); (case m2 => (repeat (first | exact List.Mem.head _ | refine List.Mem.tail _ ?_))); (case c2 => rfl); (case d2 => rfl); (case u => exact Nat.lt_of_le_of_lt (Nat.add_le_add_right V.Y.units 3) (by decide)))
  | (refine' ne_nilN (vs := ([] : List Value)) ?hl ?n1 ?m2 ?c2 ?d2 ?u (r := false) rfl ?_; (case hl => refine' News.isList (c1 := cc) ?na ?nb; (case na => assumption); (case nb => (repeat (first | exact List.Mem.head _ | refine List.Mem.tail _ ?_)))); (case n1 => assumption); (case m2 => (repeat (first | exact List.Mem.head _ | refine List.Mem.tail _ ?_))); (case c2 => rfl); (case d2 => rfl); (case u => exact Nat.lt_of_le_of_lt (Nat.add_le_add_right V.Y.units 3) (by decide))))))
set_option hygiene false in
local macro_rules | `(tactic| walk_at "getMethod ref") => `(tactic| (k_dflt (refine meth_pop (O := (intOrd Pr w)) (KX.keeps (Fr.keep (by assumption))) (TabD.tab (S.nowT hsn hoT (by assumption) (by assumption) (oB := oB) (oT := oT) (fun p hp => by repeat (first | exact hp | refine List.Mem.tail _ ?_)))) ?_)))
set_option hygiene false in
local macro_rules | `(tactic| walk_at "call builtin:dict.pop") => `(tactic| (k_dflt (refine' pop_T (own := [(D, lobj [Value.ref t0] cc)]) (oK := oK) (oN := oN) (oT := oT) (oB := oB) (fz := fz) V S hsn hoT (by assumption) (by assumption) ?hs ?hown hr hxz hp ?_; (case hs => exact (fun p hp => by repeat (first | exact hp | refine List.Mem.tail _ ?_))); (case hown => exact fun p hp => (List.mem_singleton.mp hp) ▸ Ne.symm (neD (xT, oT) (.tail _ (.tail _ (.head _))))); intro es' n' kvs' hP tt FP NP henP hpmP; dsimp only [List.cons_append, List.nil_append] at NP)))
set_option hygiene false in
local macro_rules | `(tactic| walk_at "compareOp NotEq int int") => `(tactic| (refine ne_int_same rfl ?_))
set_option hygiene false in
local macro_rules | `(tactic| walk_at "subscriptTail") => `(tactic| (k_dflt (first
  | ((with_reducible show wpAny _ _ (subscriptTail _ (Expr.Constant (Const.int 0) _ _) _ _) _ _ _); refine' item_listL (l := [Value.ref t0]) ?hl (by decide) (by decide) rfl ?_ ?b2 ?b3; (case hl => refine' News.isList (c1 := cc) ?na ?nb; (case na => assumption); (case nb => (repeat (first | exact List.Mem.head _ | refine List.Mem.tail _ ?_)))); (case b2 => with_unfolding_all rfl); (case b3 => intro r; with_unfolding_all rfl))
  | ((with_reducible show wpAny _ _ (subscriptTail _ (Expr.Constant (Const.int 1) _ _) _ _) _ _ _); refine' item_tupleT (t := t0) (l := [kv0, .int v0 tt0]) (j := 1) ?ht ?b1 ?b2 ?b3 ?b4 ?_ ?b5; (case ht => exact S.tup (S.nowG hsn (by assumption) (by assumption) (fun p hp => by repeat (first | exact hp | refine List.Mem.tail _ ?_))) ht0); (case b1 => decide); (case b2 => decide); (case b3 => rfl); (case b4 => rfl); (case b5 => with_unfolding_all rfl)))))
set_option hygiene false in
local macro_rules | `(tactic| walk_at "call ref") => `(tactic| (k_dflt (first
  | (refine' gone_T (pT' := pT.filter fun p => decide (p.1 ≠ k)) V (Nat.lt_trans (Nat.lt_succ_of_lt (Nat.lt_succ_self L)) S.lt.2.1) (by assumption) (by assumption) ?m ?t ?nk ?_; (case m => (repeat (first | exact List.Mem.head _ | refine List.Mem.tail _ ?_))); (case t => exact S.tabT (S.nowG hsn (by assumption) (by assumption) (fun p hp => by repeat (first | exact hp | refine List.Mem.tail _ ?_))) (News.get (by assumption) (by repeat (first | exact List.Mem.head _ | refine List.Mem.tail _ ?_))) henP hpmP (filter_asc S.tT.sorted _) (Nat.lt_of_le_of_lt (List.length_filter_le _ _) S.tT.short)); (case nk => exact fun p hp => of_decide_eq_true (List.mem_filter.mp hp).2); intro hG tkG FG NG)
  | (refine' gone_T (pT' := pT) (oX := oT) V (Nat.lt_trans (Nat.lt_succ_of_lt (Nat.lt_succ_self L)) S.lt.2.1) (by assumption) (by assumption) ?m ?t hn0 ?_; (case m => (repeat (first | exact List.Mem.head _ | refine List.Mem.tail _ ?_))); (case t => exact S.nowT hsn hoT (by assumption) (by assumption) (oT := oT) (oB := oB) (fun p hp => by repeat (first | exact hp | refine List.Mem.tail _ ?_))); intro hG tkG FG NG)
  | (refine' put_N (O := (intOrd Pr w)) (ps := pT) V (by assumption) (by assumption) ?pa (int_is _ _) ?_; (case pa => exact S.plT (S.nowG hsn (by assumption) (by assumption) (fun p hp => by repeat (first | exact hp | refine List.Mem.tail _ ?_)))); intro r hU tkU xs cU FU NU hpU))))
set_option hygiene false in
local macro_rules | `(tactic| walk_at "storeName") => `(tactic| (k_dflt (((with_reducible show wpAny _ _ (storeName _ (Str.ofString "plain") _) _ _ _); refine' store_L (by assumption) (by assumption) ?_ rfl rfl; intro hS FS NS kS))))
set_option hygiene false in
local macro_rules | `(tactic| walk_at "setItem") => `(tactic| (k_dflt (refine' set_T KX S hsn hoT (by assumption) (by assumption) (oK := oK) (oN := oN) (oT := oT) (oB := oB) ?hs hr hxz ?_; (case hs => exact (fun p hp => by repeat (first | exact hp | refine List.Mem.tail _ ?_))); intro es' n' kvs' hP FP NP henP hpmP)))
section
variable {w : World} {A₀ : Around} {E : Value → Shared → Prop} {s : Shared} {h₀ : Heap} {L I f : Addr} {oI : Obj} {xT dT xB dB aN aP aO : Addr} {ws : List Value} {pT : List (Int × Int)} {pB : List (List UInt8 × Int)} {m : Str → Option Value} {cd : Value}
theorem partB {sc : Scope} (hsc : lawScope = sc) {st5 : Stmt} (h5 : loopBody[5]? = some st5)
    (V : LawEnv w A₀ h₀ (envOfC (Str.ofString "law") sc L f cd) L) {i : Nat} {n k kk v : Int} {b : Array UInt8} {t1 t2 t3 t4 t5 t6 : Tok}
    (S : LSt w h₀ L I oI xT dT xB dB aN aP aO ws pT pB (some (.int k t1)) (some (.bytes b t2)) [(Str.ofString "step", .int i t3), (Str.ofString "number", .int n t4), (Str.ofString "kept", .int kk t5), (Str.ofString "value", .int v t6)] s.heap m)
    (hlp : pT.length ≤ 62) {Q : Flow → Shared → Prop}
    (h : ∀ h' tk m' aP' pT', LSt w h₀ L I oI xT dT xB dB aN aP' aO ws pT' pB (some (.int k t1)) (some (.bytes b t2)) [(Str.ofString "step", .int i t3), (Str.ofString "number", .int n t4), (Str.ofString "kept", .int kk t5), (Str.ofString "value", .int v t6)] h' m' →
      pT'.length ≤ pT.length + 1 → (¬ (kk.fdiv 39).fmod 5 = 4 → pT' ≠ []) → Q .next { s with heap := h', toks := tk }) :
    wpAny (model Pr w) (A₀.deeper (envOfC (Str.ofString "law") sc L f cd)) (execs [st5] (envOfC (Str.ofString "law") sc L f cd)) Q E s := by
  conv at hsc => lhs; whnf
  conv at h5 => lhs; whnf
  cases h5; subst hsc
  have KX := V.Y.K
  obtain ⟨mg, mb, mean, T⟩ := V.Y.T
  obtain ⟨oK, oN, oT, oB, fz, N, dK, dN, hoT, hoB, hr, hxz, hsn⟩ := S.news
  have F := S.frm
  obtain ⟨vs, ⟨cv, hvs⟩, hpi, hlv⟩ := S.pl
  rcases found_of (k := k) S.tT.sorted with ⟨v0, hp, hfe⟩ | ⟨hn0, hfn⟩
  · k_steps
    · rename Fr _ _ _ _ => Fz
      rename News _ _ _ _ => Nz
      have kp := S.nowG hsn Fz Nz (fun p hp => by repeat (first | exact hp | refine List.Mem.tail _ ?_))
      exact h _ _ _ _ _ (S.changeT Fz kp ⟨_, Nz.get (by repeat (first | exact List.Mem.head _ | refine List.Mem.tail _ ?_)), dK⟩ ⟨_, Nz.get (by repeat (first | exact List.Mem.head _ | refine List.Mem.tail _ ?_)), dN⟩ (S.tabT kp (Nz.get (by repeat (first | exact List.Mem.head _ | refine List.Mem.tail _ ?_))) henP hpmP (filter_asc S.tT.sorted _) (Nat.lt_of_le_of_lt (List.length_filter_le _ _) S.tT.short)) (fun o e => by rw [hoB] at e; cases e; exact Nz.get (by repeat (first | exact List.Mem.head _ | refine List.Mem.tail _ ?_))) ⟨yr, ⟨cr, Nz.get (by repeat (first | exact List.Mem.head _ | refine List.Mem.tail _ ?_))⟩, hpR.moveS (S.seqG kp), hlR⟩ ⟨rfl, rfl, rfl, rfl, rfl, rfl, rfl, rfl, rfl, trivial⟩)
        (Nat.le_succ_of_le (List.length_filter_le _ _)) (fun hc => absurd (by assumption) hc)
    · rename Fr _ _ _ _ => Fz
      rename News _ _ _ _ => Nz
      have kp := S.nowG hsn Fz Nz (fun p hp => by repeat (first | exact hp | refine List.Mem.tail _ ?_))
      have hl1 := put_len (O := (intOrd Pr w)) (k := k) (v := v) pT
      exact h _ _ _ _ _ (S.changeT Fz kp ⟨_, Nz.get (by repeat (first | exact List.Mem.head _ | refine List.Mem.tail _ ?_)), dK⟩ ⟨_, Nz.get (by repeat (first | exact List.Mem.head _ | refine List.Mem.tail _ ?_)), dN⟩ (S.tabT kp (Nz.get (by repeat (first | exact List.Mem.head _ | refine List.Mem.tail _ ?_))) henP hpmP (put_asc S.tT.sorted) (by omega)) (fun o e => by rw [hoB] at e; cases e; exact Nz.get (by repeat (first | exact List.Mem.head _ | refine List.Mem.tail _ ?_))) ⟨xs, ⟨cU, Nz.get (by repeat (first | exact List.Mem.head _ | refine List.Mem.tail _ ?_))⟩, hpU.moveS kS, by rw [All2.length hpU]; omega⟩ ⟨rfl, rfl, rfl, rfl, rfl, rfl, rfl, rfl, rfl, trivial⟩)
        hl1 (fun _ e => by have := put_mem (O := intOrd Pr w) (k := k) (v := v) (ps := pT); rw [e] at this; cases this)
  · k_steps
    · rename Fr _ _ _ _ => Fz
      rename News _ _ _ _ => Nz
      have kp := S.nowG hsn Fz Nz (fun p hp => by repeat (first | exact hp | refine List.Mem.tail _ ?_))
      exact h _ _ _ _ _ (S.same Fz kp ⟨_, Nz.get (by repeat (first | exact List.Mem.head _ | refine List.Mem.tail _ ?_)), dK⟩ ⟨_, Nz.get (by repeat (first | exact List.Mem.head _ | refine List.Mem.tail _ ?_)), dN⟩ (fun o e => by rw [hoT] at e; cases e; exact Nz.get (by repeat (first | exact List.Mem.head _ | refine List.Mem.tail _ ?_))) (fun o e => by rw [hoB] at e; cases e; exact Nz.get (by repeat (first | exact List.Mem.head _ | refine List.Mem.tail _ ?_))) ⟨rfl, rfl, rfl, rfl, rfl, rfl, rfl, rfl, rfl, trivial⟩)
        (Nat.le_succ _) (fun hc => absurd (by assumption) hc)
    · rename Fr _ _ _ _ => Fz
      rename News _ _ _ _ => Nz
      have kp := S.nowG hsn Fz Nz (fun p hp => by repeat (first | exact hp | refine List.Mem.tail _ ?_))
      have hl1 := put_len (O := (intOrd Pr w)) (k := k) (v := v) pT
      exact h _ _ _ _ _ (S.changeT Fz kp ⟨_, Nz.get (by repeat (first | exact List.Mem.head _ | refine List.Mem.tail _ ?_)), dK⟩ ⟨_, Nz.get (by repeat (first | exact List.Mem.head _ | refine List.Mem.tail _ ?_)), dN⟩ (S.tabT kp (Nz.get (by repeat (first | exact List.Mem.head _ | refine List.Mem.tail _ ?_))) henP hpmP (put_asc S.tT.sorted) (by omega)) (fun o e => by rw [hoB] at e; cases e; exact Nz.get (by repeat (first | exact List.Mem.head _ | refine List.Mem.tail _ ?_))) ⟨xs, ⟨cU, Nz.get (by repeat (first | exact List.Mem.head _ | refine List.Mem.tail _ ?_))⟩, hpU.moveS kS, by rw [All2.length hpU]; omega⟩ ⟨rfl, rfl, rfl, rfl, rfl, rfl, rfl, rfl, rfl, trivial⟩)
        hl1 (fun _ e => by have := put_mem (O := intOrd Pr w) (k := k) (v := v) (ps := pT); rw [e] at this; cases this)
end
end Mine

-- part M6
namespace Mine
theorem walk_off_M6 : True := by w_top off; trivial
local macro_rules | `(tactic| walk_at "nothing here") => `(tactic| fail)
theorem fillM6 : (fun w : World => Mine.hd.heap_39 w.params) = (fun w => Mine.hd.heap_39 w.params) ∧ Challenge.rw_bt5022_01 = Challenge.rw_bt5022_01 := by k_fill; exact ⟨rfl, rfl⟩
set_option hygiene false in
local macro_rules | `(tactic| walk_at "exec Assign cons ListComp") => `(tactic| (k_dflt (first
  | ((with_reducible show wpAny _ _ (exec (Stmt.Assign [Expr.Name (Str.ofString "found") _] (Expr.ListComp _ _ _ _) _) _) _ _ _); refine' assign_found (O := (bytesOrd Pr w)) (g := s.heap) (l := aO) (c := L + 1 + 1) (vk := .bytes b t2) (k := b.toList) (vs := vs) (ps := pB) ?q0 ?hl hpi hlv V.Y.hand ?gb (by assumption) (by assumption) ?hc (bytes_is _ _) ?g1 ?g2 ?g3 ?g4 ?g5 ?g6 ?g7 ?g8 ?g9 ?g10 ?g11 ?g12 ?g13 ?g14 ?_; (case q0 => exact S.seqG (S.nowG hsn (by assumption) (by assumption) (fun p hp => by repeat (first | exact hp | refine List.Mem.tail _ ?_)))); (case hl => exact ⟨cv, S.seqG (S.nowG hsn (by assumption) (by assumption) (fun p hp => by repeat (first | exact hp | refine List.Mem.tail _ ?_))) _ _ _ _ rfl hvs⟩); (case hc => exact ⟨_, News.get (by assumption) (by repeat (first | exact List.Mem.head _ | refine List.Mem.tail _ ?_)), dN⟩); (case gb => intro Q' hQ'; refine' nameX_L ?fa ?fb hQ'; (case fa => assumption); (case fb => rfl)); (case g1 => rfl); (case g2 => rfl); (case g3 => decide); (case g4 => rfl); (case g5 => decide); (case g6 => rfl); (case g7 => rfl); (case g8 => rfl); (case g9 => intro C; rfl); (case g10 => decide); (case g11 => intro C; rfl); (case g12 => rfl); (case g13 => decide); (case g14 => with_unfolding_all rfl); intro D hD tkD ys cc FD ND neD hpD hlD; (first | (have hX := PairsIn.one hfe hpD; obtain ⟨t0, kv0, tt0, rfl, ht0⟩ := hX) | (have hX := PairsIn.none hfn hpD; subst hX)))
  | ((with_reducible show wpAny _ _ (exec (Stmt.Assign [Expr.Name (Str.ofString "octets") _] (Expr.ListComp _ _ _ _) _) _) _ _ _); refine' assign_rest (O := (bytesOrd Pr w)) (g := s.heap) (l := aO) (c := L + 1 + 1) (vk := .bytes b t2) (k := b.toList) (vs := vs) (ps := pB) ?q0 ?hl hpi hlv V.Y.hand ?gb (by assumption) (by assumption) ?hc (bytes_is _ _) ?g1 ?g2 ?g3 ?g4 ?g5 ?g6 ?g7 ?g8 ?g9 ?g10 ?g11 ?g12 ?g13 ?g14 ?_; (case q0 => exact S.seqG (S.nowG hsn (by assumption) (by assumption) (fun p hp => by repeat (first | exact hp | refine List.Mem.tail _ ?_)))); (case hl => exact ⟨cv, S.seqG (S.nowG hsn (by assumption) (by assumption) (fun p hp => by repeat (first | exact hp | refine List.Mem.tail _ ?_))) _ _ _ _ rfl hvs⟩); (case hc => exact ⟨_, News.get (by assumption) (by repeat (first | exact List.Mem.head _ | refine List.Mem.tail _ ?_)), dN⟩); (case gb => intro Q' hQ'; refine' nameX_L ?fa ?fb hQ'; (case fa => assumption); (case fb => rfl)); (case g1 => rfl); (case g2 => rfl); (case g3 => decide); (case g4 => rfl); (case g5 => decide); (case g6 => rfl); (case g7 => rfl); (case g8 => rfl); (case g9 => intro C; rfl); (case g10 => decide); (case g11 => intro C; rfl); (case g12 => rfl); (case g13 => decide); (case g14 => with_unfolding_all rfl); intro DR hDR tkDR yr cr FDR NDR neDR hpR hlR))))
set_option hygiene false in
local macro_rules | `(tactic| walk_at "compareOp NotEq ref ref") => `(tactic| (k_dflt (first
  | (refine' ne_nilN (vs := [Value.ref t0]) ?hl ?n1 ?m2 ?c2 ?d2 ?u (r := true) rfl ?_; (case hl => refine' News.isList (c1 := cc) ?na ?nb; (case na => assumption); (case nb => (repeat (first | exact List.Mem.head _ | refine List.Mem.tail _ ?_)))); (case n1 => assumption); (case m2 => (repeat (first | exact List.Mem.head _ | refine List.Mem.tail _ ?_))); (case c2 => rfl); (case d2 => rfl); (case u => exact Nat.lt_of_le_of_lt (Nat.add_le_add_right V.Y.units 3) (by decide)))
  | (refine' ne_nilN (vs := ([] : List Value)) ?hl ?n1 ?m2 ?c2 ?d2 ?u (r := false) rfl ?_; (case hl => refine' News.isList (c1 := cc) ?na ?nb; (case na => assumption); (case nb => (repeat (first | exact List.Mem.head _ | refine List.Mem.tail _ ?_)))); (case n1 => assumption); (case m2 => (repeat (first | exact List.Mem.head _ | refine List.Mem.tail _ ?_))); (case c2 => rfl); (case d2 => rfl); (case u => exact Nat.lt_of_le_of_lt (Nat.add_le_add_right V.Y.units 3) (by decide))))))
set_option hygiene false in
local macro_rules | `(tactic| walk_at "getMethod ref") => `(tactic| (k_dflt (refine meth_pop (O := (bytesOrd Pr w)) (KX.keeps (Fr.keep (by assumption))) (TabD.tab (S.nowB hsn hoB (by assumption) (by assumption) (oB := oB) (oT := oT) (fun p hp => by repeat (first | exact hp | refine List.Mem.tail _ ?_)))) ?_)))
set_option hygiene false in
local macro_rules | `(tactic| walk_at "call builtin:dict.pop") => `(tactic| (k_dflt (refine' pop_B (own := [(D, lobj [Value.ref t0] cc)]) (oK := oK) (oN := oN) (oT := oT) (oB := oB) (fz := fz) V S hsn hoB (by assumption) (by assumption) ?hs ?hown hr hxz hp (bytes_is _ _) ?_; (case hs => exact (fun p hp => by repeat (first | exact hp | refine List.Mem.tail _ ?_))); (case hown => exact fun p hp => (List.mem_singleton.mp hp) ▸ Ne.symm (neD (xB, oB) (.tail _ (.tail _ (.tail _ (.head _)))))); intro es' n' kvs' hP tt FP NP henP hpmP; dsimp only [List.cons_append, List.nil_append] at NP)))
set_option hygiene false in
local macro_rules | `(tactic| walk_at "compareOp NotEq int int") => `(tactic| (refine ne_int_same rfl ?_))
set_option hygiene false in
local macro_rules | `(tactic| walk_at "subscriptTail") => `(tactic| (k_dflt (first
  | ((with_reducible show wpAny _ _ (subscriptTail _ (Expr.Constant (Const.int 0) _ _) _ _) _ _ _); refine' item_listL (l := [Value.ref t0]) ?hl (by decide) (by decide) rfl ?_ ?b2 ?b3; (case hl => refine' News.isList (c1 := cc) ?na ?nb; (case na => assumption); (case nb => (repeat (first | exact List.Mem.head _ | refine List.Mem.tail _ ?_)))); (case b2 => with_unfolding_all rfl); (case b3 => intro r; with_unfolding_all rfl))
  | ((with_reducible show wpAny _ _ (subscriptTail _ (Expr.Constant (Const.int 1) _ _) _ _) _ _ _); refine' item_tupleT (t := t0) (l := [kv0, .int v0 tt0]) (j := 1) ?ht ?b1 ?b2 ?b3 ?b4 ?_ ?b5; (case ht => exact S.tup (S.nowG hsn (by assumption) (by assumption) (fun p hp => by repeat (first | exact hp | refine List.Mem.tail _ ?_))) ht0); (case b1 => decide); (case b2 => decide); (case b3 => rfl); (case b4 => rfl); (case b5 => with_unfolding_all rfl)))))
set_option hygiene false in
local macro_rules | `(tactic| walk_at "call ref") => `(tactic| (k_dflt (first
  | (refine' gone_B (pB' := pB.filter fun p => decide (p.1 ≠ b.toList)) V (Nat.lt_trans (Nat.lt_succ_of_lt (Nat.lt_succ_self L)) S.lt.2.2.2.1) (by assumption) (by assumption) ?m ?t (bytes_is _ _) ?nk ?_; (case m => (repeat (first | exact List.Mem.head _ | refine List.Mem.tail _ ?_))); (case t => exact S.tabB (S.nowG hsn (by assumption) (by assumption) (fun p hp => by repeat (first | exact hp | refine List.Mem.tail _ ?_))) (News.get (by assumption) (by repeat (first | exact List.Mem.head _ | refine List.Mem.tail _ ?_))) henP hpmP (filter_asc S.tB.sorted _) (Nat.lt_of_le_of_lt (List.length_filter_le _ _) S.tB.short)); (case nk => exact fun p hp => of_decide_eq_true (List.mem_filter.mp hp).2); intro hG tkG FG NG)
  | (refine' gone_B (pB' := pB) (oX := oB) V (Nat.lt_trans (Nat.lt_succ_of_lt (Nat.lt_succ_self L)) S.lt.2.2.2.1) (by assumption) (by assumption) ?m ?t (bytes_is _ _) hn0 ?_; (case m => (repeat (first | exact List.Mem.head _ | refine List.Mem.tail _ ?_))); (case t => exact S.nowB hsn hoB (by assumption) (by assumption) (oT := oT) (oB := oB) (fun p hp => by repeat (first | exact hp | refine List.Mem.tail _ ?_))); intro hG tkG FG NG)
  | (refine' put_N (O := (bytesOrd Pr w)) (ps := pB) V (by assumption) (by assumption) ?pa (bytes_is _ _) ?_; (case pa => exact S.ocT (S.nowG hsn (by assumption) (by assumption) (fun p hp => by repeat (first | exact hp | refine List.Mem.tail _ ?_)))); intro r hU tkU xs cU FU NU hpU))))
set_option hygiene false in
local macro_rules | `(tactic| walk_at "storeName") => `(tactic| (k_dflt (((with_reducible show wpAny _ _ (storeName _ (Str.ofString "octets") _) _ _ _); refine' store_L (by assumption) (by assumption) ?_ rfl rfl; intro hS FS NS kS))))
set_option hygiene false in
local macro_rules | `(tactic| walk_at "setItem") => `(tactic| (k_dflt (refine' set_B KX S hsn hoB (by assumption) (by assumption) (oK := oK) (oN := oN) (oT := oT) (oB := oB) ?hs hr hxz (bytes_is _ _) ?_; (case hs => exact (fun p hp => by repeat (first | exact hp | refine List.Mem.tail _ ?_))); intro es' n' kvs' hP FP NP henP hpmP)))
section
variable {w : World} {A₀ : Around} {E : Value → Shared → Prop} {s : Shared} {h₀ : Heap} {L I f : Addr} {oI : Obj} {xT dT xB dB aN aP aO : Addr} {ws : List Value} {pT : List (Int × Int)} {pB : List (List UInt8 × Int)} {m : Str → Option Value} {cd : Value}
theorem partC {sc : Scope} (hsc : lawScope = sc) {st6 : Stmt} (h6 : loopBody[6]? = some st6)
    (V : LawEnv w A₀ h₀ (envOfC (Str.ofString "law") sc L f cd) L) {i : Nat} {n k kk v : Int} {b : Array UInt8} {t1 t2 t3 t4 t5 t6 : Tok}
    (S : LSt w h₀ L I oI xT dT xB dB aN aP aO ws pT pB (some (.int k t1)) (some (.bytes b t2)) [(Str.ofString "step", .int i t3), (Str.ofString "number", .int n t4), (Str.ofString "kept", .int kk t5), (Str.ofString "value", .int v t6)] s.heap m)
    (hlp : pB.length ≤ 62) {Q : Flow → Shared → Prop}
    (h : ∀ h' tk m' aO' pB', LSt w h₀ L I oI xT dT xB dB aN aP aO' ws pT pB' (some (.int k t1)) (some (.bytes b t2)) [(Str.ofString "step", .int i t3), (Str.ofString "number", .int n t4), (Str.ofString "kept", .int kk t5), (Str.ofString "value", .int v t6)] h' m' →
      pB'.length ≤ pB.length + 1 → (¬ (i : Int).fmod 2 = 1 ∧ pB' = pB ∨ (i : Int).fmod 2 = 1 ∧ (¬ (kk.fdiv 195).fmod 2 = 1 → pB' ≠ [])) → Q .next { s with heap := h', toks := tk }) :
    wpAny (model Pr w) (A₀.deeper (envOfC (Str.ofString "law") sc L f cd)) (execs [st6] (envOfC (Str.ofString "law") sc L f cd)) Q E s := by
  conv at hsc => lhs; whnf
  conv at h6 => lhs; whnf
  cases h6; subst hsc
  have KX := V.Y.K
  obtain ⟨mg, mb, mean, T⟩ := V.Y.T
  obtain ⟨oK, oN, oT, oB, fz, N, dK, dN, hoT, hoB, hr, hxz, hsn⟩ := S.news
  have F := S.frm
  obtain ⟨vs, ⟨cv, hvs⟩, hpi, hlv⟩ := S.oc
  rcases found_of (k := b.toList) S.tB.sorted with ⟨v0, hp, hfe⟩ | ⟨hn0, hfn⟩
  · k_steps
    · rename Fr _ _ _ _ => Fz
      rename News _ _ _ _ => Nz
      have kp := S.nowG hsn Fz Nz (fun p hp => by repeat (first | exact hp | refine List.Mem.tail _ ?_))
      exact h _ _ _ _ _ (S.changeB Fz kp ⟨_, Nz.get (by repeat (first | exact List.Mem.head _ | refine List.Mem.tail _ ?_)), dK⟩ ⟨_, Nz.get (by repeat (first | exact List.Mem.head _ | refine List.Mem.tail _ ?_)), dN⟩ (S.tabB kp (Nz.get (by repeat (first | exact List.Mem.head _ | refine List.Mem.tail _ ?_))) henP hpmP (filter_asc S.tB.sorted _) (Nat.lt_of_le_of_lt (List.length_filter_le _ _) S.tB.short)) (fun o e => by rw [hoT] at e; cases e; exact Nz.get (by repeat (first | exact List.Mem.head _ | refine List.Mem.tail _ ?_))) ⟨yr, ⟨cr, Nz.get (by repeat (first | exact List.Mem.head _ | refine List.Mem.tail _ ?_))⟩, hpR.moveS (S.seqG kp), hlR⟩ ⟨rfl, rfl, rfl, rfl, rfl, rfl, rfl, rfl, rfl, trivial⟩)
        (Nat.le_succ_of_le (List.length_filter_le _ _)) (.inr ⟨by assumption, fun hc => absurd (by assumption) hc⟩)
    · rename Fr _ _ _ _ => Fz
      rename News _ _ _ _ => Nz
      have kp := S.nowG hsn Fz Nz (fun p hp => by repeat (first | exact hp | refine List.Mem.tail _ ?_))
      have hl1 := put_len (O := (bytesOrd Pr w)) (k := b.toList) (v := v) pB
      exact h _ _ _ _ _ (S.changeB Fz kp ⟨_, Nz.get (by repeat (first | exact List.Mem.head _ | refine List.Mem.tail _ ?_)), dK⟩ ⟨_, Nz.get (by repeat (first | exact List.Mem.head _ | refine List.Mem.tail _ ?_)), dN⟩ (S.tabB kp (Nz.get (by repeat (first | exact List.Mem.head _ | refine List.Mem.tail _ ?_))) henP hpmP (put_asc S.tB.sorted) (by omega)) (fun o e => by rw [hoT] at e; cases e; exact Nz.get (by repeat (first | exact List.Mem.head _ | refine List.Mem.tail _ ?_))) ⟨xs, ⟨cU, Nz.get (by repeat (first | exact List.Mem.head _ | refine List.Mem.tail _ ?_))⟩, hpU.moveS kS, by rw [All2.length hpU]; omega⟩ ⟨rfl, rfl, rfl, rfl, rfl, rfl, rfl, rfl, rfl, trivial⟩)
        hl1 (.inr ⟨by assumption, fun _ e => by have := put_mem (O := bytesOrd Pr w) (k := b.toList) (v := v) (ps := pB); rw [e] at this; cases this⟩)
    · rename Fr _ _ _ _ => Fz
      rename News _ _ _ _ => Nz
      have kp := S.nowG hsn Fz Nz (fun p hp => by repeat (first | exact hp | refine List.Mem.tail _ ?_))
      exact h _ _ _ _ _ (S.same Fz kp ⟨_, Nz.get (by repeat (first | exact List.Mem.head _ | refine List.Mem.tail _ ?_)), dK⟩ ⟨_, Nz.get (by repeat (first | exact List.Mem.head _ | refine List.Mem.tail _ ?_)), dN⟩ (fun o e => by rw [hoT] at e; cases e; exact Nz.get (by repeat (first | exact List.Mem.head _ | refine List.Mem.tail _ ?_))) (fun o e => by rw [hoB] at e; cases e; exact Nz.get (by repeat (first | exact List.Mem.head _ | refine List.Mem.tail _ ?_))) ⟨rfl, rfl, rfl, rfl, rfl, rfl, rfl, rfl, rfl, trivial⟩)
        (Nat.le_succ _) (.inl ⟨by assumption, rfl⟩)
  · k_steps
    · rename Fr _ _ _ _ => Fz
      rename News _ _ _ _ => Nz
      have kp := S.nowG hsn Fz Nz (fun p hp => by repeat (first | exact hp | refine List.Mem.tail _ ?_))
      have hl1 := put_len (O := (bytesOrd Pr w)) (k := b.toList) (v := v) pB
      exact h _ _ _ _ _ (S.changeB Fz kp ⟨_, Nz.get (by repeat (first | exact List.Mem.head _ | refine List.Mem.tail _ ?_)), dK⟩ ⟨_, Nz.get (by repeat (first | exact List.Mem.head _ | refine List.Mem.tail _ ?_)), dN⟩ (S.tabB kp (Nz.get (by repeat (first | exact List.Mem.head _ | refine List.Mem.tail _ ?_))) henP hpmP (put_asc S.tB.sorted) (by omega)) (fun o e => by rw [hoT] at e; cases e; exact Nz.get (by repeat (first | exact List.Mem.head _ | refine List.Mem.tail _ ?_))) ⟨xs, ⟨cU, Nz.get (by repeat (first | exact List.Mem.head _ | refine List.Mem.tail _ ?_))⟩, hpU.moveS kS, by rw [All2.length hpU]; omega⟩ ⟨rfl, rfl, rfl, rfl, rfl, rfl, rfl, rfl, rfl, trivial⟩)
        hl1 (.inr ⟨by assumption, fun _ e => by have := put_mem (O := bytesOrd Pr w) (k := b.toList) (v := v) (ps := pB); rw [e] at this; cases this⟩)
    · rename Fr _ _ _ _ => Fz
      rename News _ _ _ _ => Nz
      have kp := S.nowG hsn Fz Nz (fun p hp => by repeat (first | exact hp | refine List.Mem.tail _ ?_))
      exact h _ _ _ _ _ (S.same Fz kp ⟨_, Nz.get (by repeat (first | exact List.Mem.head _ | refine List.Mem.tail _ ?_)), dK⟩ ⟨_, Nz.get (by repeat (first | exact List.Mem.head _ | refine List.Mem.tail _ ?_)), dN⟩ (fun o e => by rw [hoT] at e; cases e; exact Nz.get (by repeat (first | exact List.Mem.head _ | refine List.Mem.tail _ ?_))) (fun o e => by rw [hoB] at e; cases e; exact Nz.get (by repeat (first | exact List.Mem.head _ | refine List.Mem.tail _ ?_))) ⟨rfl, rfl, rfl, rfl, rfl, rfl, rfl, rfl, rfl, trivial⟩)
        (Nat.le_succ _) (.inl ⟨by assumption, rfl⟩)
end
end Mine

-- part M7
namespace Mine
theorem walk_off_M7 : True := by w_top off; trivial
/-- law's state between the turns -/
structure LCore (w : World) (h₀ : Heap) (L xT dT xB dB aN aP aO : Addr) (ws : List Value) (pT : List (Int × Int)) (pB : List (List UInt8 × Int)) (cK cN : Option Value) (h : Heap) (m : Str → Option Value) : Prop where
  F : Fr h₀ L h m
  ck : h.IsCell (L + 1) cK
  cn : h.IsCell (L + 1 + 1) cN
  tT : TabD (intOrd Pr w) h xT dT pT
  tB : TabD (bytesOrd Pr w) h xB dB pB
  lt : L + 1 + 1 < xT ∧ L + 1 + 1 < dT ∧ L + 1 + 1 < xB ∧ L + 1 + 1 < dB ∧ xT ≠ xB
  pl : PrsAt (intOrd Pr w) h aP pT
  oc : PrsAt (bytesOrd Pr w) h aO pB
  nu : h.IsList aN ws.toArray
  fm : Has m [(Str.ofString "tree", .ref xT), (Str.ofString "bucket", .ref xB), (Str.ofString "plain", .ref aP), (Str.ofString "octets", .ref aO), (Str.ofString "numbers", .ref aN)]

section
variable {w : World} {h₀ : Heap} {L I : Addr} {oI : Obj} {xT dT xB dB aN aP aO : Addr} {cK cN : Option Value} {ex : List (Str × Value)} {ws : List Value} {pT : List (Int × Int)} {pB : List (List UInt8 × Int)} {h h' : Heap} {m m' : Str → Option Value}
theorem LSt.core (S : LSt w h₀ L I oI xT dT xB dB aN aP aO ws pT pB cK cN ex h m) : LCore w h₀ L xT dT xB dB aN aP aO ws pT pB cK cN h m :=
  ⟨S.F, S.ck, S.cn, S.tT, S.tB, S.lt, S.pl, S.oc, S.nu, let ⟨a, b, c, d, e, _⟩ := S.fm; ⟨a, b, c, d, e, trivial⟩⟩
theorem LCore.st (C : LCore w h₀ L xT dT xB dB aN aP aO ws pT pB cK cN h m) (it : h.get? I = some oI) (itd : ∃ a, oI.data = .fields a) (hx : Has m ex) : LSt w h₀ L I oI xT dT xB dB aN aP aO ws pT pB cK cN ex h m :=
  ⟨C.F, C.ck, C.cn, C.tT, C.tB, C.lt, C.pl, C.oc, C.nu, it, itd, let ⟨a, b, c, d, e, _⟩ := C.fm; ⟨a, b, c, d, e, hx⟩⟩
theorem LCore.move (C : LCore w h₀ L xT dT xB dB aN aP aO ws pT pB cK cN h m) (F' : Fr h₀ L h' m') (k : ∀ b o, b ≠ L → (∀ a, o.data ≠ .fields a) → h.get? b = some o → h'.get? b = some o)
    (fm : Has m' [(Str.ofString "tree", .ref xT), (Str.ofString "bucket", .ref xB), (Str.ofString "plain", .ref aP), (Str.ofString "octets", .ref aO), (Str.ofString "numbers", .ref aN)]) :
    LCore w h₀ L xT dT xB dB aN aP aO ws pT pB cK cN h' m' := by
  obtain ⟨a1, a2, a3, a4, a5⟩ := C.lt
  have ks : ∀ b o xs n, o.data = .seq xs n → h.get? b = some o → h'.get? b = some o := fun b o xs n hd e => by
    refine k b o ?_ (fun a e' => by rw [hd] at e'; cases e') e
    rintro rfl
    obtain ⟨oL, es, ep, hL, hLd, _⟩ := C.F.ns
    rw [hL] at e; cases e; rw [hLd] at hd; cases hd
  have up : ∀ b, L + 1 + 1 < b → b ≠ L := fun b hb => Nat.ne_of_gt (Nat.lt_trans (Nat.lt_succ_of_lt (Nat.lt_succ_self L)) hb)
  refine ⟨F', ?_, ?_, ?_, ?_, C.lt, C.pl.move ks, C.oc.move ks, ?_, fm⟩
  · obtain ⟨o, e, d⟩ := C.ck
    exact ⟨o, k _ _ (Nat.ne_of_gt (Nat.lt_succ_self L)) (fun a e' => by rw [d] at e'; cases e') e, d⟩
  · obtain ⟨o, e, d⟩ := C.cn
    exact ⟨o, k _ _ (Nat.ne_of_gt (Nat.lt_succ_of_lt (Nat.lt_succ_self L))) (fun a e' => by rw [d] at e'; cases e') e, d⟩
  · obtain ⟨⟨es, n, mm, kvs, hx, hdx, r⟩, q1, q2, q3, q4⟩ := C.tT
    exact ⟨⟨es, n, mm, kvs, k _ _ (up _ a1) (fun a e' => by cases e') hx, k _ _ (up _ a2) (fun a e' => by cases e') hdx, r⟩, q1, q2, q3, q4⟩
  · obtain ⟨⟨es, n, mm, kvs, hx, hdx, r⟩, q1, q2, q3, q4⟩ := C.tB
    exact ⟨⟨es, n, mm, kvs, k _ _ (up _ a3) (fun a e' => by cases e') hx, k _ _ (up _ a4) (fun a e' => by cases e') hdx, r⟩, q1, q2, q3, q4⟩
  · obtain ⟨o, e, c, n, d⟩ := C.nu
    exact ⟨o, ks _ _ _ _ d e, c, n, d⟩
end

section
variable {w : World} {A₀ : Around} {E : Value → Shared → Prop} {s : Shared} {h₀ : Heap} {L I f : Addr} {oI : Obj} {xT dT xB dB aN aP aO : Addr} {ws : List Value} {pT : List (Int × Int)} {pB : List (List UInt8 × Int)} {cK cN : Option Value} {m : Str → Option Value} {cd : Value}
/-- one turn of law's loop -/
theorem turn {sc : Scope} (hsc : lawScope = sc) {body : List Stmt} (hb : loopBody = body)
    (V : LawEnv w A₀ h₀ (envOfC (Str.ofString "law") sc L f cd) L) {i : Nat} {ti tn : Tok} {n : Int} (S : LSt w h₀ L I oI xT dT xB dB aN aP aO ws pT pB cK cN [(Str.ofString "step", .int i ti)] s.heap m)
    (hn : ws[i]? = some (.int n tn)) (hlen : i < 63) (hT : pT.length ≤ i) (hB : pB.length ≤ i) {Q : Flow → Shared → Prop}
    (h : ∀ h' tk m' aP' aO' pT' pB' cK' cN', LSt w h₀ L I oI xT dT xB dB aN aP' aO' ws pT' pB' cK' cN' [] h' m' → pT'.length ≤ i + 1 → pB'.length ≤ i + 1 →
      (¬ ((if n < 0 then -n else n).fdiv 39).fmod 5 = 4 → pT' ≠ []) →
      (¬ (i : Int).fmod 2 = 1 ∧ pB' = pB ∨ (i : Int).fmod 2 = 1 ∧ (¬ ((if n < 0 then -n else n).fdiv 195).fmod 2 = 1 → pB' ≠ [])) → Q .next { s with heap := h', toks := tk }) :
    wpAny (model Pr w) (A₀.deeper (envOfC (Str.ofString "law") sc L f cd)) (execs body (envOfC (Str.ofString "law") sc L f cd)) Q E s := by
  obtain ⟨a0, a1, a2, a3, a4, a5, a6, a7, a8, a9, e⟩ : ∃ a0 a1 a2 a3 a4 a5 a6 a7 a8 a9, loopBody = [a0, a1, a2, a3, a4, a5, a6, a7, a8, a9] := ⟨_, _, _, _, _, _, _, _, _, _, rfl⟩
  subst hb
  rw [e]
  refine execs_append (l := [a0, a1, a2, a3, a4]) (r := [a5, a6, a7, a8, a9]) ?_
  refine partA hsc (by rw [e]; rfl) (by rw [e]; rfl) (by rw [e]; rfl) (by rw [e]; rfl) (by rw [e]; rfl) V S hn hlen ?_
  intro h1 tk1 m1 k v b t1 t2 t3 t4 t5 t6 S1
  refine execs_append (l := [a5]) (r := [a6, a7, a8, a9]) ?_
  refine partB hsc (by rw [e]; rfl) V S1 (by omega) ?_
  intro h2 tk2 m2 aP' pT' S2 hl2 hne2
  refine execs_append (l := [a6]) (r := [a7, a8, a9]) ?_
  refine partC hsc (by rw [e]; rfl) V S2 (by omega) ?_
  intro h3 tk3 m3 aO' pB' S3 hl3 hne3
  show wpAny _ _ (execs [a7, a8, a9] _) _ _ _
  refine partD hsc (by rw [e]; rfl) (by rw [e]; rfl) (by rw [e]; rfl) V S3 ?_
  intro h4 tk4 m4 S4
  exact h _ _ _ _ _ _ _ _ _ (S4.core.st S4.it S4.itd trivial) (by omega) (by omega) hne2 hne3
end
end Mine

-- part M8
namespace Mine
theorem walk_off_M8 : True := by w_top off; trivial
section
variable {w : World} {h₀ : Heap} {L I : Addr} {xT dT xB dB aN aP aO : Addr} {cK cN : Option Value} {ws : List Value} {pT : List (Int × Int)} {pB : List (List UInt8 × Int)} {h g : Heap} {m m' : Str → Option Value}
theorem LCore.toG (C : LCore w h₀ L xT dT xB dB aN aP aO ws pT pB cK cN h m) (hI : ∀ o, h.get? I = some o → ∃ a, o.data = .fields a) (F' : Fr h₀ L g m') (N : News h₀ L g (snap h₀ h [L, I])) (hm : ∀ y, y ≠ Str.ofString "step" → m' y = m y) :
    LCore w h₀ L xT dT xB dB aN aP aO ws pT pB cK cN g m' := by
  refine C.move F' (fun b o hbL hnf e => ?_) ?_
  · cases z : h₀.get? b with
    | some o' =>
      have := C.F.keep b o' z
      rw [e] at this
      rw [Option.some.inj this]
      exact F'.keep _ _ z
    | none =>
      refine (N (b, o) (mem_snap.mpr ⟨fun hb => ?_, z, e⟩)).1
      rcases List.mem_cons.mp hb with hb | hb
      · exact hbL hb
      · have hbI : b = I := List.mem_singleton.mp hb
        subst hbI
        obtain ⟨a, ha⟩ := hI o e
        exact hnf a ha
  · obtain ⟨a, b, c, d, e, _⟩ := C.fm
    exact ⟨(hm (Str.ofString "tree") (by decide)).trans a, (hm (Str.ofString "bucket") (by decide)).trans b, (hm (Str.ofString "plain") (by decide)).trans c, (hm (Str.ofString "octets") (by decide)).trans d, (hm (Str.ofString "numbers") (by decide)).trans e, trivial⟩
end
theorem odd_of {i : Nat} (h : ¬ (i : Int).fmod 2 = 1) : ((i + 1 : Nat) : Int).fmod 2 = 1 := by
  rw [Int.fmod_eq_emod_of_nonneg _ (by decide)] at h ⊢
  omega

section
variable {w : World} {A₀ : Around} {E : Value → Shared → Prop} {s : Shared} {h₀ : Heap} {L f : Addr} {xT dT xB dB aN aP aO : Addr} {ws : List Value} {ns : List Int} {cK cN : Option Value} {m : Str → Option Value} {cd : Value}
/-- law's loop -/
theorem iter_law {sc : Scope} (hsc : lawScope = sc) {body : List Stmt} (hb : loopBody = body)
    (V : LawEnv w A₀ h₀ (envOfC (Str.ofString "law") sc L f cd) L) {r : Addr} {b₀ : Int} {t₀ u₀ v₀ : Tok} {N : Nat} (hr : IsRange s.heap r 0 b₀ 1 t₀ u₀ v₀) (hsmall : Builtin.Range.small 0 b₀ 1 = true) (hn : Builtin.Range.rangeSize 0 b₀ 1 = (N : Int))
    (C : LCore w h₀ L xT dT xB dB aN aP aO ws [] [] cK cN s.heap m) (hi : IntsAre ws ns) (hN : ns.length = N) (hlt : N < 63) (h2 : 2 ≤ N) (h8 : ns[N - 1]? = some 8) (h7 : ns[N - 2]? = some (-7))
    {Q : Flow → Shared → Prop}
    (done : ∀ h' tk m' aP' aO' pT' pB' cK' cN', LCore w h₀ L xT dT xB dB aN aP' aO' ws pT' pB' cK' cN' h' m' → pT' ≠ [] → pB' ≠ [] → Q .next { s with heap := h', toks := tk }) :
    wpAny (model Pr w) (A₀.deeper (envOfC (Str.ofString "law") sc L f cd)) (pyIter (.ref r)) (fun it s₂ => LoopAtV Pr w (A₀.deeper (envOfC (Str.ofString "law") sc L f cd)) h₀ (envOfC (Str.ofString "law") sc L f cd) (Str.ofString "step") body Q E it s₂) E s := by
  refine wpAny_pyIter_range hr hsmall ?_
  have hh : (A₀.deeper (envOfC (Str.ofString "law") sc L f cd)).handled = none := V.Y.hand
  have W := Walks.range (prog := Pr) (w := w) hh s.heap.objs.size 0 1 N
  have hLI : L ≠ s.heap.objs.size := Nat.ne_of_lt C.F.ns.lt
  have hI0 : h₀.get? s.heap.objs.size = none := next_is_new C.F
  let J : Nat → (Str → Option Value) → List (Addr × Obj) → Prop := fun i m₁ news₁ => ∀ g m', (∀ y, y ≠ Str.ofString "step" → m' y = m₁ y) → Fr h₀ L g m' → News h₀ L g news₁ →
    ∃ aP aO pT pB cK cN, LCore w h₀ L xT dT xB dB aN aP aO ws pT pB cK cN g m' ∧ pT.length ≤ i ∧ pB.length ≤ i ∧ (i = N → pT ≠ [] ∧ pB ≠ []) ∧ (i + 1 = N → ¬ (i : Int).fmod 2 = 1 → pB ≠ [])
  refine ⟨s.heap.objs.size, [s.heap.objs.size], [s.heap.objs.size], N, _, _, m, snap h₀ (s.heap.push { cls := .type "range_iterator", data := .fields #[rawInt 0, rawInt (Builtin.Range.rangeSize 0 b₀ 1), rawInt 1] }) [L, s.heap.objs.size], J, rfl, W, ?_, ?_, ?_, ?_, C.F.push _, ?_, ?_, ?_, ?_⟩
  · intro hm
    exact hLI (List.mem_singleton.mp hm)
  · intro b hb
    rw [List.mem_singleton.mp hb]
    exact hI0
  · intro p hp hb
    exact (mem_snap.mp hp).1 (.tail _ hb)
  · show IsRangeIter _ _ _ _ _
    rw [hn]; simpa using Heap.get?_push_size _ rfl
  · intro p hp
    obtain ⟨x1, x2, x3⟩ := mem_snap.mp hp
    exact ⟨x3, fun e => x1 (by rw [e]; exact .head _), x2⟩
  · intro g m' hm Fg Ng
    have C0 : LCore w h₀ L xT dT xB dB aN aP aO ws [] [] cK cN (s.heap.push { cls := .type "range_iterator", data := .fields #[rawInt 0, rawInt (Builtin.Range.rangeSize 0 b₀ 1), rawInt 1] }) m :=
      C.move (C.F.push _) (fun b o _ _ e => Heap.get?_push_of_some _ e) C.fm
    refine ⟨_, _, _, _, _, _, C0.toG (fun o e => ?_) Fg Ng hm, Nat.zero_le _, Nat.zero_le _, fun e => absurd e (by omega), fun e => absurd e (by omega)⟩
    rw [Heap.get?_push_size _ rfl] at e
    cases e
    exact ⟨_, rfl⟩
  · rintro i v m₁ news₁ s₁ own ⟨h1, tk1, rfl⟩ hiN ⟨t, rfl⟩ hJ hnw hown hownget hfp hst F₁ N₁
    obtain ⟨aP1, aO1, pT1, pB1, cK1, cN1, C1, l1, l2, e1, e2⟩ := hJ h1 _ (fun y hy => if_neg hy) F₁ (fun p hp => N₁ p (List.mem_append_right _ hp))
    have hst' : h1.get? s.heap.objs.size = some _ := hst
    have S1 := C1.st (ex := [(Str.ofString "step", .int i t)]) hst' ⟨_, rfl⟩ ⟨by simp, trivial⟩
    have hin : i < ns.length := by omega
    obtain ⟨tn, hwi⟩ := hi.get i ns[i] (by simp [hin])
    refine turn (s := { s with heap := h1, toks := tk1 }) hsc hb V S1 hwi (by omega) l1 l2 ?_
    intro h' tk m' aP' aO' pT' pB' cK' cN' S2 hl hl' hT hB
    refine LoopStepV.next (LoopStepU.intro (news₂ := snap h₀ h' [L, s.heap.objs.size]) S2.F ?_ ?_ ?_)
    · intro p hp
      rcases List.mem_append.mp hp with hp | hp
      · have hpI : p.1 = s.heap.objs.size := List.mem_singleton.mp (hown p hp)
        have hg := hownget p hp
        rw [hpI] at hg ⊢
        rw [show ({ s with heap := h1, toks := tk1 } : Shared).heap.get? s.heap.objs.size = some _ from hst'] at hg
        rw [← Option.some.inj hg]
        exact ⟨S2.it, Ne.symm hLI, hI0⟩
      · obtain ⟨x1, x2, x3⟩ := mem_snap.mp hp
        exact ⟨x3, fun e => x1 (by rw [e]; exact .head _), x2⟩
    · intro p hp hb
      exact (mem_snap.mp hp).1 (.tail _ hb)
    · intro g mg hm Fg Ng
      refine ⟨aP', aO', pT', pB', cK', cN', S2.core.toG (fun o e => ?_) Fg Ng hm, hl, hl', fun e => ?_, fun e hev => ?_⟩
      · rw [S2.it] at e; cases e; exact ⟨_, rfl⟩
      · have hi8 : ns[i] = 8 := by
          have : N - 1 = i := by omega
          rw [this] at h8
          simpa [hin] using h8
        rw [hi8] at hT hB
        refine ⟨hT (by decide), ?_⟩
        rcases hB with ⟨hev, rfl⟩ | ⟨hod, hne⟩
        · exact e2 e hev
        · exact hne (by decide)
      · have hi7 : ns[i] = -7 := by
          have : N - 2 = i := by omega
          rw [this] at h7
          simpa [hin] using h7
        rw [hi7] at hB
        rcases hB with ⟨hev', rfl⟩ | ⟨hod, hne⟩
        · exact absurd (odd_of hev') hev
        · exact hne (by decide)
  · intro h' tk m' news' F' N' _ hJ
    obtain ⟨aP', aO', pT', pB', cK', cN', C', _, _, e1, _⟩ := hJ h' m' (fun _ _ => rfl) F' N'
    obtain ⟨n1, n2⟩ := e1 rfl
    exact done h' tk m' _ _ _ _ _ _ C' n1 n2
end
end Mine

-- part M9
namespace Mine
theorem walk_off_M9 : True := by w_top off; trivial
theorem fillM9 : (fun w : World => Mine.hd.heap_39 w.params) = (fun w => Mine.hd.heap_39 w.params) ∧ Challenge.rw_bt5022_01 = Challenge.rw_bt5022_01 := by k_fill; exact ⟨rfl, rfl⟩
section
variable {w : World} {A₀ : Around} {E : Value → Shared → Prop} {s : Shared} {h₀ h g : Heap} {env : Env} {L : Addr} {xT dT xB dB aN aP aO : Addr} {cK cN : Option Value} {ws : List Value} {pT : List (Int × Int)} {pB : List (List UInt8 × Int)} {m m' : Str → Option Value} {news fz : List (Addr × Obj)} {Q : Value → Shared → Prop}
theorem LCore.nowZ (C : LCore w h₀ L xT dT xB dB aN aP aO ws pT pB cK cN h m) (hsn : ∀ p ∈ snap h₀ h [L], p ∈ fz) (F : Fr h₀ L g m') (N : News h₀ L g news) (hs : ∀ p ∈ fz, p ∈ news) : ∀ b o, b ≠ L → h.get? b = some o → g.get? b = some o :=
  fun b o hb e => snap_keeps C.F F.keep N (fun p hp => hs p (hsn p hp)) b o (by simpa using hb) e
theorem LCore.seqZ (C : LCore w h₀ L xT dT xB dB aN aP aO ws pT pB cK cN h m) (k : ∀ b o, b ≠ L → h.get? b = some o → g.get? b = some o) : ∀ b o xs n, o.data = .seq xs n → h.get? b = some o → g.get? b = some o := fun b o xs n hd e => by
  refine k b o ?_ e
  rintro rfl
  obtain ⟨oL, es, ep, hL, hLd, _⟩ := C.F.ns
  rw [hL] at e; cases e; rw [hLd] at hd; cases hd
theorem LCore.tabTZ (C : LCore w h₀ L xT dT xB dB aN aP aO ws pT pB cK cN h m) (k : ∀ b o, b ≠ L → h.get? b = some o → g.get? b = some o) : TabD (intOrd Pr w) g xT dT pT := by
  obtain ⟨a1, a2, a3, a4, a5⟩ := C.lt
  have up : ∀ b, L + 1 + 1 < b → b ≠ L := fun b hb => Nat.ne_of_gt (Nat.lt_trans (Nat.lt_succ_of_lt (Nat.lt_succ_self L)) hb)
  exact C.tT.move (fun o e => k _ _ (up _ a1) e) (fun o e => k _ _ (up _ a2) e)
theorem LCore.tabBZ (C : LCore w h₀ L xT dT xB dB aN aP aO ws pT pB cK cN h m) (k : ∀ b o, b ≠ L → h.get? b = some o → g.get? b = some o) : TabD (bytesOrd Pr w) g xB dB pB := by
  obtain ⟨a1, a2, a3, a4, a5⟩ := C.lt
  have up : ∀ b, L + 1 + 1 < b → b ≠ L := fun b hb => Nat.ne_of_gt (Nat.lt_trans (Nat.lt_succ_of_lt (Nat.lt_succ_self L)) hb)
  exact C.tB.move (fun o e => k _ _ (up _ a3) e) (fun o e => k _ _ (up _ a4) e)
theorem asks_ZT {lo hi : Value} {b c : Option Int} (V : LawEnv w A₀ h₀ env L) (C : LCore w h₀ L xT dT xB dB aN aP aO ws pT pB cK cN h m) (hsn : ∀ p ∈ snap h₀ h [L], p ∈ fz) (F : Fr h₀ L s.heap m') (N : News h₀ L s.heap news) (hs : ∀ p ∈ fz, p ∈ news)
    (blo : Bnd (intOrd Pr w) lo b) (bhi : Bnd (intOrd Pr w) hi c) (hq : ∀ h' tk, Fr h₀ L h' m' → News h₀ L h' news → Q (.bool true) { s with heap := h', toks := tk }) :
    wpAny (model Pr w) (A₀.deeper env) (call (.ref 74) [.ref xT, .ref aP, lo, hi]) Q E s :=
  asks_L (O := intOrd Pr w) V F N (C.tabTZ (C.nowZ hsn F N hs)).tab (C.pl.move (C.seqZ (C.nowZ hsn F N hs))) blo bhi hq
theorem asks_ZB {lo hi : Value} {b c : Option (List UInt8)} (V : LawEnv w A₀ h₀ env L) (C : LCore w h₀ L xT dT xB dB aN aP aO ws pT pB cK cN h m) (hsn : ∀ p ∈ snap h₀ h [L], p ∈ fz) (F : Fr h₀ L s.heap m') (N : News h₀ L s.heap news) (hs : ∀ p ∈ fz, p ∈ news)
    (blo : Bnd (bytesOrd Pr w) lo b) (bhi : Bnd (bytesOrd Pr w) hi c) (hq : ∀ h' tk, Fr h₀ L h' m' → News h₀ L h' news → Q (.bool true) { s with heap := h', toks := tk }) :
    wpAny (model Pr w) (A₀.deeper env) (call (.ref 74) [.ref xB, .ref aO, lo, hi]) Q E s :=
  asks_L (O := bytesOrd Pr w) V F N (C.tabBZ (C.nowZ hsn F N hs)).tab (C.oc.move (C.seqZ (C.nowZ hsn F N hs))) blo bhi hq
end
/-- the ends of a list of pairs -/
theorem PairsIn.ends {w : World} {K : Type} [DecidableEq K] {O : KOrd Pr w K} {h : Heap} {vs : List Value} {ps : List (K × Int)} (x : PairsIn O h vs ps) (hne : ps ≠ []) :
    vs.isEmpty = false ∧ (∃ vs0 t kv v tt k, vs = vs0 ++ [Value.ref t] ∧ IsTup h t [kv, .int v tt].toArray ∧ O.knd.is k kv = true) ∧ (∃ t kv v tt k, vs[0]? = some (Value.ref t) ∧ IsTup h t [kv, .int v tt].toArray ∧ O.knd.is k kv = true) := by
  refine ⟨?_, ?_, ?_⟩
  · cases x with
    | nil => exact absurd rfl hne
    | cons r x => rfl
  · rcases List.eq_nil_or_concat ps with rfl | ⟨ps0, p, rfl⟩
    · exact absurd rfl hne
    · simp only [List.concat_eq_append] at x
      obtain ⟨l1, l2, e, a1, a2⟩ := All2.of_append x
      cases a2 with
      | cons r a2 =>
        cases a2
        obtain ⟨t, kv, tt, rfl, it, hk⟩ := r
        exact ⟨l1, t, kv, _, tt, _, e, it, hk⟩
  · cases x with
    | nil => exact absurd rfl hne
    | cons r x =>
      obtain ⟨t, kv, tt, rfl, it, hk⟩ := r
      exact ⟨t, kv, _, tt, _, rfl, it, hk⟩

set_option hygiene false in
local macro_rules | `(tactic| walk_at "compareOp Eq ref ref") => `(tactic| (k_dflt (first
  | (refine' eq_nilN (vs := vs) ?l0 ?n1 ?l1 ?c1 ?d1 ?u hvn ?_; (case l0 => exact ⟨_, C.seqZ (C.nowZ hsn (by assumption) (by assumption) (fun p hp => by repeat (first | exact hp | refine List.Mem.tail _ ?_))) _ _ _ _ rfl hvs, rfl, _, rfl⟩); (case n1 => assumption); (case l1 => repeat (first | exact List.Mem.head _ | refine List.Mem.tail _ ?_)); (case c1 => rfl); (case d1 => rfl); (case u => exact Nat.lt_of_le_of_lt (Nat.add_le_add_right V.Y.units 3) (by decide)))
  | (refine' eq_nilN (vs := vo) ?l0 ?n1 ?l1 ?c1 ?d1 ?u hon ?_; (case l0 => exact ⟨_, C.seqZ (C.nowZ hsn (by assumption) (by assumption) (fun p hp => by repeat (first | exact hp | refine List.Mem.tail _ ?_))) _ _ _ _ rfl hvo, rfl, _, rfl⟩); (case n1 => assumption); (case l1 => repeat (first | exact List.Mem.head _ | refine List.Mem.tail _ ?_)); (case c1 => rfl); (case d1 => rfl); (case u => exact Nat.lt_of_le_of_lt (Nat.add_le_add_right V.Y.units 3) (by decide))))))
set_option hygiene false in
local macro_rules | `(tactic| walk_at "subscriptTail") => `(tactic| (k_dflt (first
  | ((with_reducible show wpAny _ _ (subscriptTail _ (Expr.UnaryOp _ _ _) _ _) _ _ _); refine' item_last (vs := vs0) (v := Value.ref tz) ?l0 ?l1 ?_ ?b2 ?b3; (case l0 => rw [← evz]; exact ⟨_, C.seqZ (C.nowZ hsn (by assumption) (by assumption) (fun p hp => by repeat (first | exact hp | refine List.Mem.tail _ ?_))) _ _ _ _ rfl hvs, rfl, _, rfl⟩); (case l1 => rw [← evz]; exact hlv); (case b2 => with_unfolding_all rfl); (case b3 => intro r; with_unfolding_all rfl))
  | (refine' item_tupleT (t := tz) (l := [kvz, .int vz ttz]) (j := 0) ?ht ?b1 ?b2 ?b3 ?b4 ?_ ?b5; (case ht => exact tup_moveS itz (C.seqZ (C.nowZ hsn (by assumption) (by assumption) (fun p hp => by repeat (first | exact hp | refine List.Mem.tail _ ?_))))); (case b1 => decide); (case b2 => decide); (case b3 => rfl); (case b4 => rfl); (case b5 => with_unfolding_all rfl))
  | (refine' item_tupleT (t := ta) (l := [kva, .int va tta]) (j := 0) ?ht ?b1 ?b2 ?b3 ?b4 ?_ ?b5; (case ht => exact tup_moveS ita (C.seqZ (C.nowZ hsn (by assumption) (by assumption) (fun p hp => by repeat (first | exact hp | refine List.Mem.tail _ ?_))))); (case b1 => decide); (case b2 => decide); (case b3 => rfl); (case b4 => rfl); (case b5 => with_unfolding_all rfl))
  | (refine' item_listL (l := vs) ?l0 (by decide) (by decide) hva ?_ ?b2 ?b3; (case l0 => exact ⟨_, C.seqZ (C.nowZ hsn (by assumption) (by assumption) (fun p hp => by repeat (first | exact hp | refine List.Mem.tail _ ?_))) _ _ _ _ rfl hvs, rfl, _, rfl⟩); (case b2 => with_unfolding_all rfl); (case b3 => intro r; with_unfolding_all rfl)))))
set_option hygiene false in
local macro_rules | `(tactic| walk_at "call ref") => `(tactic| (k_dflt (first
  | (refine asks_ZT V C hsn (by assumption) (by assumption) (fun p hp => by repeat (first | exact hp | refine List.Mem.tail _ ?_)) (by first | exact .inl ⟨rfl, rfl⟩ | exact .inr ⟨_, rfl, hkz⟩ | exact .inr ⟨_, rfl, hka⟩) (by first | exact .inl ⟨rfl, rfl⟩ | exact .inr ⟨_, rfl, hkz⟩ | exact .inr ⟨_, rfl, hka⟩) ?_; intro h2 tk2 F2 N2)
  | (refine asks_ZB V C hsn (by assumption) (by assumption) (fun p hp => by repeat (first | exact hp | refine List.Mem.tail _ ?_)) (.inl ⟨rfl, rfl⟩) (.inl ⟨rfl, rfl⟩) ?_; intro h2 tk2 F2 N2))))
theorem tup_moveS {h h' : Heap} {t : Addr} {xs : Array Value} (x : IsTup h t xs) (k : ∀ b o xs n, o.data = .seq xs n → h.get? b = some o → h'.get? b = some o) : IsTup h' t xs := by
  obtain ⟨o, e, c, n, d⟩ := x
  exact ⟨o, k _ _ _ _ d e, c, n, d⟩
section
variable {w : World} {A₀ : Around} {E : Value → Shared → Prop} {s : Shared} {h₀ : Heap} {L f : Addr} {xT dT xB dB aN aP aO : Addr} {ws : List Value} {pT : List (Int × Int)} {pB : List (List UInt8 × Int)} {cK cN : Option Value} {m : Str → Option Value} {cd : Value}
theorem partZ {sc : Scope} (hsc : lawScope = sc) {sta stb : Stmt} (h5 : lawBody[5]? = some sta) (h6 : lawBody[6]? = some stb)
    (V : LawEnv w A₀ h₀ (envOfC (Str.ofString "law") sc L f cd) L) (C : LCore w h₀ L xT dT xB dB aN aP aO ws pT pB cK cN s.heap m) (hT : pT ≠ []) (hB : pB ≠ []) {Q : Flow → Shared → Prop}
    (h : ∀ h' tk m', Fr h₀ L h' m' → Q (.ret (.bool true)) { s with heap := h', toks := tk }) :
    wpAny (model Pr w) (A₀.deeper (envOfC (Str.ofString "law") sc L f cd)) (execs [sta, stb] (envOfC (Str.ofString "law") sc L f cd)) Q E s := by
  conv at hsc => lhs; whnf
  conv at h5 => lhs; whnf
  conv at h6 => lhs; whnf
  cases h5; cases h6; subst hsc
  have KX := V.Y.K
  obtain ⟨mg, mb, mean, T⟩ := V.Y.T
  obtain ⟨vs, ⟨cv, hvs⟩, hpi, hlv⟩ := C.pl
  obtain ⟨vo, ⟨co, hvo⟩, hpo, hlo⟩ := C.oc
  obtain ⟨hvn, ⟨vs0, tz, kvz, vz, ttz, kz, evz, itz, hkz⟩, ⟨ta, kva, va, tta, ka, hva, ita, hka⟩⟩ := hpi.ends hT
  obtain ⟨hon, _, _⟩ := hpo.ends hB
  have F : Fr h₀ L s.heap (over [(Str.ofString "tree", .ref xT), (Str.ofString "bucket", .ref xB), (Str.ofString "plain", .ref aP), (Str.ofString "octets", .ref aO), (Str.ofString "numbers", .ref aN)] m) := by
    rw [C.fm.over]; exact C.F
  obtain ⟨fz, hsn, N⟩ : ∃ fz, (∀ p ∈ snap h₀ s.heap [L], p ∈ fz) ∧ News h₀ L s.heap fz := ⟨snap h₀ s.heap [L], fun p hp => hp, fun p hp => by
    obtain ⟨x1, x2, x3⟩ := mem_snap.mp hp
    exact ⟨x3, fun e => x1 (by rw [e]; exact .head _), x2⟩⟩
  k_steps
  exact h _ _ _ (by assumption)
end
end Mine

-- part M10
namespace Mine
theorem walk_off_M10 : True := by w_top off; trivial
theorem fillM10 : (fun w : World => Mine.hd.heap_39 w.params) = (fun w => Mine.hd.heap_39 w.params) ∧ Challenge.rw_bt5022_01 = Challenge.rw_bt5022_01 := by k_fill; exact ⟨rfl, rfl⟩
section
variable {w : World} {A₀ : Around} {E : Value → Shared → Prop} {s : Shared} {h₀ h g : Heap} {env : Env} {L : Addr} {xT dT xB dB aN aP aO : Addr} {cK cN : Option Value} {ws : List Value} {pT : List (Int × Int)} {pB : List (List UInt8 × Int)} {m m' : Str → Option Value} {news fz : List (Addr × Obj)} {Q : Value → Shared → Prop}
theorem whole_ZT (V : LawEnv w A₀ h₀ env L) (C : LCore w h₀ L xT dT xB dB aN aP aO ws pT pB cK cN h m) (hsn : ∀ p ∈ snap h₀ h [L], p ∈ fz) (F : Fr h₀ L s.heap m') (N : News h₀ L s.heap news) (hs : ∀ p ∈ fz, p ∈ news)
    (hq : ∀ h' tk, Fr h₀ L h' m' → News h₀ L h' news → Q (.bool true) { s with heap := h', toks := tk }) :
    wpAny (model Pr w) (A₀.deeper env) (call (.ref 79) [.ref xT, .ref aP]) Q E s :=
  whole_L (O := intOrd Pr w) V F N (C.tabTZ (C.nowZ hsn F N hs)).tab (C.pl.move (C.seqZ (C.nowZ hsn F N hs))) hq
theorem whole_ZB (V : LawEnv w A₀ h₀ env L) (C : LCore w h₀ L xT dT xB dB aN aP aO ws pT pB cK cN h m) (hsn : ∀ p ∈ snap h₀ h [L], p ∈ fz) (F : Fr h₀ L s.heap m') (N : News h₀ L s.heap news) (hs : ∀ p ∈ fz, p ∈ news)
    (hq : ∀ h' tk, Fr h₀ L h' m' → News h₀ L h' news → Q (.bool true) { s with heap := h', toks := tk }) :
    wpAny (model Pr w) (A₀.deeper env) (call (.ref 79) [.ref xB, .ref aO]) Q E s :=
  whole_L (O := bytesOrd Pr w) V F N (C.tabBZ (C.nowZ hsn F N hs)).tab (C.oc.move (C.seqZ (C.nowZ hsn F N hs))) hq
theorem LCore.numsZ (C : LCore w h₀ L xT dT xB dB aN aP aO ws pT pB cK cN h m) (k : ∀ b o, b ≠ L → h.get? b = some o → g.get? b = some o) : g.IsList aN ws.toArray := by
  obtain ⟨o, e, c, n, d⟩ := C.nu
  exact ⟨o, C.seqZ k _ _ _ _ d e, c, n, d⟩
end
set_option hygiene false in
local macro_rules | `(tactic| walk_at "call ref") => `(tactic| (k_dflt (first
  | (refine whole_ZT V C hsn (by assumption) (by assumption) (fun p hp => by repeat (first | exact hp | refine List.Mem.tail _ ?_)) ?_; intro h2 tk2 F2 N2)
  | (refine whole_ZB V C hsn (by assumption) (by assumption) (fun p hp => by repeat (first | exact hp | refine List.Mem.tail _ ?_)) ?_; intro h2 tk2 F2 N2))))
set_option hygiene false in
local macro_rules | `(tactic| walk_at "call builtin:len") => `(tactic| (k_dflt (refine len_list (C.numsZ (C.nowZ hsn (by assumption) (by assumption) (fun p hp => by repeat (first | exact hp | refine List.Mem.tail _ ?_)))) hsz ?_)))
set_option hygiene false in
local macro_rules | `(tactic| walk_at "exec For Name Call cons nil") => `(tactic| (k_dflt (refine For_invV h₀ rfl rfl ?_ (by intro _; rfl) hE)))
theorem tail8 (l : List Int) {N : Nat} (h : N = l.length + 5) : (l ++ [7, 3, 40, -7, 8])[N - 1]? = some 8 := by
  subst h
  rw [List.getElem?_append_right (by omega)]
  have : l.length + 5 - 1 - l.length = 4 := by omega
  rw [this]; rfl
theorem tail7 (l : List Int) {N : Nat} (h : N = l.length + 5) : (l ++ [7, 3, 40, -7, 8])[N - 2]? = some (-7) := by
  subst h
  rw [List.getElem?_append_right (by omega)]
  have : l.length + 5 - 2 - l.length = 3 := by omega
  rw [this]; rfl
set_option hygiene false in
local macro_rules | `(tactic| walk_at "pyIter ref") => `(tactic| (k_dflt (refine' iter_law (ns := ns.take 16 ++ [7, 3, 40, -7, 8]) (N := ws.length) hsc' rfl V ?hr ?hsm ?hn ?hC (by assumption) hNl ?hb1 ?hb2 (tail8 _ hN0) (tail7 _ hN0) ?_; (case hr => assumption); (case hsm => exact small_one (by decide) (by decide) (by rw [hNl]; omega) (by rw [hNl]; omega)); (case hn => rw [rangeSize_one, hNl]; split <;> omega); (case hC => exact C.move (by assumption) (fun b o hb _ e => C.nowZ hsn (by assumption) (by assumption) (fun p hp => by repeat (first | exact hp | refine List.Mem.tail _ ?_)) b o hb e) ⟨rfl, rfl, rfl, rfl, rfl, trivial⟩); (case hb1 => omega); (case hb2 => omega); intro hZ tkZ mZ aPZ aOZ pTZ pBZ cKZ cNZ CZ hTZ hBZ)))
section
variable {w : World} {A₀ : Around} {E : Value → Shared → Prop} {s : Shared} {h₀ : Heap} {L f : Addr} {xT dT xB dB aN aP aO : Addr} {ws : List Value} {ns : List Int} {cK cN : Option Value} {m : Str → Option Value} {cd : Value}
theorem law_rest {sc : Scope} (hsc : lawScope = sc) {st3 st4 st5 st6 : Stmt} (h3 : lawBody[3]? = some st3) (h4 : lawBody[4]? = some st4) (h5 : lawBody[5]? = some st5) (h6 : lawBody[6]? = some st6)
    (V : LawEnv w A₀ h₀ (envOfC (Str.ofString "law") sc L f cd) L) (C : LCore w h₀ L xT dT xB dB aN aP aO ws [] [] cK cN s.heap m) (hints : IntsAre ws (ns.take 16 ++ [7, 3, 40, -7, 8]))
    (hE : PassesOwn (model Pr w) (A₀.deeper (envOfC (Str.ofString "law") sc L f cd)) (envOfC (Str.ofString "law") sc L f cd) E) {Q : Flow → Shared → Prop}
    (h : ∀ h' tk m', Fr h₀ L h' m' → Q (.ret (.bool true)) { s with heap := h', toks := tk }) :
    wpAny (model Pr w) (A₀.deeper (envOfC (Str.ofString "law") sc L f cd)) (execs [st3, st4, st5, st6] (envOfC (Str.ofString "law") sc L f cd)) Q E s := by
  have hsc' := hsc
  conv at hsc => lhs; whnf
  conv at h3 => lhs; whnf
  conv at h4 => lhs; whnf
  cases h3; cases h4; subst hsc
  have KX := V.Y.K
  obtain ⟨mg, mb, mean, T⟩ := V.Y.T
  have hNl : (ns.take 16 ++ [7, 3, 40, -7, 8] : List Int).length = ws.length := hints.length.symm
  have hN0 : ws.length = (ns.take 16).length + 5 := by rw [← hNl]; simp
  have hN1 : (ns.take 16).length ≤ 16 := by rw [List.length_take]; exact Nat.min_le_left _ _
  have hsz : ((ws.toArray.size : Nat) : Int) < 2 ^ 63 := by simp; omega
  have F : Fr h₀ L s.heap (over [(Str.ofString "tree", .ref xT), (Str.ofString "bucket", .ref xB), (Str.ofString "plain", .ref aP), (Str.ofString "octets", .ref aO), (Str.ofString "numbers", .ref aN)] m) := by
    rw [C.fm.over]; exact C.F
  obtain ⟨fz, hsn, N⟩ : ∃ fz, (∀ p ∈ snap h₀ s.heap [L], p ∈ fz) ∧ News h₀ L s.heap fz := ⟨snap h₀ s.heap [L], fun p hp => hp, fun p hp => by
    obtain ⟨x1, x2, x3⟩ := mem_snap.mp hp
    exact ⟨x3, fun e => x1 (by rw [e]; exact .head _), x2⟩⟩
  iterate 51 walk1
  exact partZ hsc' h5 h6 V CZ hTZ hBZ h
end
end Mine

-- part M11
namespace Mine
theorem walk_off_M11 : True := by w_top off; trivial
theorem fillM11 : (fun w : World => Mine.hd.heap_39 w.params) = (fun w => Mine.hd.heap_39 w.params) ∧ Challenge.rw_bt5022_01 = Challenge.rw_bt5022_01 := by k_fill; exact ⟨rfl, rfl⟩
section
variable {prog : Program} {w : World} {A : Around} {E : Value → Shared → Prop} {s : Shared} {h₀ : Heap} {L : Addr} {m : Str → Option Value} {news : List (Addr × Obj)}
theorem make_tree_lt {Q : Value → Shared → Prop} (X : (Mine.hd.heap_39 w.params).In h₀) (F : Fr h₀ L s.heap m) (N : News h₀ L s.heap news)
    (h : ∀ d x h', Fr h₀ L h' m → News h₀ L h' ((x, treeObj d [] 0) :: (d, dictOf [] 0) :: news) → d < x → (∀ p ∈ news, p.1 < d) → x ≠ 46 → (x == sysModules) = false → Q (.ref x) { s with heap := h' }) :
    wpAny (model prog w) A (call (.ref 46) []) Q E s := by
  obtain ⟨hp, g, d, t, os⟩ := s
  refine make_tree (X.keeps F.keep) ?_
  have F1 := F.push (h := hp) emptyDict
  have N1 := News.push (h := hp) F N emptyDict
  have F2 := F1.push ⟨.ref 46, some hp.objs.size, .dict #[], #[]⟩
  have N2 := News.push F1 N1 ⟨.ref 46, some hp.objs.size, .dict #[], #[]⟩
  rw [Heap.size_push] at N2
  obtain ⟨_, _, _, _, h46, _⟩ := K46 w
  have big : 46 < hp.objs.size := Heap.lt_size (F.keep _ _ (X _ _ h46))
  refine h _ _ _ F2 N2 (Nat.lt_succ_self _) (fun p hp' => Heap.lt_size (N p hp').1) ?_ ?_
  · exact Nat.ne_of_gt (Nat.lt_trans big (Nat.lt_succ_self _))
  · rw [beq_eq_false_iff_ne]
    exact Nat.ne_of_gt (Nat.lt_trans (show sysModules < 46 by decide) (Nat.lt_succ_of_lt big))
end
section
variable {w : World} {A₀ : Around} {E : Value → Shared → Prop} {s : Shared} {h₀ : Heap} {L f : Addr} {xT dT xB dB aN aP aO D1 D2 D3 D4 : Addr} {ws : List Value} {ns : List Int} {cK cN : Option Value} {m : Str → Option Value} {cd : Value} {o1 o2 o3 o4 oK oN : Obj}
theorem law_start {sc : Scope} (hsc : lawScope = sc) {st3 st4 st5 st6 : Stmt} (h3 : lawBody[3]? = some st3) (h4 : lawBody[4]? = some st4) (h5 : lawBody[5]? = some st5) (h6 : lawBody[6]? = some st6)
    (V : LawEnv w A₀ h₀ (envOfC (Str.ofString "law") sc L f cd) L) (F : Fr h₀ L s.heap m)
    (N : News h₀ L s.heap [(D1, o1), (aO, W.listOf #[] 0), (aP, W.listOf #[] 0), (D2, o2), (xB, treeObj dB [] 0), (dB, dictOf [] 0), (xT, treeObj dT [] 0), (dT, dictOf [] 0), (aN, W.listOf ws.toArray 0), (D3, o3), (D4, o4), (L + 1 + 1, oN), (L + 1, oK)])
    (fm : Has m [(Str.ofString "tree", .ref xT), (Str.ofString "bucket", .ref xB), (Str.ofString "plain", .ref aP), (Str.ofString "octets", .ref aO), (Str.ofString "numbers", .ref aN)])
    (dN : oN.data = .cell cN) (dK : oK.data = .cell cK) (hints : IntsAre ws (ns.take 16 ++ [7, 3, 40, -7, 8]))
    (a1 : (xT == sysModules) = false) (a2 : xT ≠ 46) (a3 : (xB == sysModules) = false) (a4 : xB ≠ 46) (b1 : dT < xT) (lf1 : ∀ p ∈ [(aN, W.listOf ws.toArray 0), (D3, o3), (D4, o4), (L + 1 + 1, oN), (L + 1, oK)], p.1 < dT) (b2 : dB < xB) (lf2 : ∀ p ∈ [(xT, treeObj dT [] 0), (dT, dictOf [] 0), (aN, W.listOf ws.toArray 0), (D3, o3), (D4, o4), (L + 1 + 1, oN), (L + 1, oK)], p.1 < dB)
    (hE : PassesOwn (model Pr w) (A₀.deeper (envOfC (Str.ofString "law") sc L f cd)) (envOfC (Str.ofString "law") sc L f cd) E) {Q : Flow → Shared → Prop}
    (h : ∀ h' tk m', Fr h₀ L h' m' → Q (.ret (.bool true)) { s with heap := h', toks := tk }) :
    wpAny (model Pr w) (A₀.deeper (envOfC (Str.ofString "law") sc L f cd)) (execs [st3, st4, st5, st6] (envOfC (Str.ofString "law") sc L f cd)) Q E s := by
  have b3 : L + 1 + 1 < dT := lf1 (L + 1 + 1, oN) (.tail _ (.tail _ (.tail _ (.head _))))
  have b4 : xT < dB := lf2 (xT, treeObj dT [] 0) (.head _)
  refine law_rest (xT := xT) (dT := dT) (xB := xB) (dB := dB) (aN := aN) (aP := aP) (aO := aO) (cK := cK) (cN := cN) (m := m) hsc h3 h4 h5 h6 V ⟨F, ⟨oK, N.get ?_, dK⟩, ⟨oN, N.get ?_, dN⟩, ⟨⟨[], 0, 0, [], N.get ?_, N.get ?_, .nil, .nil⟩, .nil, by decide, a1, a2⟩, ⟨⟨[], 0, 0, [], N.get ?_, N.get ?_, .nil, .nil⟩, .nil, by decide, a3, a4⟩, ⟨?_, b3, ?_, ?_, ?_⟩, ⟨[], ⟨0, N.get ?_⟩, .nil, by decide⟩, ⟨[], ⟨0, N.get ?_⟩, .nil, by decide⟩, ⟨_, N.get (o := W.listOf ws.toArray 0) ?_, rfl, _, rfl⟩, fm⟩ hints hE h
  all_goals first
    | exact Nat.lt_trans b3 b1
    | exact Nat.lt_trans b3 (Nat.lt_trans b1 (Nat.lt_trans b4 b2))
    | exact Nat.lt_trans b3 (Nat.lt_trans b1 b4)
    | exact Nat.ne_of_lt (Nat.lt_trans b4 b2)
    | (repeat (first | exact List.Mem.head _ | refine List.Mem.tail _ ?_))
end
set_option hygiene false in
local macro_rules | `(tactic| walk_at "call ref nil") => `(tactic| (refine make_tree_lt (by assumption) (by assumption) (by assumption) ?_; intro dT xT hT FT NT ltT lfT n46 nsm))
theorem law_holds : PySem.Challenge.rw_bt5022_01.Holds := by
  refine Mine.hd ?_
  k_go0
  iterate 75 walk1
  refine' law_start rfl rfl rfl rfl rfl ?V (by assumption) (by assumption) ⟨rfl, rfl, rfl, rfl, rfl, trivial⟩ (by assumption) (by assumption) (by assumption) (by assumption) (by assumption) (by assumption) (by assumption) (by assumption) (by assumption) (by assumption) (by assumption) ?hE ?h
  case V => exact ⟨⟨by assumption, ⟨_, _, _, by assumption⟩, rfl, by decide, by decide, ⟨_, _, _, below_caller _, rfl⟩⟩, rfl, rfl, rfl⟩
  case hE => passes_own
  case h =>
    intro hZ tkZ mZ FZ
    k_steps
end Mine

theorem PySem.Challenge.cw_bt5022_01_holds : PySem.Challenge.rw_bt5022_01.Holds := by
  exact Mine.law_holds
