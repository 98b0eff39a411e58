import PyProof.Rows.All
import Wide.All
import OpenK.AllK
import Wide.FinOn
import PySem.Challenge.RW_ep5035_01
set_option Elab.async false
set_option maxRecDepth 100000
set_option maxHeartbeats 8000000
section
open PySem PySem.W PyProof.Rows
namespace Mine
open_top hd for PySem.Challenge.rw_ep5035_01
end Mine
end
section
open PySem PySem.W PySem.Calls PyProof.Rows PySem.Spec
namespace Mine
noncomputable abbrev PR : Program := PySem.Challenge.rw_ep5035_01.row.prog
noncomputable abbrev LOOSE : List Str := looseW hd.view_39 [Str.ofString "_twin_re_2", Str.ofString "_param_reg"]

/-- the written part and the top's facts stand -/
structure Mod (w : World) (mean : ExcName → Option Value) (mg mb : Str → Option Value) (h : Heap) : Prop where
  K : (hd.heap_39 w.params).In h
  T : Top hd.view_39 LOOSE mean mg mb h
def Keeps (h h' : Heap) : Prop := ∀ b o, h.get? b = some o → h'.get? b = some o
theorem Keeps.rfl {h : Heap} : Keeps h h := fun _ _ e => e
theorem Keeps.trans {h h' h'' : Heap} (a : Keeps h h') (b : Keeps h' h'') : Keeps h h'' := fun x o e => b x o (a x o e)
theorem Mod.keeps {w mean mg mb} {h h' : Heap} (m : Mod w mean mg mb h) (k : Keeps h h') : Mod w mean mg mb h' := ⟨m.K.keeps k, m.T.keeps k⟩

/-- a call's end: it made things, changed none that stood -/
def PRet (s : Shared) (P : Value → Heap → Prop) (v : Value) (s' : Shared) : Prop :=
  ∃ h' tk', s' = { s with heap := h', toks := tk' } ∧ Keeps s.heap h' ∧ P v h'
def flowV : Flow → Value
  | .ret v => v
  | _ => .none
def PEnd (s : Shared) (L : Addr) (P : Value → Heap → Prop) (f : Flow) (s' : Shared) : Prop :=
  ∃ h' tk' m', s' = { s with heap := h', toks := tk' } ∧ Fr s.heap L h' m' ∧ P (flowV f) h'

/-- entering a def of the text -/
theorem code_pure {w : World} {A : Around} {s : Shared} {K : Frag} {f : Addr} {name qual : Str} {params : Arguments} {body : List Stmt} {scope : Scope} {dV kV doc pm cdv ct oc : Value} {an od : Option Addr} {osl : Array (Option Value)} {args : List Value} {binds : List (Str × Value)} {P : Value → Heap → Prop}
    (X : K.In s.heap) (hlim : s.heap.NoLimit)
    (ho : K.lookup f = some ⟨oc, od, .func (fnOf name qual params body scope dV kV doc pm an cdv ct), osl⟩) (hcd : codeIn K cdv qual = true) (hroom : A.depth < recursionLimit)
    (hbind : BindsTo s (fnOf name qual params body scope dV kV doc pm an cdv ct) ⟨args, []⟩ binds) (hloc : ∀ y ∈ binds, scope.names.lookup y.1 = some .local)
    (hco : scope.isCoroutine = false) (hgen : scope.isGenerator = false) (hk : scope.kind = .function) (hcell : ∀ x ∈ scope.names, x.2 ≠ .cell)
    (h : ∀ h₁, Fr s.heap s.heap.objs.size h₁ (fun y => binds.reverse.lookup y) → News s.heap s.heap.objs.size h₁ [] →
      wpAny (model PR w) (A.deeper (envOf qual scope s.heap.objs.size f cdv)) (execs body (envOf qual scope s.heap.objs.size f cdv))
        (PEnd s s.heap.objs.size P) (fun _ _ => False) { s with heap := h₁, toks := s.toks + binds.length }) :
    wpAny (model PR w) A (call (.ref f) args) (PRet s P) (fun _ _ => False) s := by
  refine wpAny_call ?_
  refine codeAny_call_def (fd := fnOf name qual params body scope dV kV doc pm an cdv ct) (body := body) (binds := binds) hroom (X _ _ ho) rfl hlim (codeRec_of X hcd) rfl hbind hcell hloc (fun h₁ hns hk₁ => ?_) hco hgen hk
  refine wpAny_mono (h h₁ ⟨hns, hk₁, Nat.le_refl _⟩ .nil) (fun fl s' hl => ?_) (fun _ _ x => x.elim)
  obtain ⟨h', tk', m', e, F, hp⟩ := hl
  refine ⟨h', tk', e, F.keep, ?_⟩
  cases fl <;> exact hp
end Mine
end
section
open PySem PySem.W PySem.Calls PyProof.Rows PySem.Spec
namespace Mine
namespace FX
theorem plainAttrs_deque : PlainAttrs "collections.deque" :=
  ⟨⟨"collections.deque.__getattribute__", by rw [typeLookup_type, builtinLookup_eq_fast]; kernel_rfl, by decide +kernel⟩, by rw [typeLookup_type, builtinLookup_eq_fast]; kernel_rfl⟩
theorem plainAttrs_pattern : PlainAttrs "re.Pattern" :=
  ⟨⟨"object.__getattribute__", by rw [typeLookup_type, builtinLookup_eq_fast]; kernel_rfl, by decide +kernel⟩, by rw [typeLookup_type, builtinLookup_eq_fast]; kernel_rfl⟩
theorem plainAttrs_match : PlainAttrs "re.Match" :=
  ⟨⟨"object.__getattribute__", by rw [typeLookup_type, builtinLookup_eq_fast]; kernel_rfl, by decide +kernel⟩, by rw [typeLookup_type, builtinLookup_eq_fast]; kernel_rfl⟩
theorem slot_popleft : Slot "collections.deque" "popleft" "collections.deque.popleft" :=
  .of (owner := "collections.deque") (n := "popleft") (by rw [typeLookup_type, builtinLookup_eq_fast]; kernel_rfl) (by decide +kernel) (by decide +kernel) (by decide +kernel)
    (by first | exact .inl (by decide +kernel) | exact .inr (by decide +kernel)) (by rw [isSubtype_type]; kernel_rfl)
theorem type_popleft : typeOf (.builtin "collections.deque.popleft") = pure (.type "method_descriptor") := by show builtinType _ = _; rw [builtinType_eq_fast]; kernel_rfl
theorem entry_popleft : entryFor table "collections.deque.popleft" = some Builtin.«collections.deque.popleft» := entryFor_of_tree (by kernel_rfl)
theorem args_popleft (a : Value) : argsOk "collections.deque.popleft" ⟨[a], []⟩ := by
  unfold argsOk; kernel_rfl
theorem slot_len : Slot "collections.deque" "__len__" "collections.deque.__len__" :=
  .of (owner := "collections.deque") (n := "__len__") (by rw [typeLookup_type, builtinLookup_eq_fast]; kernel_rfl) (by decide +kernel) (by decide +kernel) (by decide +kernel)
    (by first | exact .inl (by decide +kernel) | exact .inr (by decide +kernel)) (by rw [isSubtype_type]; kernel_rfl)
theorem entry_len : entryFor table "collections.deque.__len__" = some Builtin.«collections.deque.__len__» := entryFor_of_tree (by kernel_rfl)
theorem args_len (a : Value) : argsOk "collections.deque.__len__" ⟨[a], []⟩ := by
  unfold argsOk; kernel_rfl
theorem slot_getitem : Slot "collections.deque" "__getitem__" "collections.deque.__getitem__" :=
  .of (owner := "collections.deque") (n := "__getitem__") (by rw [typeLookup_type, builtinLookup_eq_fast]; kernel_rfl) (by decide +kernel) (by decide +kernel) (by decide +kernel)
    (by first | exact .inl (by decide +kernel) | exact .inr (by decide +kernel)) (by rw [isSubtype_type]; kernel_rfl)
theorem entry_getitem : entryFor table "collections.deque.__getitem__" = some Builtin.«collections.deque.__getitem__» := entryFor_of_tree (by kernel_rfl)
theorem args_getitem (a b : Value) : argsOk "collections.deque.__getitem__" ⟨[a, b], []⟩ := by
  unfold argsOk; kernel_rfl
theorem slot_init : Slot "collections.deque" "__init__" "collections.deque.__init__" :=
  .of (owner := "collections.deque") (n := "__init__") (by rw [typeLookup_type, builtinLookup_eq_fast]; kernel_rfl) (by decide +kernel) (by decide +kernel) (by decide +kernel)
    (by first | exact .inl (by decide +kernel) | exact .inr (by decide +kernel)) (by rw [isSubtype_type]; kernel_rfl)
theorem entry_init : entryFor table "collections.deque.__init__" = some Builtin.«collections.deque.__init__» := entryFor_of_tree (by kernel_rfl)
theorem args_init (a b : Value) : argsOk "collections.deque.__init__" ⟨[a, b], []⟩ := by
  unfold argsOk; kernel_rfl
theorem entry_new : entryFor table "collections.deque.__new__" = some Builtin.«collections.deque.__new__» := entryFor_of_tree (by kernel_rfl)
theorem entry_extend : entryFor table "collections.deque.extend" = some Builtin.«collections.deque.extend» := entryFor_of_tree (by kernel_rfl)
theorem entry_extloop : entryFor table "collections.deque.extend.loop" = some Builtin.«collections.deque.extend.loop» := entryFor_of_tree (by kernel_rfl)
theorem mro_deque : mroOf (.type "collections.deque") = pure [.type "collections.deque", .type "object"] := by rw [mroOf_type]; kernel_rfl
theorem lookup_new : typeLookup (.type "collections.deque") "__new__" = pure (some (.builtin "collections.deque.__new__")) := by rw [typeLookup_type, builtinLookup_eq_fast]; kernel_rfl
theorem called_deque : TypeCalled "collections.deque" "collections.deque.__new__" "collections.deque.__init__" :=
  ⟨by decide +kernel, by decide +kernel, ⟨_, _, mro_deque⟩, madeBy_type mro_deque lookup_new (by decide +kernel), by decide +kernel, by rw [isSubtype_type]; kernel_rfl, slot_init⟩
theorem typeCall_deque (a : Value) : checkTypeCall "collections.deque" ⟨[a], []⟩ = pure () := by kernel_rfl
theorem newCall_deque (a : Value) : checkBuiltinCall "collections.deque.__new__" ⟨[.type "collections.deque", a], []⟩ = pure () := by kernel_rfl
theorem nobool_deque : typeLookup (.type "collections.deque") "__bool__" = pure none := by rw [typeLookup_type, builtinLookup_eq_fast]; kernel_rfl
theorem slot_match : Slot "re.Pattern" "match" "re.Pattern.match" :=
  .of (owner := "re.Pattern") (n := "match") (by rw [typeLookup_type, builtinLookup_eq_fast]; kernel_rfl) (by decide +kernel) (by decide +kernel) (by decide +kernel)
    (by first | exact .inl (by decide +kernel) | exact .inr (by decide +kernel)) (by rw [isSubtype_type]; kernel_rfl)
theorem type_match : typeOf (.builtin "re.Pattern.match") = pure (.type "method_descriptor") := by show builtinType _ = _; rw [builtinType_eq_fast]; kernel_rfl
theorem entry_match : entryFor table "re.Pattern.match" = some Builtin.«re.Pattern.match» := entryFor_of_tree (by kernel_rfl)
theorem args_match (a b : Value) : argsOk "re.Pattern.match" ⟨[a, b], []⟩ := by
  unfold argsOk; kernel_rfl
theorem slot_group : Slot "re.Match" "group" "re.Match.group" :=
  .of (owner := "re.Match") (n := "group") (by rw [typeLookup_type, builtinLookup_eq_fast]; kernel_rfl) (by decide +kernel) (by decide +kernel) (by decide +kernel)
    (by first | exact .inl (by decide +kernel) | exact .inr (by decide +kernel)) (by rw [isSubtype_type]; kernel_rfl)
theorem type_group : typeOf (.builtin "re.Match.group") = pure (.type "method_descriptor") := by show builtinType _ = _; rw [builtinType_eq_fast]; kernel_rfl
theorem entry_group : entryFor table "re.Match.group" = some Builtin.«re.Match.group» := entryFor_of_tree (by kernel_rfl)
theorem args_group (a b : Value) : argsOk "re.Match.group" ⟨[a, b], []⟩ := by
  unfold argsOk; kernel_rfl
theorem nobool_match : typeLookup (.type "re.Match") "__bool__" = pure none := by rw [typeLookup_type, builtinLookup_eq_fast]; kernel_rfl
theorem nolen_match : typeLookup (.type "re.Match") "__len__" = pure none := by rw [typeLookup_type, builtinLookup_eq_fast]; kernel_rfl
end FX
end Mine
end
section
open PySem PySem.W PySem.Calls PyProof.Rows PySem.Spec
namespace Mine
abbrev dqObj (n : Int) (xs : List Value) : Obj := { cls := .type "collections.deque", dict := none, data := .fields ⟨.none :: .int n 0 :: xs⟩ }
theorem dq_ex (a b : Value) (xs : List Value) : (Array.mk (a :: b :: xs)).extract 2 (Array.mk (a :: b :: xs)).size = Array.mk xs := by
  apply Array.ext'
  simp
theorem dq_size (a b : Value) (xs : List Value) : (Array.mk (a :: b :: xs)).size = xs.length + 2 := by simp
section
variable {prog : Program} {w : World} {A : Around} {E : Value → Shared → Prop} {s : Shared}

theorem field_x {α : Type} {d : Addr} {n : Int} {xs : List Value} {f : Value → Sem α} {Q : α → Shared → Prop} (hd : s.heap.get? d = some (dqObj n xs))
   (h : wpAny (model prog w) A (f .none) Q E s) : wpAny (model prog w) A (field (.ref d) 0 >>= f) Q E s := by
  refine wpAny_bind ?_
  refine wpAny_bind ?_
  refine wpAny_bind (wpAny_load hd ?_)
  exact wpAny_pure (wpAny_pure h)

theorem maxlen_x {d : Addr} {n : Int} {xs : List Value} {Q : Option Nat → Shared → Prop} (hd : s.heap.get? d = some (dqObj n xs))
   (h : Q none s) : wpAny (model prog w) A (Builtin.Deque.maxlen (.ref d)) Q E s := by
  unfold Builtin.Deque.maxlen
  exact field_x hd (wpAny_pure h)

theorem change_x {d : Addr} {n : Int} {xs ys : List Value} {f : Array Value → Array Value} {Q : Unit → Shared → Prop} (hd : s.heap.get? d = some (dqObj n xs)) (hf : f ⟨xs⟩ = ⟨ys⟩) (hz : ys.length ≤ sizeLine + 1)
   (h : ∀ h', h'.get? d = some (dqObj (n+1) ys) → Heap.SameBut d s.heap h' → Q () { s with heap := h' }) :
   wpAny (model prog w) A (Builtin.Deque.change (.ref d) f) Q E s := by
  unfold Builtin.Deque.change
  refine wpAny_bind ?_
  refine wpAny_bind ?_
  refine wpAny_bind ?_
  refine wpAny_bind (wpAny_load hd ?_)
  refine wpAny_pure ?_
  refine wpAny_pure ?_
  refine wpAny_pure ?_
  refine wpAny_updateFields hd rfl ?_ ?_
  · refine h _ ?_ (Heap.SameBut.update ..)
    rw [Heap.get?_update_self _ hd (by rfl)]
    simp only [Obj.mapFields, dq_ex, hf, if_true]
    have e : (#[(Array.mk (Value.none :: Value.int n 0 :: xs)).getD 0 Value.none, rawInt (n + 1)] ++ Array.mk ys) = Array.mk (Value.none :: Value.int (n + 1) 0 :: ys) := by
      apply Array.ext'
      simp [rawInt]
    rw [e]
  · simp only [dq_ex, hf]
    simp
    omega

theorem pushRight_x {d : Addr} {n : Int} {x : Value} {xs : List Value} {Q : Unit → Shared → Prop} (hd : s.heap.get? d = some (dqObj n xs)) (hz : xs.length ≤ sizeLine)
   (h : ∀ h', h'.get? d = some (dqObj (n+1) (xs ++ [x])) → Heap.SameBut d s.heap h' → Q () { s with heap := h' }) :
   wpAny (model prog w) A (Builtin.Deque.pushRight (.ref d) x) Q E s := by
  unfold Builtin.Deque.pushRight
  refine wpAny_bind (change_x (ys := xs ++ [x]) hd (by simp) (by simp; omega) fun h' h1 h2 => ?_)
  refine wpAny_bind (maxlen_x h1 ?_)
  exact wpAny_pure (h h' h1 h2)

theorem popleft_x {d : Addr} {n : Int} {x : Value} {xs : List Value} {Q : Value → Shared → Prop} (hd : s.heap.get? d = some (dqObj n (x :: xs))) (hz : xs.length ≤ sizeLine)
   (h : ∀ h', h'.get? d = some (dqObj (n+1) xs) → Heap.SameBut d s.heap h' → Q x { s with heap := h' }) :
   wpAny (model prog w) A (call (.builtin "collections.deque.popleft") [.ref d]) Q E s := by
  refine wpAny_call_entry FX.slot_popleft ⟨_, hd, rfl⟩ FX.entry_popleft ?_ (FX.args_popleft _)
  unfold Builtin.«collections.deque.popleft»
  refine wpAny_bind (wpAny_pure ?_)
  refine wpAny_bind ?_
  refine wpAny_bind ?_
  refine wpAny_bind (wpAny_load hd ?_)
  refine wpAny_pure ?_
  refine wpAny_pure ?_
  rw [dq_ex]
  simp only [List.getElem?_toArray, List.getElem?_cons_zero]
  refine wpAny_bind (change_x hd (by simp [Array.eraseIdxIfInBounds]; rfl) (by omega) fun h' h1 h2 => ?_)
  exact wpAny_pure ⟨_, rfl, h h' h1 h2⟩

theorem size_x {d : Addr} {n : Int} {xs : List Value} {Q : Nat → Shared → Prop} (hd : s.heap.get? d = some (dqObj n xs))
   (h : Q xs.length s) : wpAny (model prog w) A (Builtin.Deque.size (.ref d)) Q E s := by
  unfold Builtin.Deque.size
  refine wpAny_bind ?_
  refine wpAny_bind (wpAny_load hd ?_)
  refine wpAny_pure (wpAny_pure ?_)
  rw [dq_size]
  exact h
theorem items_x {d : Addr} {n : Int} {xs : List Value} {Q : Array Value → Shared → Prop} (hd : s.heap.get? d = some (dqObj n xs))
   (h : Q ⟨xs⟩ s) : wpAny (model prog w) A (Builtin.Deque.items (.ref d)) Q E s := by
  unfold Builtin.Deque.items
  refine wpAny_bind ?_
  refine wpAny_bind (wpAny_load hd ?_)
  refine wpAny_pure (wpAny_pure ?_)
  rw [dq_ex]
  exact h

theorem len_gives {d : Addr} {n : Int} {xs : List Value} {Q : Fin → Shared → Prop} (hd : s.heap.get? d = some (dqObj n xs))
   (h : Q (.done (.ret (.int xs.length s.toks))) { s with toks := s.toks + 1 }) :
   wpAny (model prog w) A (Builtin.«collections.deque.__len__» ⟨[.ref d], []⟩) Q E s := by
  unfold Builtin.«collections.deque.__len__»
  refine wpAny_bind (wpAny_pure ?_)
  refine wpAny_bind (size_x hd ?_)
  exact wpAny_bind (wpAny_mkInt (wpAny_pure h))

theorem item0_x {d : Addr} {n : Int} {t : Tok} {x : Value} {xs : List Value} {Q : Value → Shared → Prop} (hd : s.heap.get? d = some (dqObj n (x :: xs))) 
   (h : Q x s) :
   wpAny (model prog w) A (call (.builtin "collections.deque.__getitem__") [.ref d, .int 0 t]) Q E s := by
  refine wpAny_call_entry FX.slot_getitem ⟨_, hd, rfl⟩ FX.entry_getitem ?_ (FX.args_getitem _ _)
  unfold Builtin.«collections.deque.__getitem__»
  refine wpAny_bind (wpAny_pure ?_)
  refine wpAny_bind ?_
  refine wpAny_bind (wpAny_pure ?_)
  dsimp only
  rw [if_neg (by decide)]
  refine wpAny_bind (size_x hd ?_)
  have e : seqIndex? 0 (x :: xs).length = some 0 := by
    simp [seqIndex?]
  rw [e]
  refine wpAny_pure ?_
  refine wpAny_bind (items_x hd ?_)
  exact wpAny_pure ⟨_, rfl, h⟩

theorem new_x {a : Value} : Meets (Builtin.«collections.deque.__new__» ⟨[.type "collections.deque", a], []⟩) (fun _ R s => R (.ok (.ret (.ref s.heap.objs.size))) { s with heap := s.heap.push (dqObj 0 []) }) := by
  refine Meets.of_wp fun prog w A R s hs => ?_
  have hsub := FX.called_deque.sub
  have hd : typeHasDict (.type "collections.deque") = false := by decide +kernel
  unfold Builtin.«collections.deque.__new__»
  refine wpAny_bind ?_
  refine wpAny_bind (wpAny_pure ?_)
  dsimp only
  rw [if_neg (by decide)]
  refine wpAny_bind (wpAny_of_eq hsub ?_)
  rw [if_neg (by decide)]
  refine wpAny_pure ?_
  refine wpAny_bind ?_
  unfold Builtin.Deque.new
  rw [hd]
  dsimp only
  rw [if_neg (by decide)]
  rw [if_neg (by decide)]
  refine wpAny_bind (wpAny_pure ?_)
  refine wpAny_newObj_type ?_ (show (#[Value.none, rawInt 0] ++ #[]).size ≤ sizeLine + 2 by simp [sizeLine])
  exact wpAny_pure ⟨_, rfl, hs⟩

theorem extloop_x {d it l : Addr} {items : List Value} (hh : A.handled = none) (h1 : d ≠ it) (h2 : l ≠ it) (h3 : d ≠ l) (hz : items.length ≤ sizeLine) {R : Result → Shared → Prop} :
   ∀ (k i : Nat) (n : Int) (s : Shared), i + k = items.length → s.heap.get? d = some (dqObj n (items.take i)) → s.heap.IsListIter it l i → s.heap.IsList l items.toArray →
   (∀ h' n', h'.get? d = some (dqObj n' items) → (∀ b o, b ≠ d → b ≠ it → s.heap.get? b = some o → h'.get? b = some o) → R (.ok (.ret .none)) { s with heap := h' }) →
   codeAny (model prog w) A (.builtin "collections.deque.extend.loop" ⟨[.ref d, .ref it, .none], []⟩) R s
  | 0, i, n, s, hk, hd, hit, hl, hR => by
    refine codeAny_builtin FX.entry_extloop ?_
    rw [Around.under_plainId (by decide +kernel) _]
    unfold Builtin.«collections.deque.extend.loop»
    dsimp only
    refine wpAny_bind (wpAny_pure ?_)
    refine wpAny_bind (wpAny_pyNext_list_end hh hit hl (by simp; omega) fun h' he => ?_)
    refine wpAny_pure ?_
    have e : items.take i = items := List.take_of_length_le (by omega)
    rw [e] at hd
    exact hR h' n (he d _ h1 hd) (fun b o _ b2 e => he b o b2 e)
  | k + 1, i, n, s, hk, hd, hit, hl, hR => by
    refine codeAny_builtin FX.entry_extloop ?_
    rw [Around.under_plainId (by decide +kernel) _]
    unfold Builtin.«collections.deque.extend.loop»
    dsimp only
    refine wpAny_bind (wpAny_pure ?_)
    have hi : i < items.length := by omega
    refine wpAny_bind (wpAny_pyNext_list_item hit hl (x := items[i]) (by simp [hi]) fun h' hit' hs => ?_)
    have hd' : h'.get? d = some (dqObj n (items.take i)) := (hs.2 d h1).trans hd
    dsimp only
    refine field_x hd' ?_
    rw [if_neg (by decide)]
    refine wpAny_bind (maxlen_x hd' ?_)
    rw [if_pos (by decide)]
    refine wpAny_bind (pushRight_x hd' (by simp; omega) fun h'' hd'' hs' => ?_)
    refine wpAny_pure ⟨plainId_quiet (by decide +kernel) _, ?_⟩
    have e : items.take i ++ [items[i]] = items.take (i + 1) := by
      rw [List.take_add_one]; simp [hi]
    rw [e] at hd''
    refine extloop_x hh h1 h2 h3 hz k (i + 1) _ _ (by omega) hd'' (hit'.at fun o e => (hs'.2 it (Ne.symm h1)).trans e) ?_ ?_
    · exact (hl.at fun o e => (hs.2 l h2).trans e).at fun o e => (hs'.2 l (Ne.symm h3)).trans e
    · intro h3' n' e1 e2
      exact hR h3' n' e1 fun b o b1 b2 e => e2 b o b1 b2 ((hs'.2 b b1).trans ((hs.2 b b2).trans e))


theorem extend_c {d l : Addr} {items : List Value} {n : Int} {R : Result → Shared → Prop} (hh : A.handled = none) (h3 : d ≠ l) (hz : items.length ≤ sizeLine)
   (hd : s.heap.get? d = some (dqObj n [])) (hl : s.heap.IsList l items.toArray)
   (h : ∀ h' n', h'.get? d = some (dqObj n' items) → (∀ b o, b ≠ d → s.heap.get? b = some o → h'.get? b = some o) → R (.ok (.ret .none)) { s with heap := h' }) :
   codeAny (model prog w) A (.builtin "collections.deque.extend" ⟨[.ref d, .ref l], []⟩) R s := by
  refine codeAny_builtin FX.entry_extend ?_
  rw [Around.under_plainId (by decide +kernel) _]
  unfold Builtin.«collections.deque.extend»
  refine wpAny_bind (wpAny_pure ?_)
  have hne : (Value.ref d == Value.ref l) = false := by simp [h3]
  dsimp only
  rw [hne, if_neg (by decide)]
  refine field_x hd ?_
  refine wpAny_bind (wpAny_pyIter_list hl ?_)
  refine wpAny_pure ⟨plainId_quiet (by decide +kernel) _, ?_⟩
  have hlt := Heap.lt_size hd
  obtain ⟨ol, hol, _⟩ := id hl
  have hlt2 := Heap.lt_size hol
  refine extloop_x (items := items) hh (Nat.ne_of_lt hlt) (Nat.ne_of_lt hlt2) h3 hz items.length 0 n _ (by omega) (by simpa using Heap.get?_push_of_some _ hd) ⟨_, Heap.get?_push_size _ rfl, rfl, rfl⟩ (hl.push _) ?_
  intro h' n' e1 e2
  exact h h' n' e1 fun b o b1 e => e2 b o b1 (Nat.ne_of_lt (Heap.lt_size e)) (Heap.get?_push_of_some _ e)

theorem init_x {d l : Addr} {items : List Value} (hz : items.length ≤ sizeLine) : Meets (Builtin.«collections.deque.__init__» ⟨[.ref d, .ref l], []⟩) (fun A R s => A.handled = none ∧ d ≠ l ∧ s.heap.get? d = some (dqObj 0 []) ∧ s.heap.IsList l items.toArray ∧
    ∀ h' n', h'.get? d = some (dqObj n' items) → (∀ b o, b ≠ d → s.heap.get? b = some o → h'.get? b = some o) → R (.ok (.ret .none)) { s with heap := h' }) := by
  refine Meets.of_wp fun prog w A R s hs => ?_
  obtain ⟨hh, h3, hd, hl, hR⟩ := hs
  unfold Builtin.«collections.deque.__init__»
  dsimp only
  rw [if_neg (by simp)]
  repeat (any_goals wp_step)
  have hd' : (s.heap.update d (Obj.mapFields fun x => x.setIfInBounds 0 Value.none)).get? d = some (dqObj 0 []) := by
    rw [Heap.get?_update_self _ hd (by rfl)]; rfl
  have hs : Heap.SameBut d s.heap (s.heap.update d (Obj.mapFields fun x => x.setIfInBounds 0 Value.none)) := Heap.SameBut.update ..
  refine extend_c (s := ⟨s.heap.update d (Obj.mapFields fun x => x.setIfInBounds 0 Value.none), s.gens, s.drawn, s.toks, s.os⟩) hh h3 hz hd' (hl.at fun o e => (hs.2 l (Ne.symm h3)).trans e) fun h' n' e1 e2 => ?_
  refine wpAny_pure ?_
  exact wpAny_pure ⟨_, rfl, hR h' n' e1 fun b o b1 e => e2 b o b1 ((hs.2 b b1).trans e)⟩

theorem deque_x {l : Addr} {items : List Value} {Q : Value → Shared → Prop} (hh : A.handled = none) (hz : items.length ≤ sizeLine) (hl : s.heap.IsList l items.toArray)
   (h : ∀ h' n', h'.get? s.heap.objs.size = some (dqObj n' items) → Keeps s.heap h' → Q (.ref s.heap.objs.size) { s with heap := h' }) :
   wpAny (model prog w) A (call (.type "collections.deque") [.ref l]) Q E s := by
  obtain ⟨ol, hol, _⟩ := id hl
  have hlt2 := Heap.lt_size hol
  refine callType_meets (Q₁ := fun obj s₁ => obj = .ref s.heap.objs.size ∧ s₁ = { s with heap := s.heap.push (dqObj 0 []) }) FX.called_deque (FX.typeCall_deque _) (FX.newCall_deque _) FX.entry_new FX.entry_init new_x ⟨rfl, rfl⟩ ?_
  rintro obj s₁ ⟨rfl, rfl⟩
  have hg : (s.heap.push (dqObj 0 [])).get? s.heap.objs.size = some (dqObj 0 []) := Heap.get?_push_size _ rfl
  refine ⟨⟨_, hg, rfl⟩, FX.args_init _ _, _, init_x hz, hh, Ne.symm (Nat.ne_of_lt hlt2), hg, hl.push _, ?_⟩
  intro h' n' e1 e2
  exact ⟨rfl, h h' n' e1 fun b o e => e2 b o (Nat.ne_of_lt (Heap.lt_size e)) (Heap.get?_push_of_some _ e)⟩


theorem len_body_dq {d : Addr} {n : Int} {xs : List Value} {Q : Value → Shared → Prop} (hd : s.heap.get? d = some (dqObj n xs)) (hfit : (xs.length : Int) < 2 ^ 63)
    (h : ∀ t tk, Q (.int xs.length t) { s with toks := tk }) : wpAny (model prog w) A (Builtin.«len» ⟨[.ref d], []⟩) (fun fin s' => ∃ r, fin = .done (.ret r) ∧ Q r s') E s := by
  have hT : s.TypeIs (.ref d) "collections.deque" := ⟨_, hd, rfl⟩
  unfold Builtin.«len»
  refine wpAny_bind (m := oneArg "len" _) (wpAny_pure ?_)
  refine wpAny_bind (m := callSpecial? (.ref d) (Str.ofString "__len__")) (wpAny_callSpecial?_slot (name := Str.ofString "__len__") hT FX.slot_len
    (wpAny_call_entry FX.slot_len hT FX.entry_len ?_ (FX.args_len _)))
  refine len_gives hd ⟨_, rfl, ?_⟩
  refine wpAny_bind (wpAny_holding (wpAny_pure ?_))
  refine wpAny_bind (wpAny_letGo ?_)
  show wpAny _ _ (if ((xs.length : Nat) : Int) < 0 then _ else _) _ _ _
  rw [if_neg (by omega)]
  show wpAny _ _ (if ((xs.length : Nat) : Int) ≥ 2 ^ 63 then _ else _) _ _ _
  rw [if_neg (by omega)]
  exact wpAny_bind (wpAny_mkInt (wpAny_pure ⟨_, rfl, h _ _⟩))

theorem truthy_dq {d : Addr} {n : Int} {xs : List Value} {Q : Bool → Shared → Prop} (hd : s.heap.get? d = some (dqObj n xs)) (hz : xs.length ≤ sizeLine)
   (h : ∀ tk, Q (!xs.isEmpty) { s with toks := tk }) : wpAny (model prog w) A (truthy (.ref d)) Q E s := by
  have hT : s.TypeIs (.ref d) "collections.deque" := ⟨_, hd, rfl⟩
  have hz' : xs.length ≤ 16777216 := hz
  have hfit : (xs.length : Int) < 2 ^ 63 := by omega
  have hne : ((xs.length : Int) != 0) = !xs.isEmpty := by
    cases xs with
    | nil => rfl
    | cons x xs => simp; omega
  have key : wpAny (model prog w) A (runValue (.builtin "len" ⟨[.ref d], []⟩)) (fun r s' => ∃ t, r = .int xs.length t ∧ Q (!xs.isEmpty) s') E s := by
    refine wpAny_runValue (codeAny_builtin entry_len ?_)
    rw [Around.under_plainId plain_len _]
    exact wpAny_mono (len_body_dq (Q := fun r s' => ∃ t, r = .int xs.length t ∧ Q (!xs.isEmpty) s') hd hfit fun t tk => ⟨t, rfl, h tk⟩)
      (fun fin s' h' => by obtain ⟨r, rfl, hq⟩ := h'; exact hq) fun _ _ e => e
  unfold truthy
  refine wpAny_bind (wpAny_callSpecial?_none (name := Str.ofString "__bool__") hT FX.nobool_deque ?_)
  refine wpAny_bind (wpAny_specialOf (name := Str.ofString "__len__") hT FX.slot_len.lookup ?_)
  exact wpAny_bind (wpAny_mono key (fun r s' h' => by obtain ⟨t, rfl, hq⟩ := h'; exact wpAny_pure (hne ▸ hq)) fun _ _ e => e)

theorem truthy_match {d : Addr} {o : Obj} {Q : Bool → Shared → Prop} (hd : s.heap.get? d = some o) (ho : o.cls = .type "re.Match")
   (h : Q true s) : wpAny (model prog w) A (truthy (.ref d)) Q E s := by
  have hT : s.TypeIs (.ref d) "re.Match" := ⟨_, hd, ho⟩
  unfold truthy
  refine wpAny_bind (wpAny_callSpecial?_none (name := Str.ofString "__bool__") hT FX.nobool_match ?_)
  refine wpAny_bind (wpAny_specialOf (name := Str.ofString "__len__") hT FX.nolen_match ?_)
  exact wpAny_pure h

/-- the methods' look-ups -/
theorem method_dq {d : Addr} {n : Int} {xs : List Value} {pl : Sem Bool} {Q : Value × List Value → Shared → Prop} (hd : s.heap.get? d = some (dqObj n xs)) 
    (h : Q (.builtin "collections.deque.popleft", [.ref d]) s) : wpAny (model prog w) A (getMethod (.ref d) "popleft" pl) Q E s :=
  getMethod_builtin ⟨_, hd, rfl⟩ FX.plainAttrs_deque FX.slot_popleft FX.type_popleft (fun a e => by cases e; exact ⟨_, hd, rfl⟩) h
theorem method_pattern {d : Addr} {o : Obj} {pl : Sem Bool} {Q : Value × List Value → Shared → Prop} (hd : s.heap.get? d = some o) (ho : o.cls = .type "re.Pattern") (hc : o.dict = none)
    (h : Q (.builtin "re.Pattern.match", [.ref d]) s) : wpAny (model prog w) A (getMethod (.ref d) "match" pl) Q E s :=
  getMethod_builtin ⟨_, hd, ho⟩ FX.plainAttrs_pattern FX.slot_match FX.type_match (fun a e => by cases e; exact ⟨_, hd, hc⟩) h
theorem method_match {d : Addr} {o : Obj} {pl : Sem Bool} {Q : Value × List Value → Shared → Prop} (hd : s.heap.get? d = some o) (ho : o.cls = .type "re.Match") (hc : o.dict = none)
    (h : Q (.builtin "re.Match.group", [.ref d]) s) : wpAny (model prog w) A (getMethod (.ref d) "group" pl) Q E s :=
  getMethod_builtin ⟨_, hd, ho⟩ FX.plainAttrs_match FX.slot_group FX.type_group (fun a e => by cases e; exact ⟨_, hd, hc⟩) h

theorem entry_protoindex : entryFor table "proto.index" = some Builtin.«proto.index» := entryFor_of_tree (by kernel_rfl)
theorem seqkey_dq {d : Addr} {o : Obj} {t : Tok} {Q : Value → Shared → Prop} (hd : s.heap.get? d = some o) (ho : o.cls = .type "collections.deque")
   (h : ∀ t tk, Q (.int 0 t) { s with toks := tk }) : wpAny (model prog w) A (sequenceKey (.ref d) (.int 0 t) "__getitem__") Q E s := by
  have hT : s.TypeIs (.ref d) "collections.deque" := ⟨_, hd, ho⟩
  unfold sequenceKey
  refine wpAny_bind (wpAny_typeOf hT ?_)
  dsimp only
  rw [if_neg (by decide)]
  refine wpAny_bind (wpAny_of_eq FX.slot_getitem.lookup ?_)
  dsimp only
  rw [if_neg (by decide +kernel)]
  refine wpAny_bind (wpAny_specialOf (name := Str.ofString "__index__") (typeIs_int s 0 t) F.slot_int_index.lookup ?_)
  rw [if_neg (by decide)]
  refine wpAny_bind (wpAny_rule ?_)
  refine wpAny_runValue (codeAny_builtin entry_protoindex ?_)
  rw [Around.under_plainId (by decide +kernel) _]
  unfold Builtin.«proto.index»
  dsimp only
  refine wpAny_bind (wpAny_pure ?_)
  rw [if_neg (by decide)]
  exact wpAny_bind (wpAny_mkInt (wpAny_pure (h _ _)))
theorem getItem_dq {d : Addr} {n : Int} {t : Tok} {x : Value} {xs : List Value} {Q : Value → Shared → Prop} (hd : s.heap.get? d = some (dqObj n (x :: xs))) 
   (h : ∀ tk, Q x { s with toks := tk }) : wpAny (model prog w) A (getItem (.ref d) (.int 0 t)) Q E s := by
  unfold getItem
  refine wpAny_holding ?_
  refine wpAny_bind (seqkey_dq hd rfl fun t tk => ?_)
  refine wpAny_bind (wpAny_callSpecial?_slot (name := Str.ofString "__getitem__") (T := "collections.deque") ⟨_, hd, rfl⟩ FX.slot_getitem (item0_x hd ?_))
  exact wpAny_pure (h _)
theorem item_dq {d : Addr} {n : Int} {t : Tok} {x : Value} {xs : List Value} {value slice : Expr} {Q : Value → Shared → Prop} (hd : s.heap.get? d = some (dqObj n (x :: xs))) 
   (h : ∀ tk, Q x { s with toks := tk }) (hs : subscripted slice false (.ref d) (.int 0 t) = operate [.ref d, .int 0 t] (getItem (.ref d) (.int 0 t)) := by with_unfolding_all rfl) :
    wpAny (model prog w) A (subscriptTail value slice (.ref d) (.int 0 t)) Q E s :=
  tail_any (T := "collections.deque") ⟨_, hd, rfl⟩ FX.slot_getitem.lookup (getItem_dq hd h) hs
end
end Mine
end
section
open PySem PySem.W PySem.Calls PyProof.Rows PySem.Spec
namespace Mine
open PySem.Builtin.Re

theorem runFor_add : ∀ (a b : Nat) (m : Sre.M), m.runFor (a + b) = (m.runFor a).runFor b
  | 0, b, m => by rw [Nat.zero_add]; rfl
  | a + 1, b, m => by
    have e : a + 1 + b = (a + b) + 1 := by omega
    rw [e]
    by_cases h : m.outcome.isSome = true
    · have h1 : m.runFor (a + b + 1) = m := by simp only [Sre.M.runFor, h, if_true]
      have h2 : m.runFor (a + 1) = m := by simp only [Sre.M.runFor, h, if_true]
      rw [h1, h2]
      cases b with
      | zero => rfl
      | succ b => simp only [Sre.M.runFor, h, if_true]
    · have h1 : m.runFor (a + b + 1) = m.step.runFor (a + b) := by simp only [Sre.M.runFor, h]; rfl
      have h2 : m.runFor (a + 1) = m.step.runFor a := by simp only [Sre.M.runFor, h]; rfl
      rw [h1, h2]
      exact runFor_add a b m.step
theorem runFor_done {m : Sre.M} (h : m.outcome.isSome = true) : ∀ n, m.runFor n = m
  | 0 => rfl
  | n + 1 => by simp only [Sre.M.runFor, h, if_true]

section
variable {M : Model} {w : World} {A : Around} {E : Value → Shared → Prop} {s : Shared}
theorem drive_x {Q : Sre.M → Shared → Prop} : ∀ (k turns : Nat) (m : Sre.M), k < turns → (m.runFor (4 * (k + 1))).outcome.isSome = true → Q (m.runFor (4 * (k + 1))) s → wpAny M A (reDrive turns m) Q E s
  | 0, turns + 1, m, _, h, hQ => by
    show wpAny M A (if (m.runFor 4).outcome.isSome = true then pure (m.runFor 4) else _) Q E s
    rw [if_pos h]
    exact wpAny_pure hQ
  | k + 1, turns + 1, m, hk, h, hQ => by
    have e : 4 * (k + 1 + 1) = 4 + 4 * (k + 1) := by omega
    rw [e, runFor_add] at h hQ
    show wpAny M A (if (m.runFor 4).outcome.isSome = true then pure (m.runFor 4) else _) Q E s
    by_cases h1 : (m.runFor 4).outcome.isSome = true
    · rw [if_pos h1]
      rw [runFor_done h1] at hQ
      exact wpAny_pure hQ
    · rw [if_neg h1]
      exact wpAny_bind (wpAny_rule (drive_x k turns _ (by omega) h hQ))
  | _, 0, _, h, _, _ => absurd h (Nat.not_lt_zero _)

theorem rules_x {c : Nat → Bool} {f : Nat → String} {Q : PUnit → Shared → Prop} (hQ : Q PUnit.unit s) : ∀ l : List Nat,
    wpAny M A (forIn l PUnit.unit fun i (_ : PUnit) => if c i = true then (rule (f i) >>= fun _ => pure (ForInStep.yield PUnit.unit)) else pure (ForInStep.yield PUnit.unit)) Q E s
  | [] => by rw [List.forIn_nil]; exact wpAny_pure hQ
  | i :: l => by
    rw [List.forIn_cons]
    refine wpAny_bind ?_
    by_cases h : c i = true
    · rw [if_pos h]
      exact wpAny_bind (wpAny_rule (wpAny_pure (rules_x hQ l)))
    · rw [if_neg h]
      exact wpAny_pure (rules_x hQ l)

theorem toEnd_x {m : Sre.M} {k : Nat} {Q : Option Sre.M → Shared → Prop} (hk : k < 100000)
    (h : match (m.runFor (4 * (k + 1))).outcome with | some .matched => Q (some (m.runFor (4 * (k + 1)))) s | some .failed => Q none s | _ => False) :
    wpAny M A (reRunToEnd m) Q E s := by
  unfold reRunToEnd
  refine wpAny_bind (drive_x k (2 ^ 64) m (Nat.lt_of_lt_of_le hk (by decide)) ?_ ?_)
  · revert h
    cases (m.runFor (4 * (k + 1))).outcome with
    | none => exact fun h => h.elim
    | some _ => exact fun _ => rfl
  · refine wpAny_bind (rules_x ?_ _)
    revert h
    cases h1 : (m.runFor (4 * (k + 1))).outcome with
    | none => exact fun h => h.elim
    | some o =>
      cases o with
      | matched => exact fun h => wpAny_pure h
      | failed => exact fun h => wpAny_pure h
      | stuck _ => exact fun h => h.elim
end

/-- what a pattern makes of a text: none: not known; some none: no match; some (some spans) -/
def fuelS : Nat := 4 * 1000
def spansOf (g : Nat) (m : Sre.M) : List Int :=
  (m.start : Int) :: (m.handed : Int) :: (List.range g).flatMap fun g =>
    match if ((2 * g + 1 : Nat) : Int) ≤ m.lastmark then (m.marks.getD (2 * g) none, m.marks.getD (2 * g + 1) none) else (none, none) with
    | (some b, some e) => [(b : Int), (e : Int)]
    | _ => [-1, -1]
def badSpan (g : Nat) (m : Sre.M) : Bool := (List.range g).any (fun g => match m.marks.getD (2 * g) none, m.marks.getD (2 * g + 1) none with | some b, some e => ((2 * g + 1 : Nat) : Int) ≤ m.lastmark && e < b | _, _ => false)
def runRe (code : Array Nat) (g : Nat) (x : Str) : Option (Option (List Int)) :=
  let m := (Sre.forMatch code x.cps g 0 x.cps.size false false).runFor fuelS
  match m.outcome with
  | some .matched => if badSpan g m then none else some (some (spansOf g m))
  | some .failed => some none
  | _ => none

abbrev patObj (v0 v1 v3 v4 : Value) (g : Nat) (c : Addr) : Obj := { cls := .type "re.Pattern", data := .fields #[v0, v1, .int g 0, v3, v4, .ref c, .int 0 0] }
abbrev matObj (x : Str) (t : Tok) (p : Addr) (a b : Int) (l : Int) (T : Addr) : Obj := { cls := .type "re.Match", data := .fields #[.str x t, .ref p, .int a 0, .int b 0, .int l 0, .ref T] }
abbrev spanObj (sp : List Int) : Obj := { cls := .type "tuple", data := .seq (sp.map fun i => Value.int i 0).toArray }
section
variable {prog : Program} {w : World} {A : Around} {E : Value → Shared → Prop} {s : Shared}

theorem match_x {p c : Addr} {v0 v1 v3 v4 : Value} {g : Nat} {x : Str} {t : Tok} {its : Array Value} {nn : Nat} {code : Array Nat} {r : Option (List Int)} {Q : Value → Shared → Prop}
    (hp : s.heap.get? p = some (patObj v0 v1 v3 v4 g c)) (hc : s.heap.get? c = some { cls := .type "tuple", data := .seq its nn }) (hcode : (its.map reRawOf).map (·.toNat) = code)
    (hr : runRe code g x = some r) (hx : x.length ≤ sizeLine) (hg : g ≤ 100)
    (h0 : r = none → Q .none s)
    (h1 : ∀ sp l, r = some sp → Q (.ref (s.heap.objs.size + 1)) { s with heap := (s.heap.push (spanObj sp)).push (matObj x t p 0 x.cps.size l s.heap.objs.size) }) :
    wpAny (model prog w) A (call (.builtin "re.Pattern.match") [.ref p, .str x t]) Q E s := by
  refine wpAny_call_entry FX.slot_match ⟨_, hp, rfl⟩ FX.entry_match ?_ (FX.args_match _ _)
  unfold Builtin.«re.Pattern.match» reTarget
  generalize hRA : reAnswer = RA
  repeat (any_goals wp_step)
  subst hRA
  have e1 : (some its).getD #[] = its := rfl
  have hx' : x.length ≤ 16777216 := hx
  have e2 : (fun (i : Int) => min i.toNat x.cps.size) (2 ^ 63 - 1) = x.cps.size := by
    show min (2 ^ 63 - 1 : Int).toNat x.cps.size = x.cps.size
    have : x.cps.size = x.length := rfl
    omega
  have e3 : (fun (i : Int) => min i.toNat x.cps.size) 0 = 0 := by
    show min (0 : Int).toNat x.cps.size = 0
    omega
  have e4 : reRawNat (#[v0, v1, Value.int (↑g) 0, v3, v4, Value.ref c, Value.int 0 0].getD 2 Value.none) = g := by
    show (g : Int).toNat = g
    omega
  simp only [e1, e2, e3, e4, hcode]
  unfold reAnswer
  dsimp only
  have hfu : 4 * (999 + 1) = fuelS := rfl
  unfold runRe at hr
  dsimp only at hr
  refine wpAny_bind (toEnd_x (k := 999) (by decide) ?_)
  rw [hfu]
  generalize hm : (Sre.forMatch code x.cps g 0 x.cps.size false false).runFor fuelS = m at hr ⊢
  cases ho : m.outcome with
  | none => rw [ho] at hr; cases hr
  | some o =>
    rw [ho] at hr
    cases o with
    | stuck _ => cases hr
    | failed =>
      cases hr
      exact wpAny_pure ⟨_, rfl, h0 rfl⟩
    | matched =>
      dsimp only at hr ⊢
      by_cases hb : badSpan g m = true
      · rw [if_pos hb] at hr; cases hr
      · rw [if_neg hb] at hr
        cases hr
        have key : ∀ L : List Value, L = ((spansOf g m).map fun i => Value.int i 0) → 
            wpAny (model prog w) A.in1 (newTuple L >>= fun T => newFields "re.Match" [Value.str x t, Value.ref p, rawInt ((0 : Nat) : Int), rawInt x.cps.size, rawInt m.lastindex, T])
             (fun a s' => wpAny (model prog w) A.in1 (ret a) (fun fin s' => ∃ v, fin = Fin.done (Flow.ret v) ∧ Q v s') E s') E { heap := s.heap, gens := s.gens, drawn := s.drawn, toks := s.toks, os := s.os } := by
          rintro L rfl
          refine wpAny_bind (wpAny_newObj_type ?_ ?_)
          · refine wpAny_newObj_type ?_ ?_
            · refine wpAny_pure ⟨_, rfl, ?_⟩
              have h2 := h1 _ m.lastindex rfl
              have e5 : (s.heap.push (spanObj (spansOf g m))).objs.size = s.heap.objs.size + 1 := Heap.size_push ..
              rw [e5]
              exact h2
            · show (List.toArray _).size ≤ sizeLine + 2
              simp [sizeLine]
          · show (List.toArray _).size ≤ sizeLine
            have hl : ∀ g : Nat, ((List.range g).flatMap fun g =>
              match if ((2 * g + 1 : Nat) : Int) ≤ m.lastmark then (m.marks.getD (2 * g) none, m.marks.getD (2 * g + 1) none) else (none, none) with
              | (some b, some e) => [(b : Int), (e : Int)]
              | _ => [-1, -1]).length = 2 * g := by
              intro g
              induction g with
              | zero => rfl
              | succ k ih =>
                rw [List.range_succ, List.flatMap_append, List.length_append, ih]
                simp only [List.flatMap_cons, List.flatMap_nil, List.append_nil]
                split <;> simp <;> omega
            have hl2 : (spansOf g m).length = 2 * g + 2 := by
              unfold spansOf
              simp only [List.length_cons]
              have := hl g
              omega
            simp only [List.size_toArray, List.length_map, hl2]
            have : sizeLine = 16777216 := rfl
            omega
        refine wpAny_bind ?_
        unfold reNewMatch
        dsimp only
        split
        · rename_i hc
          exact (hb hc).elim
        · refine key _ ?_
          unfold spansOf
          simp only [List.map_cons, List.map_flatMap]
          congr 2
          congr 1
          funext k
          by_cases h9 : ((2 * k + 1 : Nat) : Int) ≤ m.lastmark
          · simp only [if_pos h9]
            cases m.marks.getD (2 * k) none <;> cases m.marks.getD (2 * k + 1) none <;> rfl
          · simp only [if_neg h9]
            rfl
end
end Mine
end
section
open PySem PySem.W PySem.Calls PyProof.Rows PySem.Spec
namespace Mine
open PySem.Builtin.Re
section
variable {prog : Program} {w : World} {A : Around} {E : Value → Shared → Prop} {s : Shared}
def cut (x : Str) (b e : Int) : Str := ⟨x.cps.extract b.toNat e.toNat⟩
theorem cut_len (x : Str) (b e : Int) : (cut x b e).length ≤ x.length := by
  show (x.cps.extract b.toNat e.toNat).size ≤ x.cps.size
  simp only [Array.size_extract]
  omega
theorem group_x {d T p : Addr} {x : Str} {t tk : Tok} {a b l : Int} {sp : List Int} {k : Int} {Q : Value → Shared → Prop}
    (hd : s.heap.get? d = some (matObj x t p a b l T)) (hT : s.heap.get? T = some (spanObj sp)) (hk0 : 0 ≤ k) (hk : 2 * k + 1 < sp.length)
    (hb : 0 ≤ sp.getD (2 * k.toNat) (-1)) (he : 0 ≤ sp.getD (2 * k.toNat + 1) (-1)) (hx : x.length ≤ sizeLine)
    (h : ∀ t tk, Q (.str (cut x (sp.getD (2 * k.toNat) (-1)) (sp.getD (2 * k.toNat + 1) (-1))) t) { s with toks := tk }) :
    wpAny (model prog w) A (call (.builtin "re.Match.group") [.ref d, .int k tk]) Q E s := by
  refine wpAny_call_entry FX.slot_group ⟨_, hd, rfl⟩ FX.entry_group ?_ (FX.args_group _ _)
  unfold Builtin.«re.Match.group»
  have em : ((sp.map fun i => Value.int i 0).toArray).map reRawOf = sp.toArray := by
    apply Array.ext'
    simp [reRawOf, Function.comp_def]
  have hs2 : ((some ((sp.map fun i => Value.int i 0).toArray)).getD #[]).map reRawOf = sp.toArray := em
  generalize hRN : reGroupNumber = RN
  generalize hRT : reGroupText = RT
  repeat (any_goals wp_step)
  rw [hs2]
  subst hRN
  refine wpAny_bind ?_
  refine wpAny_pure ?_
  dsimp only
  rw [if_pos (show (some k).isSome = true from rfl)]
  refine wpAny_bind ?_
  refine wpAny_pure ?_
  have hc : (decide (k < 0) || decide (2 * k ≥ (sp.toArray.size : Int))) = false := by
    simp only [List.size_toArray, Bool.or_eq_false_iff, decide_eq_false_iff_not]
    omega
  rw [if_neg (by rw [hc]; decide)]
  refine wpAny_pure ?_
  subst hRT
  refine wpAny_bind ?_
  unfold reGroupText
  dsimp only
  have e1 : ∀ j, sp.toArray.getD j (-1) = sp.getD j (-1) := fun j => by simp
  have hc2 : (decide (sp.getD (2 * k.toNat) (-1) < 0) || decide (sp.getD (2 * k.toNat + 1) (-1) < 0)) = false := by
    simp only [Bool.or_eq_false_iff, decide_eq_false_iff_not]
    omega
  simp only [e1]
  rw [if_neg (by rw [hc2]; decide)]
  refine wpAny_bind (wpAny_pure ?_)
  dsimp only
  unfold reSlice
  rw [if_pos (show ((0 : Nat) == 0) = true from rfl)]
  have hl := cut_len x (sp.getD (2 * k.toNat) (-1)) (sp.getD (2 * k.toNat + 1) (-1))
  refine wpAny_mkStr ?_ ?_
  · exact wpAny_pure ⟨_, rfl, h _ _⟩
  · exact Nat.le_trans hl hx
end
end Mine
end
section
open PySem PySem.W PySem.Calls PyProof.Rows PySem.Spec
namespace Mine
def twinCode : Array Nat := #[14, 4, 0, 2, 4294967295, 17, 0, 24, 9, 1, 4294967295, 13, 4, 8, 12, 0, 1, 17, 1, 13, 4, 8, 13, 0, 1]
def paramCode : Array Nat := #[14, 4, 0, 10, 4294967295, 17, 0, 24, 9, 1, 4294967295, 13, 4, 8, 12, 0, 1, 17, 1, 16, 58, 16, 112, 16, 97, 16, 114, 16, 97, 16, 109, 16, 32, 17, 2, 26, 5, 1, 4294967295, 2, 1, 17, 3, 16, 58, 1]
end Mine
end
section
open PySem PySem.W PySem.Calls PyProof.Rows PySem.Spec
namespace Mine
section
variable {prog : Program} {w : World} {A : Around} {E : Value → Shared → Prop} {s : Shared} {base h h' : Heap} {L : Addr} {m : Str → Option Value} {news news' : List (Addr × Obj)}
theorem fr_keep (F : Fr base L h m) (k : Keeps h h') : Fr base L h' m := ⟨F.ns.at' fun o e => k _ o e, fun b o e => k b o (F.keep b o e), F.above⟩
theorem news_keep (N : News base L h news) (k : Keeps h h') : News base L h' news := fun p hp => ⟨k _ _ (N p hp).1, (N p hp).2⟩
theorem news_add {a : Addr} {o : Obj} (F : Fr base L h m) (N : News base L h news) (k : Keeps h h') (hx : h'.get? a = some o) (hf : h.get? a = none) : News base L h' ((a, o) :: news) := by
  intro p hp
  rcases List.mem_cons.mp hp with rfl | hp
  · refine ⟨hx, ?_, ?_⟩
    · rintro rfl
      obtain ⟨oL, _, _, hL, _⟩ := F.ns
      rw [hf] at hL; cases hL
    · cases q : base.get? a with
      | none => rfl
      | some o' => have := F.keep a o' q; rw [hf] at this; cases this
  · exact news_keep N k p hp
theorem get_size_none {h : Heap} : h.get? h.objs.size = none := by
  cases q : h.get? h.objs.size with
  | none => rfl
  | some o => exact absurd (Heap.lt_size q) (Nat.lt_irrefl _)
theorem news_lt (N : News base L h news) : ∀ p ∈ news, p.1 < h.objs.size := fun p hp => Heap.lt_size (N p hp).1

theorem deque_N {l : Addr} {items : List Value} {Q : Value → Shared → Prop} (hh : A.handled = none) (F : Fr base L s.heap m) (N : News base L s.heap news) (hl : s.heap.IsList l items.toArray) (hz : items.length ≤ sizeLine)
   (hq : ∀ d n' h', Fr base L h' m → News base L h' ((d, dqObj n' items) :: news) → (∀ p ∈ news, p.1 < d) → Q (.ref d) { s with heap := h' }) :
   wpAny (model prog w) A (call (.type "collections.deque") [.ref l]) Q E s :=
  deque_x hh hz hl fun h' n' h1 k => hq _ n' h' (fr_keep F k) (news_add F N k h1 get_size_none) (news_lt N)

theorem popleft_N {d : Addr} {n : Int} {x : Value} {xs : List Value} {Q : Value → Shared → Prop} (F : Fr base L s.heap m) (N : News base L s.heap news) (U : Upd d (dqObj n (x :: xs)) (dqObj (n+1) xs) news news') (hz : xs.length ≤ sizeLine)
   (hq : ∀ h', Fr base L h' m → News base L h' news' → Q x { s with heap := h' }) :
   wpAny (model prog w) A (call (.builtin "collections.deque.popleft") [.ref d]) Q E s := by
  obtain ⟨pre, post, rfl, rfl, a, b⟩ := U.split
  have z := N (d, dqObj n (x :: xs)) (List.mem_append.mpr (.inr (.head _)))
  exact popleft_x z.1 hz fun h' ho' hs => hq h' (F.change hs z.2.1 z.2.2) (news_set N a b hs ho')

theorem truthy_dq_cons {d : Addr} {n : Int} {x : Value} {xs : List Value} {Q : Bool → Shared → Prop} (N : News base L s.heap news) (hm : (d, dqObj n (x :: xs)) ∈ news) (hz : (x :: xs).length ≤ sizeLine)
   (hq : ∀ tk, Q true { s with toks := tk }) : wpAny (model prog w) A (truthy (.ref d)) Q E s := truthy_dq (N _ hm).1 hz hq
theorem truthy_dq_nil {d : Addr} {n : Int} {Q : Bool → Shared → Prop} (N : News base L s.heap news) (hm : (d, dqObj n []) ∈ news)
   (hq : ∀ tk, Q false { s with toks := tk }) : wpAny (model prog w) A (truthy (.ref d)) Q E s := truthy_dq (N _ hm).1 (Nat.zero_le _) hq
theorem truthy_mat_N {d : Addr} {x : Str} {t : Tok} {p : Addr} {a b l : Int} {T : Addr} {Q : Bool → Shared → Prop} (N : News base L s.heap news) (hm : (d, matObj x t p a b l T) ∈ news) 
   (hq : Q true s) : wpAny (model prog w) A (truthy (.ref d)) Q E s := truthy_match (N _ hm).1 rfl hq
theorem method_dq_N {d : Addr} {n : Int} {xs : List Value} {pl : Sem Bool} {Q : Value × List Value → Shared → Prop} (N : News base L s.heap news) (hm : (d, dqObj n xs) ∈ news)
    (hq : Q (.builtin "collections.deque.popleft", [.ref d]) s) : wpAny (model prog w) A (getMethod (.ref d) "popleft" pl) Q E s := method_dq (N _ hm).1 hq
theorem method_mat_N {d : Addr} {x : Str} {t : Tok} {p : Addr} {a b l : Int} {T : Addr} {pl : Sem Bool} {Q : Value × List Value → Shared → Prop} (N : News base L s.heap news) (hm : (d, matObj x t p a b l T) ∈ news)
    (hq : Q (.builtin "re.Match.group", [.ref d]) s) : wpAny (model prog w) A (getMethod (.ref d) "group" pl) Q E s := method_match (N _ hm).1 rfl rfl hq
abbrev patI (v0 v1 v3 v4 : Value) (g : Int) (c : Addr) : Obj := { cls := .type "re.Pattern", data := .fields #[v0, v1, .int g 0, v3, v4, .ref c, .int 0 0] }
theorem method_pat_N {K : Frag} {d c : Addr} {v0 v1 v3 v4 : Value} {g : Int} {pl : Sem Bool} {Q : Value × List Value → Shared → Prop} (F : Fr base L s.heap m) (X : K.In base) (hm : K.lookup d = some (patI v0 v1 v3 v4 g c))
    (hq : Q (.builtin "re.Pattern.match", [.ref d]) s) : wpAny (model prog w) A (getMethod (.ref d) "match" pl) Q E s := method_pattern ((X.keeps F.keep) _ _ hm) rfl rfl hq

theorem match_none_N {K : Frag} {p c : Addr} {v0 v1 v3 v4 : Value} {gi : Int} {g : Nat} {x : Str} {t : Tok} {its : Array Value} {nn : Nat} {code : Array Nat} {Q : Value → Shared → Prop}
    (F : Fr base L s.heap m) (X : K.In base) (hp : K.lookup p = some (patI v0 v1 v3 v4 gi c)) (hgi : gi = (g : Int)) (hc : K.lookup c = some { cls := .type "tuple", data := .seq its nn }) (hcode : (its.map PySem.Builtin.Re.reRawOf).map (·.toNat) = code)
    (hr : runRe code g x = some none) (hx : x.length ≤ sizeLine) (hg : g ≤ 100) (hq : Q .none s) : wpAny (model prog w) A (call (.builtin "re.Pattern.match") [.ref p, .str x t]) Q E s :=
  match_x ((X.keeps F.keep) _ _ (hgi ▸ hp)) ((X.keeps F.keep) _ _ hc) hcode hr hx hg (fun _ => hq) (fun _ _ e => nomatch e)
theorem match_some_N {K : Frag} {p c : Addr} {v0 v1 v3 v4 : Value} {gi : Int} {g : Nat} {x : Str} {t : Tok} {its : Array Value} {nn : Nat} {code : Array Nat} {sp : List Int} {Q : Value → Shared → Prop}
    (F : Fr base L s.heap m) (X : K.In base) (N : News base L s.heap news) (hp : K.lookup p = some (patI v0 v1 v3 v4 gi c)) (hgi : gi = (g : Int)) (hc : K.lookup c = some { cls := .type "tuple", data := .seq its nn }) (hcode : (its.map PySem.Builtin.Re.reRawOf).map (·.toNat) = code)
    (hr : runRe code g x = some (some sp)) (hx : x.length ≤ sizeLine) (hg : g ≤ 100)
    (hq : ∀ d T l h', Fr base L h' m → News base L h' ((d, matObj x t p 0 x.cps.size l T) :: (T, spanObj sp) :: news) → (∀ p ∈ news, p.1 < T) → T < d → Q (.ref d) { s with heap := h' }) :
    wpAny (model prog w) A (call (.builtin "re.Pattern.match") [.ref p, .str x t]) Q E s := by
  refine match_x ((X.keeps F.keep) _ _ (hgi ▸ hp)) ((X.keeps F.keep) _ _ hc) hcode hr hx hg (fun e => nomatch e) (fun sp' l e => ?_)
  cases e
  have k1 : Keeps s.heap (s.heap.push (spanObj sp)) := fun b o e => Heap.get?_push_of_some _ e
  have F1 := fr_keep F k1
  have N1 := news_add F N k1 (Heap.get?_push_size _ rfl) get_size_none
  have e5 : (s.heap.push (spanObj sp)).objs.size = s.heap.objs.size + 1 := Heap.size_push ..
  have k2 : Keeps (s.heap.push (spanObj sp)) ((s.heap.push (spanObj sp)).push (matObj x t p 0 x.cps.size l s.heap.objs.size)) := fun b o e => Heap.get?_push_of_some _ e
  have F2 := fr_keep F1 k2
  have N2 := news_add F1 N1 k2 (Heap.get?_push_size _ rfl) get_size_none
  rw [e5] at N2
  exact hq _ _ l _ F2 N2 (news_lt N) (Nat.lt_succ_self _)
theorem group_N {d T p : Addr} {x : Str} {t tk : Tok} {a b l : Int} {sp : List Int} {k : Int} {Q : Value → Shared → Prop}
    (N : News base L s.heap news) (hm : (d, matObj x t p a b l T) ∈ news) (hT : (T, spanObj sp) ∈ news) (hk0 : 0 ≤ k) (hk : 2 * k + 1 < sp.length)
    (hb : 0 ≤ sp.getD (2 * k.toNat) (-1)) (he : 0 ≤ sp.getD (2 * k.toNat + 1) (-1)) (hx : x.length ≤ sizeLine)
    (hq : ∀ t tk, Q (.str (cut x (sp.getD (2 * k.toNat) (-1)) (sp.getD (2 * k.toNat + 1) (-1))) t) { s with toks := tk }) :
    wpAny (model prog w) A (call (.builtin "re.Match.group") [.ref d, .int k tk]) Q E s := group_x (N _ hm).1 (N _ hT).1 hk0 hk hb he hx hq
theorem group2_6 {d T p : Addr} {x : Str} {t tk : Tok} {a b l s1 s2 g1 g2 g3 g4 : Int} {Q : Value → Shared → Prop}
    (N : News base L s.heap news) (hm : (d, matObj x t p a b l T) ∈ news) (hT : (T, spanObj [s1, s2, g1, g2, g3, g4]) ∈ news)
    (hb : 0 ≤ g3) (he : 0 ≤ g4) (hx : x.length ≤ sizeLine) (hq : ∀ t tk, Q (.str (cut x g3 g4) t) { s with toks := tk }) :
    wpAny (model prog w) A (call (.builtin "re.Match.group") [.ref d, .int 2 tk]) Q E s := group_N N hm hT (by decide) (show (2 * 2 + 1 : Int) < 6 by decide) hb he hx hq
theorem group1_6 {d T p : Addr} {x : Str} {t tk : Tok} {a b l s1 s2 g1 g2 g3 g4 : Int} {Q : Value → Shared → Prop}
    (N : News base L s.heap news) (hm : (d, matObj x t p a b l T) ∈ news) (hT : (T, spanObj [s1, s2, g1, g2, g3, g4]) ∈ news)
    (hb : 0 ≤ g1) (he : 0 ≤ g2) (hx : x.length ≤ sizeLine) (hq : ∀ t tk, Q (.str (cut x g1 g2) t) { s with toks := tk }) :
    wpAny (model prog w) A (call (.builtin "re.Match.group") [.ref d, .int 1 tk]) Q E s := group_N N hm hT (by decide) (show (2 * 1 + 1 : Int) < 6 by decide) hb he hx hq
theorem group1_4 {d T p : Addr} {x : Str} {t tk : Tok} {a b l s1 s2 g1 g2 : Int} {Q : Value → Shared → Prop}
    (N : News base L s.heap news) (hm : (d, matObj x t p a b l T) ∈ news) (hT : (T, spanObj [s1, s2, g1, g2]) ∈ news)
    (hb : 0 ≤ g1) (he : 0 ≤ g2) (hx : x.length ≤ sizeLine) (hq : ∀ t tk, Q (.str (cut x g1 g2) t) { s with toks := tk }) :
    wpAny (model prog w) A (call (.builtin "re.Match.group") [.ref d, .int 1 tk]) Q E s := group_N N hm hT (by decide) (show (2 * 1 + 1 : Int) < 4 by decide) hb he hx hq
theorem extend_N {D b : Addr} {oa its2 : Array Value} {n n2 : Nat} {nf : Nat → List (Addr × Obj)} {Q : Value → Shared → Prop} (F : Fr base L s.heap m) (N : News base L s.heap news)
    (U : ∀ n', Upd D (W.listOf oa n) (W.listOf (oa ++ its2) n') news (nf n')) (hb : (b, W.listOf its2 n2) ∈ news) (hz : oa.size + its2.size ≤ sizeLine)
    (hq : ∀ h' n', Fr base L h' m → News base L h' (nf n') → Q .none { s with heap := h' }) :
    wpAny (model prog w) A (call (.builtin "list.extend") [.ref D, .ref b]) Q E s := by
  obtain ⟨pre, post, e1, e2, h1, h2⟩ := (U 0).split
  have e4 : oa ++ its2 = ⟨oa.toList ++ its2.toList⟩ := by apply Array.ext'; simp
  have e3 : ∀ n', nf n' = pre ++ (D, W.listOf ⟨oa.toList ++ its2.toList⟩ n') :: post := by
    intro n'
    obtain ⟨pre', post', e1', e2', h1', h2'⟩ := (U n').split
    have key : ∀ (pre pre' post post' : List (Addr × Obj)), (∀ p ∈ pre, p.1 ≠ D) → (∀ p ∈ pre', p.1 ≠ D) → pre ++ (D, W.listOf oa n) :: post = pre' ++ (D, W.listOf oa n) :: post' → pre = pre' ∧ post = post' := by
      intro pre
      induction pre with
      | nil =>
        intro pre' post post' _ h e
        cases pre' with
        | nil => simp at e; exact ⟨rfl, e⟩
        | cons p r => simp at e; exact absurd (by rw [← e.1]) (h p (.head _))
      | cons p r ih =>
        intro pre' post post' h h' e
        cases pre' with
        | nil => simp at e; exact absurd (by rw [e.1]) (h p (.head _))
        | cons p' r' =>
          simp only [List.cons_append, List.cons.injEq] at e
          obtain ⟨a, b⟩ := ih r' post post' (fun q hq => h q (.tail _ hq)) (fun q hq => h' q (.tail _ hq)) e.2
          exact ⟨by rw [e.1, a], b⟩
    obtain ⟨rfl, rfl⟩ := key _ _ _ _ h1 h1' (e1.symm.trans e1')
    rw [← e4]; exact e2'
  subst e1
  refine extend_in (ys := oa.toList) F N h1 h2 (N _ hb).1 (fun h' n' F' N' => ?_) (by rw [Array.length_toList]; exact hz)
  have := e3 n'
  exact hq h' n' F' (by rw [this]; exact N')
theorem truthy_str0 {x : Str} {t : Tok} {Q : Bool → Shared → Prop} (h0 : x.length = 0) (hq : ∀ tk, Q false { s with toks := tk }) : wpAny (model prog w) A (truthy (.str x t)) Q E s :=
  PySem.P.truthy_str (by omega) (by rw [h0]; exact hq _)
theorem truthy_str1 {x : Str} {t : Tok} {Q : Bool → Shared → Prop} (h0 : ¬ x.length = 0) (hz : x.length ≤ 16777216) (hq : ∀ tk, Q true { s with toks := tk }) : wpAny (model prog w) A (truthy (.str x t)) Q E s := by
  refine PySem.P.truthy_str (by omega) ?_
  have : ((x.length : Int) != 0) = true := by
    rw [bne_iff_ne]; omega
  rw [this]; exact hq _
theorem truthy_bool_is {b c : Bool} {Q : Bool → Shared → Prop} (h0 : b = c) (hq : Q c s) : wpAny (model prog w) A (truthy (.bool b)) Q E s := by
  subst h0
  exact wpAny_truthy_bool hq
theorem in_yes {d : Addr} {x : Str} {t : Tok} {D : List (PyData × PyData)} {dv : PyData} {Q : Value → Shared → Prop} (F : Fr base L s.heap m) (T : StrTab prog w base d D) (hl : lookup (.str x) D = some dv)
    (hq : ∀ tk, Q (.bool true) { s with toks := tk }) : wpAny (model prog w) A (compareOp .In (.str x t) (.ref d)) Q E s := by
  refine in_strTab (TabAt.keep T F.keep) ?_
  rw [hl]
  exact hq _
theorem in_no {d : Addr} {x : Str} {t : Tok} {D : List (PyData × PyData)} {Q : Value → Shared → Prop} (F : Fr base L s.heap m) (T : StrTab prog w base d D) (hl : lookup (.str x) D = none)
    (hq : ∀ tk, Q (.bool false) { s with toks := tk }) : wpAny (model prog w) A (compareOp .In (.str x t) (.ref d)) Q E s := by
  refine in_strTab (TabAt.keep T F.keep) ?_
  rw [hl]
  exact hq _
theorem item_yes {d : Addr} {x y : Str} {t : Tok} {D : List (PyData × PyData)} {value slice : Expr} {Q : Value → Shared → Prop} (F : Fr base L s.heap m) (T : StrTab prog w base d D) (hl : lookup (.str x) D = some (.str y))
    (hq : ∀ t tk, Q (.str y t) { s with toks := tk }) 
    (hs : subscripted slice false (.ref d) (.str x t) = operate [.ref d, .str x t] (getItem (.ref d) (.str x t)) := by with_unfolding_all rfl) (hg : ∀ r, letTemporaryGo value (.ref d) r = pure () := by intro _; with_unfolding_all rfl) :
    wpAny (model prog w) A (subscriptTail value slice (.ref d) (.str x t)) Q E s := by
  refine item_strTab (TabAt.keep T F.keep) hl (fun v hv => ?_) hs hg
  cases hv s.heap
  exact hq _ _
end
end Mine
namespace Mine
def Stop (P : Prop) : Prop := P
theorem Stop.out {P : Prop} (h : Stop P) : P := h
end Mine
end
section
open PySem PySem.W PySem.Calls PyProof.Rows PySem.Spec
namespace Mine
/-- what the two patterns make of a line -/
def PM (x : Str) : Option (Option (Str × Str)) := match runRe paramCode 2 x with
  | some none => some none
  | some (some [_, _, a, b, c, d]) => if 0 ≤ a ∧ 0 ≤ b ∧ 0 ≤ c ∧ 0 ≤ d then some (some (cut x a b, cut x c d)) else none
  | _ => none
def TW (x : Str) : Option (Option Str) := match runRe twinCode 1 x with
  | some none => some none
  | some (some [_, _, a, b]) => if 0 ≤ a ∧ 0 ≤ b then some (some (cut x a b)) else none
  | _ => none
theorem PM_none {x : Str} (h : PM x = some none) : runRe paramCode 2 x = some none := by
  unfold PM at h
  split at h
  · assumption
  · split at h <;> cases h
  · cases h
theorem PM_some {x g1 g2 : Str} (h : PM x = some (some (g1, g2))) : ∃ s1 s2 a b c d, runRe paramCode 2 x = some (some [s1, s2, a, b, c, d]) ∧ 0 ≤ a ∧ 0 ≤ b ∧ 0 ≤ c ∧ 0 ≤ d ∧ g1 = cut x a b ∧ g2 = cut x c d := by
  unfold PM at h
  split at h
  · cases h
  · rename_i s1 s2 a b c d e
    split at h
    · rename_i hc
      cases h
      exact ⟨s1, s2, a, b, c, d, e, hc.1, hc.2.1, hc.2.2.1, hc.2.2.2, rfl, rfl⟩
    · cases h
  · cases h
theorem TW_none {x : Str} (h : TW x = some none) : runRe twinCode 1 x = some none := by
  unfold TW at h
  split at h
  · assumption
  · split at h <;> cases h
  · cases h
theorem TW_some {x g : Str} (h : TW x = some (some g)) : ∃ s1 s2 a b, runRe twinCode 1 x = some (some [s1, s2, a, b]) ∧ 0 ≤ a ∧ 0 ≤ b ∧ g = cut x a b := by
  unfold TW at h
  split at h
  · cases h
  · rename_i s1 s2 a b e
    split at h
    · rename_i hc
      cases h
      exact ⟨s1, s2, a, b, e, hc.1, hc.2, rfl⟩
    · cases h
  · cases h
def star (x : Str) : Str := Txt.lstripChars x (Str.ofString "*")
def spc (n : Nat) : Str := Txt.mul (Str.ofString " ") (n : Int)
def NL : Str := Str.ofString "\n"
def indentOf (g1 : Str) : List Str → Option Str
  | [] => some (spc g1.length ++ Str.ofString " ")
  | y :: _ => match TW y with
    | none => none
    | some none => some (spc g1.length ++ Str.ofString " ")
    | some (some g) => some (spc g.length)
def injO (D : List (PyData × PyData)) : List Str → Option Str → Option (List Str)
  | [], _ => some []
  | x :: r, none => match PM x with
    | none => none
    | some none => (injO D r none).map (x :: ·)
    | some (some (g1, g2)) => match lookup (.str (star g2)) D with
      | none => (injO D r none).map (x :: ·)
      | some (.str txt) => match indentOf g1 r with
        | none => none
        | some ind => (injO D r (some (ind ++ txt))).map (x :: ·)
      | some _ => none
  | x :: r, some t => match PM x with
    | none => none
    | some (some _) => (injO D r none).map fun o => NL :: t :: NL :: x :: o
    | some none =>
      if (Txt.rstrip x).length = 0 then (injO D r none).map fun o => x :: t :: NL :: x :: o
      else if Txt.endswith x (Str.ofString "::") then match r with
        | y :: r' => (injO D r' (some t)).map fun o => x :: y :: o
        | [] => none
      else (injO D r (some t)).map (x :: ·)
end Mine
end
section
open PySem PySem.W PySem.Calls PyProof.Rows PySem.Spec
namespace Mine
theorem spc_len (n : Nat) : (spc n).length = n := by
  have h := len_mul_k1 (x := Str.ofString " ") (n := (n : Int)) (by decide)
  unfold spc
  rw [if_neg (by omega)] at h
  omega
def TJ : Value → Option Str → Prop
  | v, none => v = .none
  | v, some t => ∃ k, v = .str t k
/-- what holds between the turns -/
structure IJ (D : List (PyData × PyData)) (pd : Addr) (final : List Str) (n : Nat) (m : Str → Option Value) (nx : List (Addr × Obj)) : Prop where
  out : ∃ (dq ln : Addr) (rv : List Value) (oa : Array Value) (q : Int) (e : Nat) (tv : Value) (rest outs : List Str) (tj : Option Str) (o : List Str),
    n = rest.length ∧ nx = [(ln, W.listOf oa e), (dq, dqObj q rv)] ∧ dq < ln ∧
    m (Str.ofString "doclines") = some (.ref dq) ∧ m (Str.ofString "lines") = some (.ref ln) ∧ m (Str.ofString "to_inject") = some tv ∧ m (Str.ofString "inject_params") = some (.ref pd) ∧
    StrsAre rv rest ∧ StrsAre oa.toList outs ∧ TJ tv tj ∧ injO D rest tj = some o ∧ outs ++ o = final ∧
    (∀ x ∈ rest, x.length ≤ 10000) ∧ (∀ t, tj = some t → t.length ≤ 30000) ∧ rest.length ≤ 10000 ∧ final.length ≤ 262144
theorem frame_is {m : Str → Option Value} {dq ln pd : Addr} {tv : Value} (h1 : m (Str.ofString "doclines") = some (.ref dq)) (h2 : m (Str.ofString "lines") = some (.ref ln)) (h3 : m (Str.ofString "to_inject") = some tv) (h4 : m (Str.ofString "inject_params") = some (.ref pd)) :
    ∃ u : Str → Option Value, m = fun y => if y = Str.ofString "to_inject" then some tv else if y = Str.ofString "lines" then some (.ref ln) else if y = Str.ofString "doclines" then some (.ref dq) else if y = Str.ofString "inject_params" then some (.ref pd) else u y := by
  refine ⟨m, ?_⟩
  funext y
  by_cases e1 : y = Str.ofString "to_inject"
  · rw [if_pos e1, e1, h3]
  rw [if_neg e1]
  by_cases e2 : y = Str.ofString "lines"
  · rw [if_pos e2, e2, h2]
  rw [if_neg e2]
  by_cases e3 : y = Str.ofString "doclines"
  · rw [if_pos e3, e3, h1]
  rw [if_neg e3]
  by_cases e4 : y = Str.ofString "inject_params"
  · rw [if_pos e4, e4, h4]
  rw [if_neg e4]
theorem step_end {base h' : Heap} {L : Addr} {s : Shared} {D : List (PyData × PyData)} {pd : Addr} {final : List Str} {Q : Flow → Shared → Prop} {n : Nat} {m' : Str → Option Value} {news' : List (Addr × Obj)} {tk : Nat} {f : Flow}
    (dq ln : Addr) (rv : List Value) (oa : Array Value) (q : Int) (e : Nat) (tv : Value) (rest outs : List Str) (tj : Option Str) (o : List Str)
    (hf : f = .next ∨ f = .cont) (F : Fr base L h' m') (N : News base L h' news') (hn : rest.length < n) (h1 : (ln, W.listOf oa e) ∈ news') (h2 : (dq, dqObj q rv) ∈ news') (hlt : dq < ln)
    (m1 : m' (Str.ofString "doclines") = some (.ref dq)) (m2 : m' (Str.ofString "lines") = some (.ref ln)) (m3 : m' (Str.ofString "to_inject") = some tv) (m4 : m' (Str.ofString "inject_params") = some (.ref pd))
    (s1 : StrsAre rv rest) (s2 : StrsAre oa.toList outs) (s3 : TJ tv tj) (s4 : injO D rest tj = some o) (s5 : outs ++ o = final)
    (b1 : ∀ x ∈ rest, x.length ≤ 10000) (b2 : ∀ t, tj = some t → t.length ≤ 30000) (b3 : rest.length ≤ 10000) (b4 : final.length ≤ 262144) :
    WhileStep2 base L s (IJ D pd final) Q n f { s with heap := h', toks := tk } := by
  have key : ∃ h'' tk' m₂ news₂ n', ({ s with heap := h', toks := tk } : Shared) = { s with heap := h'', toks := tk' } ∧ Fr base L h'' m₂ ∧ News base L h'' news₂ ∧ n' < n ∧ IJ D pd final n' m₂ news₂ := by
    refine ⟨h', tk, m', [(ln, W.listOf oa e), (dq, dqObj q rv)], rest.length, rfl, F, ?_, hn, ⟨dq, ln, rv, oa, q, e, tv, rest, outs, tj, o, rfl, rfl, hlt, m1, m2, m3, m4, s1, s2, s3, s4, s5, b1, b2, b3, b4⟩⟩
    intro p hp
    rcases List.mem_cons.mp hp with rfl | hp
    · exact N _ h1
    · rw [List.mem_singleton.mp hp]; exact N _ h2
  rcases hf with rfl | rfl <;> exact key
local macro_rules | `(tactic| walk_at "exec While Name cons nil") => `(tactic| refine Stop.out ?_)
local macro_rules | `(tactic| walk_at "truthy ref") => `(tactic| (k_here; (refine' truthy_dq_cons ?k1 ?k2 ?k3 ?_; (case k1 => k_asm); (case k2 => k_mem); (case k3 => (first | assumption | omega | (simp only [List.length_cons] at *; omega))); k_whole); intro tk))
local macro_rules | `(tactic| walk_at "truthy ref") => `(tactic| (k_here; (refine' truthy_dq_nil ?k1 ?k2 ?_; (case k1 => k_asm); (case k2 => k_mem); k_whole); intro tk))
local macro_rules | `(tactic| walk_at "truthy ref") => `(tactic| (k_here; (refine' truthy_mat_N ?k1 ?k2 ?_; (case k1 => k_asm); (case k2 => k_mem); k_whole)))
local macro_rules | `(tactic| walk_at "getMethod ref") => `(tactic| (k_here; (refine' method_dq_N ?k1 ?k2 ?_; (case k1 => k_asm); (case k2 => k_mem); k_whole)))
local macro_rules | `(tactic| walk_at "getMethod ref") => `(tactic| (k_here; (refine' method_mat_N ?k1 ?k2 ?_; (case k1 => k_asm); (case k2 => k_mem); k_whole)))
local macro_rules | `(tactic| walk_at "getMethod ref") => `(tactic| (k_here; (refine' method_pat_N ?k1 ?k2 ?k3 ?_; (case k1 => k_asm); (case k2 => k_asm); (case k3 => k_is); k_whole)))
local macro_rules | `(tactic| walk_at "call builtin:collections.deque.popleft") => `(tactic| (k_here; (refine' popleft_N ?k1 ?k2 ?k3 ?k4 ?_; (case k1 => k_asm); (case k2 => k_asm); (case k3 => k_upd); (case k4 => (first | assumption | omega | (simp only [List.length_cons] at *; omega))); k_whole); intro h' F' N'; (try k_sweep)))
local macro_rules | `(tactic| walk_at "call builtin:re.Pattern.match") => `(tactic| (k_here; (refine' match_none_N ?k1 ?k2 ?k3 ?k9 ?k4 ?k5 ?k6 ?k7 ?k8 ?_; (case k1 => k_asm); (case k2 => k_asm); (case k3 => k_is); (case k4 => k_is); (case k6 => assumption); (case k5 => decide +kernel); (case k7 => assumption); (case k8 => decide); (case k9 => rfl); k_whole)))
local macro_rules | `(tactic| walk_at "call builtin:re.Pattern.match") => `(tactic| (k_here; (refine' match_some_N ?k1 ?k2 ?k0 ?k3 ?k9 ?k4 ?k5 ?k6 ?k7 ?k8 ?_; (case k1 => k_asm); (case k2 => k_asm); (case k0 => k_asm); (case k3 => k_is); (case k4 => k_is); (case k6 => assumption); (case k5 => decide +kernel); (case k7 => assumption); (case k8 => decide); (case k9 => rfl); k_whole); intro d' T' l' h' F' N' l1 l2; (try k_lt l1); (try k_lt2 l2); (try k_sweep)))
local macro_rules | `(tactic| walk_at "call builtin:re.Match.group") => `(tactic| (k_here; (refine' group2_6 ?k1 ?k2 ?k3 ?k4 ?k5 ?k6 ?_; (case k1 => k_asm); (case k2 => k_mem); (case k3 => k_mem); (case k4 => assumption); (case k5 => assumption); (case k6 => assumption)); intro t' tk'))
local macro_rules | `(tactic| walk_at "call builtin:re.Match.group") => `(tactic| (k_here; (refine' group1_6 ?k1 ?k2 ?k3 ?k4 ?k5 ?k6 ?_; (case k1 => k_asm); (case k2 => k_mem); (case k3 => k_mem); (case k4 => assumption); (case k5 => assumption); (case k6 => assumption)); intro t' tk'))
local macro_rules | `(tactic| walk_at "call builtin:re.Match.group") => `(tactic| (k_here; (refine' group1_4 ?k1 ?k2 ?k3 ?k4 ?k5 ?k6 ?_; (case k1 => k_asm); (case k2 => k_mem); (case k3 => k_mem); (case k4 => assumption); (case k5 => assumption); (case k6 => assumption)); intro t' tk'))
local macro_rules | `(tactic| walk_at "compareOp In str ref") => `(tactic| (k_here; (refine' in_yes ?k1 ?k2 ?k3 ?_; (case k1 => k_asm); (case k2 => assumption); (case k3 => assumption)); intro tk'))
local macro_rules | `(tactic| walk_at "compareOp In str ref") => `(tactic| (k_here; (refine' in_no ?k1 ?k2 ?k3 ?_; (case k1 => k_asm); (case k2 => assumption); (case k3 => assumption)); intro tk'))
local macro_rules | `(tactic| walk_at "subscriptTail") => `(tactic| (k_here; (with_reducible show wpAny _ _ (subscriptTail _ _ (Value.ref _) (Value.str _ _)) _ _ _); (refine' item_yes ?k1 ?k2 ?k3 ?_; (case k1 => k_asm); (case k2 => assumption); (case k3 => assumption)); intro t' tk'))
local macro_rules | `(tactic| walk_at "subscriptTail Name Constant ref int") => `(tactic| (k_here; (refine' item_dq (News.get ?k1 ?k2) ?_; (case k1 => k_asm); (case k2 => k_mem)); intro tk'))
local macro_rules | `(tactic| walk_at "truthy str") => `(tactic| (k_here; (refine' truthy_str0 ?k1 ?_; (case k1 => assumption)); intro tk'))
local macro_rules | `(tactic| walk_at "truthy str") => `(tactic| (k_here; (refine' truthy_str1 ?k1 ?k2 ?_; (case k1 => assumption); (case k2 => size_fits)); intro tk'))
local macro_rules | `(tactic| walk_at "truthy bool") => `(tactic| (k_here; (refine' truthy_bool_is ?k1 ?_; (case k1 => with_reducible assumption))))
local macro_rules | `(tactic| walk_at "call builtin:list.extend") => `(tactic| (k_here; (refine' extend_N ?k1 ?k2 ?k3 ?k4 ?k5 ?_; (case k1 => k_asm); (case k2 => k_asm); (case k3 => intro n'; k_upd); (case k4 => k_mem); (case k5 => size_fits)); intro h' n' F' N'; (try k_sweep)))

theorem inj_spec {w mean mg mb} {A : Around} {s : Shared} {doc : Str} {td : Tok} {pd : Addr} {D : List (PyData × PyData)} {final : List Str} (M : Mod w mean mg mb s.heap) (hh : A.handled = none)
   (hd : A.depth + 10 < recursionLimit) (hu : A.units + 100 < cLine) (HT : StrTab PR w s.heap pd D) (hD : ∀ x y, lookup (.str x) D = some (.str y) → y.length ≤ 10000)
   (hl : doc.length ≤ 10000) (hn : (Txt.lines doc).length ≤ 10000) (ho : injO D (Txt.lines doc) none = some final) (hw : (final.map (·.length)).sum + final.length * 64 ≤ 16777216) :
   wpAny (model PR w) A (call (.ref 54) [.str doc td, .ref pd]) (PRet s (fun v h => ∃ t, v = .str (Txt.join NL final) t)) (fun _ _ => False) s := by
  have hf : final.length ≤ 262144 := by omega
  have X := M.K
  have T := M.T
  have kf : Challenge.rw_ep5035_01 = Challenge.rw_ep5035_01 ∧ Mine.hd.heap_39 = Mine.hd.heap_39 := by
    k_fill
    exact ⟨rfl, rfl⟩
  clear kf
  refine' code_pure (binds := [(Str.ofString "doctext", .str doc td), (Str.ofString "inject_params", .ref pd)]) X T.nolimit ?k1 ?k2 ?k3 ?k4 ?k5 ?k6 ?k7 ?k8 ?k9 ?_
  case k1 => k_is
  case k2 => k_is
  case k3 => omega
  case k4 => exact BindsTo.of_eq rfl
  case k5 => exact locs rfl
  case k6 => rfl
  case k7 => rfl
  case k8 => rfl
  case k9 => decide
  intro h₁ F N
  k_steps
  rename_i tk' l' h' k' e1 hv e3 hlist F2 N2
  have hlen : (strValues l').length = (Txt.lines doc).length := by
    rw [← e1]; simp [strValues]
  refine deque_N hh F2 N2 hlist (by rw [hlen]; exact Nat.le_trans hn (by decide)) ?_
  intro dq nq h2 F3 N3 l1
  k_lt l1
  k_sweep
  k_steps
  rename_i l1' _ _ F' N'
  rw [e1] at hv e3
  refine While_inv2 (IJ D pd final) (n₀ := (Txt.lines doc).length) F' (news := [(_, _), (dq, dqObj nq (strValues l'))]) (fun p hp => N' p (by rcases List.mem_cons.mp hp with rfl | hp; exact .head _; rw [List.mem_singleton.mp hp]; exact .tail _ (.head _)))
    ⟨dq, _, strValues l', #[], nq, 0, .none, Txt.lines doc, [], none, final, rfl, rfl, l1'.1, rfl, rfl, rfl, rfl, hv, .nil, rfl, ho, rfl, fun x hx => Nat.le_trans (e3 x hx) hl, (fun _ e => nomatch e), hn, hf⟩ ?_ (by intro e s h; exact h.elim)
  clear N' F' l1' hlist hlen hv e1 l1 e3 ho hn
  rintro n m₁ news₁ h₁ tk₁ F₁ N₁ ⟨dq, ln, rv, oa, q, e, tv, rest, outs, tj, o, rfl, rfl, hlt, m1, m2, m3, m4, s1, s2, s3, s4, s5, b1, b2, b3, b4⟩
  obtain ⟨u, rfl⟩ := frame_is m1 m2 m3 m4
  clear m1 m2 m3 m4
  have hne : ln ≠ dq := Nat.ne_of_gt hlt
  have hoa : oa.size = outs.length := by rw [← Array.length_toList]; exact s2.len_eq
  have hou : outs.length ≤ 262144 := by rw [← s5] at b4; simp only [List.length_append] at b4; omega
  have hoz : oa.size ≤ 262144 := by omega
  have hsl : sizeLine = 16777216 := rfl
  replace hlt := ltN hlt
  cases s1 with
  | nil =>
    cases s4
    rw [List.append_nil] at s5
    subst s5
    k_steps
    refine join_listC ⟨_, (News.get (by assumption) (by k_mem)), rfl, _, rfl⟩ s2 (by decide) hw fun t' k => ?_
    exact ⟨_, _, _, rfl, by assumption, _, rfl⟩
  | @cons x t rv' rest' s1' =>
    have hx0 := b1 x (.head _)
    have hx : x.length ≤ sizeLine := by omega
    have b1' : ∀ x ∈ rest', x.length ≤ 10000 := fun y hy => b1 y (.tail _ hy)
    have hrv := s1'.len_eq
    have hz : rv'.length + 1 ≤ sizeLine := by simp only [List.length_cons] at b3; omega
    have b3' : rest'.length ≤ 10000 := by simp only [List.length_cons] at b3; omega
    have hlq : rest'.length < (x :: rest').length := Nat.lt_succ_self _
    have s2x : ∀ t, StrsAre (oa.push (.str x t)).toList (outs ++ [x]) := fun t => by rw [Array.toList_push]; exact s2.append' (.cons _ _ .nil)
    have s5x : ∀ o', outs ++ x :: o' = final → (outs ++ [x]) ++ o' = final := fun o' e => by rw [List.append_assoc]; exact e
    cases tj with
    | none =>
      cases s3
      unfold injO at s4
      cases hpm : PM x with
      | none => rw [hpm] at s4; cases s4
      | some pm =>
        rw [hpm] at s4
        cases pm with
        | none =>
          have hr := PM_none hpm
          obtain ⟨o', s4', rfl⟩ := Option.map_eq_some_iff.mp s4
          clear s4
          k_steps
          exact step_end dq ln _ _ _ _ _ rest' (outs ++ [x]) none o' (.inl rfl) (by assumption) (by assumption) hlq (by k_mem) (by k_mem) hlt rfl rfl rfl rfl s1' (s2x _) rfl s4' (s5x _ s5) b1' (fun _ e => nomatch e) b3' b4
        | some g =>
          obtain ⟨g1, g2⟩ := g
          obtain ⟨p1, p2, a, b, c, d, hr, ha, hb, hc, hd, rfl, rfl⟩ := PM_some hpm
          have hg1 : (cut x a b).length ≤ 10000 := Nat.le_trans (cut_len x a b) hx0
          have hg2 : (cut x c d).length ≤ 10000 := Nat.le_trans (cut_len x c d) hx0
          dsimp only at s4
          cases hlk : lookup (.str (star (cut x c d))) D with
          | none =>
            rw [hlk] at s4
            obtain ⟨o', s4', rfl⟩ := Option.map_eq_some_iff.mp s4
            clear s4
            unfold star at hlk
            k_steps
            exact step_end dq ln _ _ _ _ _ rest' (outs ++ [x]) none o' (.inl rfl) (by assumption) (by assumption) hlq (by k_mem) (by k_mem) hlt rfl rfl rfl rfl s1' (s2x _) rfl s4' (s5x _ s5) b1' (fun _ e => nomatch e) b3' b4
          | some dv =>
            rw [hlk] at s4
            cases dv with
            | str txt =>
              have htx := hD _ _ hlk
              dsimp only at s4
              unfold star at hlk
              cases hind : indentOf (cut x a b) rest' with
              | none => rw [hind] at s4; cases s4
              | some ind =>
                rw [hind] at s4
                obtain ⟨o', s4', rfl⟩ := Option.map_eq_some_iff.mp s4
                clear s4
                cases s1' with
                | nil =>
                  cases hind
                  unfold spc at s4'
                  have htl : (Txt.mul (Str.ofString " ") ((cut x a b).length : Int) ++ Str.ofString " " ++ txt).length ≤ 30000 := by
                    have := spc_len (cut x a b).length
                    unfold spc at this
                    rw [Str.length_append, Str.length_append, this, show (Str.ofString " ").length = 1 from by decide]
                    omega
                  k_steps
                  exact step_end dq ln _ _ _ _ _ [] (outs ++ [x]) (some _) o' (.inl rfl) (by assumption) (by assumption) hlq (by k_mem) (by k_mem) hlt rfl rfl rfl rfl .nil (s2x _) ⟨_, rfl⟩ s4' (s5x _ s5) b1' (fun t e => by cases e; exact htl) b3' b4
                | @cons y ty rv'' rest'' s1'' =>
                  have hy0 := b1' y (.head _)
                  have hy : y.length ≤ sizeLine := by omega
                  cases htw : TW y with
                  | none => simp only [indentOf, htw] at hind; cases hind
                  | some tw =>
                    simp only [indentOf, htw] at hind
                    cases tw with
                    | none =>
                      cases hind
                      have hr2 := TW_none htw
                      unfold spc at s4'
                      have htl : (Txt.mul (Str.ofString " ") ((cut x a b).length : Int) ++ Str.ofString " " ++ txt).length ≤ 30000 := by
                        have := spc_len (cut x a b).length
                        unfold spc at this
                        rw [Str.length_append, Str.length_append, this, show (Str.ofString " ").length = 1 from by decide]
                        omega
                      k_steps
                      exact step_end dq ln _ _ _ _ _ (y :: rest'') (outs ++ [x]) (some _) o' (.inl rfl) (by assumption) (by assumption) hlq (by k_mem) (by k_mem) hlt rfl rfl rfl rfl (.cons _ _ s1'') (s2x _) ⟨_, rfl⟩ s4' (s5x _ s5) b1' (fun t e => by cases e; exact htl) b3' b4
                    | some g =>
                      cases hind
                      obtain ⟨p3, p4, a2, b2', hr2, ha2, hb2, rfl⟩ := TW_some htw
                      have hg3 : (cut y a2 b2').length ≤ 10000 := Nat.le_trans (cut_len y a2 b2') hy0
                      unfold spc at s4'
                      have htl : (Txt.mul (Str.ofString " ") ((cut y a2 b2').length : Int) ++ txt).length ≤ 30000 := by
                        have := spc_len (cut y a2 b2').length
                        unfold spc at this
                        rw [Str.length_append, this]
                        omega
                      k_steps
                      exact step_end dq ln _ _ _ _ _ (y :: rest'') (outs ++ [x]) (some _) o' (.inl rfl) (by assumption) (by assumption) hlq (by k_mem) (by k_mem) hlt rfl rfl rfl rfl (.cons _ _ s1'') (s2x _) ⟨_, rfl⟩ s4' (s5x _ s5) b1' (fun t e => by cases e; exact htl) b3' b4
            | _ => cases s4
    | some tt =>
      obtain ⟨ttk, rfl⟩ := s3
      have htt := b2 _ rfl
      have htt2 : tt.length ≤ sizeLine := by omega
      unfold injO at s4
      cases hpm : PM x with
      | none => rw [hpm] at s4; cases s4
      | some pm =>
        rw [hpm] at s4
        cases pm with
        | some g =>
          obtain ⟨g1, g2⟩ := g
          obtain ⟨p1, p2, a, b, c, d, hr, ha, hb, hc, hd, rfl, rfl⟩ := PM_some hpm
          obtain ⟨o', s4', rfl⟩ := Option.map_eq_some_iff.mp s4
          clear s4
          k_steps
          exact step_end dq ln _ _ _ _ _ rest' (outs ++ [NL, tt, NL, x]) none o' (.inl rfl) (by assumption) (by assumption) hlq (by k_mem) (by k_mem) hlt rfl rfl rfl rfl s1' (by simp only [Array.toList_push, Array.toList_append, List.append_assoc]; exact s2.append' (.cons _ _ (.cons _ _ (.cons _ _ (.cons _ _ .nil))))) rfl s4' (by rw [List.append_assoc]; exact s5) b1' (fun _ e => nomatch e) b3' b4
        | none =>
          have hr := PM_none hpm
          dsimp only at s4
          by_cases hrs : (Txt.rstrip x).length = 0
          · rw [if_pos hrs] at s4
            obtain ⟨o', s4', rfl⟩ := Option.map_eq_some_iff.mp s4
            clear s4
            k_steps
            exact step_end dq ln _ _ _ _ _ rest' (outs ++ [x, tt, NL, x]) none o' (.inl rfl) (by assumption) (by assumption) hlq (by k_mem) (by k_mem) hlt rfl rfl rfl rfl s1' (by simp only [Array.toList_push, Array.toList_append, List.append_assoc]; exact s2.append' (.cons _ _ (.cons _ _ (.cons _ _ (.cons _ _ .nil))))) rfl s4' (by rw [List.append_assoc]; exact s5) b1' (fun _ e => nomatch e) b3' b4
          · rw [if_neg hrs] at s4
            cases hew : Txt.endswith x (Str.ofString "::") with
            | true =>
              rw [hew, if_pos rfl] at s4
              cases s1' with
              | nil => cases s4
              | @cons y ty rv'' rest'' s1'' =>
                obtain ⟨o', s4', rfl⟩ := Option.map_eq_some_iff.mp s4
                clear s4
                have hlq2 : rest''.length < (x :: y :: rest'').length := by simp only [List.length_cons]; omega
                have b1'' : ∀ x ∈ rest'', x.length ≤ 10000 := fun z hz => b1' z (.tail _ hz)
                have b3'' : rest''.length ≤ 10000 := by simp only [List.length_cons] at b3'; omega
                k_steps
                exact step_end (f := .cont) dq ln _ _ _ _ _ rest'' (outs ++ [x, y]) (some tt) o' (.inr rfl) (by assumption) (by assumption) hlq2 (by k_mem) (by k_mem) hlt rfl rfl rfl rfl s1'' (by simp only [Array.toList_push, Array.toList_append, List.append_assoc]; exact s2.append' (.cons _ _ (.cons _ _ .nil))) ⟨_, rfl⟩ s4' (by rw [List.append_assoc]; exact s5) b1'' b2 b3'' b4
            | false =>
              rw [hew, if_neg (by decide)] at s4
              obtain ⟨o', s4', rfl⟩ := Option.map_eq_some_iff.mp s4
              clear s4
              k_steps
              exact step_end dq ln _ _ _ _ _ rest' (outs ++ [x]) (some tt) o' (.inl rfl) (by assumption) (by assumption) hlq (by k_mem) (by k_mem) hlt rfl rfl rfl rfl s1' (s2x _) ⟨_, rfl⟩ s4' (s5x _ s5) b1' b2 b3' b4
end Mine
end
section
open PySem PySem.W PySem.Calls PyProof.Rows PySem.Spec
namespace Mine
abbrev tup (xs : Array Value) : Obj := { cls := .type "tuple", data := .seq xs }
def bodyS (k : Int) (inner : Str) : List Str × Str :=
  if k = 0 then ([], Str.ofString "")
  else if k = 1 then ([inner ++ Str.ofString "more words"], inner)
  else if k = 2 then ([Str.ofString "at the edge"], Str.ofString "")
  else if k = 3 then ([inner ++ Str.ofString "e.g.::", Str.ofString "", inner ++ Str.ofString "  code()"], inner)
  else if k = 4 then ([inner ++ Str.ofString "e.g.::", inner ++ Str.ofString ":param x: code"], inner)
  else ([inner ++ Str.ofString "e.g.::", inner ++ Str.ofString "  code()", inner ++ Str.ofString "  more()"], inner)
def BodyP (s : Shared) (r : List Str × Str) (v : Value) (h : Heap) : Prop :=
  ∃ D l arr t, v = .ref D ∧ News s.heap s.heap.objs.size h [(D, tup #[.ref l, .str r.2 t]), (l, W.listOf arr 0)] ∧ StrsAre arr.toList r.1 ∧ l < D
theorem body_spec {w mean mg mb} {A : Around} {s : Shared} {k : Int} {inner : Str} {tk ti : Tok} (M : Mod w mean mg mb s.heap)
   (hd : A.depth + 10 < recursionLimit) (hl : inner.length ≤ 30) :
   wpAny (model PR w) A (call (.ref 69) [.int k tk, .str inner ti]) (PRet s (BodyP s (bodyS k inner))) (fun _ _ => False) s := by
  have X := M.K
  have T := M.T
  have kf : Challenge.rw_ep5035_01 = Challenge.rw_ep5035_01 ∧ Mine.hd.heap_39 = Mine.hd.heap_39 := by
    k_fill
    exact ⟨rfl, rfl⟩
  clear kf
  refine' code_pure (binds := [(Str.ofString "k", .int k tk), (Str.ofString "inner", .str inner ti)]) X T.nolimit ?k1 ?k2 ?k3 ?k4 ?k5 ?k6 ?k7 ?k8 ?k9 ?_
  case k1 => k_is
  case k2 => k_is
  case k3 => omega
  case k4 => exact BindsTo.of_eq rfl
  case k5 => exact locs rfl
  case k6 => rfl
  case k7 => rfl
  case k8 => rfl
  case k9 => decide
  intro h₁ F N
  k_steps
  all_goals (
    rename_i F' N' l1
    refine ⟨_, _, _, rfl, F', ?_⟩
    unfold bodyS
    repeat' split
    all_goals first
      | (exfalso; omega)
      | (refine ⟨_, _, _, _, rfl, N', ?_, l1⟩
         repeat' (first | exact .nil | refine .cons _ _ ?_)))
end Mine
end
section
open PySem PySem.W PySem.Calls PyProof.Rows PySem.Spec
namespace Mine
section
variable {prog : Program} {w : World} {A : Around} {E : Value → Shared → Prop} {s : Shared} {base h h' : Heap} {L : Addr} {m : Str → Option Value} {news news' : List (Addr × Obj)}
theorem item_menu {value slice : PySem.Expr} {l : Addr} {vs : List Value} {ws : List Str} {i : Int} {u : Tok} {Q : Value → Shared → Prop} (B : Nat) (ht : IsTup s.heap l vs.toArray) (hw : StrsAre vs ws) (hB : ∀ x ∈ ws, x.length ≤ B) (h0 : 0 ≤ i) (h1 : i < (ws.length : Int)) (hfit : i < 2 ^ 63)
    (h : ∀ t', (ws.getD i.toNat PySem.Str.empty).length ≤ B → Q (.str (ws.getD i.toNat PySem.Str.empty) t') s)
    (hs : subscripted slice false (.ref l) (.int i u) = operate [.ref l, .int i u] (getItem (.ref l) (.int i u)) := by with_unfolding_all rfl) :
    wpAny (model prog w) A (subscriptTail value slice (.ref l) (.int i u)) Q E s :=
  KTb.item_tup ht hw h0 h1 hfit (fun t' hlt => h t' (by
    rw [List.getD_eq_getElem?_getD, List.getElem?_eq_getElem hlt]
    exact hB _ (List.getElem_mem hlt))) hs
/-- a call's end told to the caller's frame -/
theorem pret_N {P : Value → Heap → Prop} {c : Sem Value} {M : Model} {Q : Value → Shared → Prop} (F : Fr base L s.heap m) (N : News base L s.heap news)
    (hc : wpAny M A c (PRet s P) (fun _ _ => False) s)
    (hq : ∀ v h' tk, Fr base L h' m → News base L h' news → Keeps s.heap h' → P v h' → Q v { s with heap := h', toks := tk }) : wpAny M A c Q E s := by
  refine wpAny_mono hc (fun v s' hp => ?_) (fun _ _ x => x.elim)
  obtain ⟨h', tk, rfl, k, hp⟩ := hp
  exact hq v h' tk (fr_keep F k) (news_keep N k) k hp
theorem news_join {new : List (Addr × Obj)} {h₀ : Heap} {L' : Addr} (F : Fr base L h₀ m) (N : News base L h' news) (N' : News h₀ L' h' new) : News base L h' (new ++ news) := by
  intro p hp
  rcases List.mem_append.mp hp with hp | hp
  · have z := N' p hp
    refine ⟨z.1, ?_, ?_⟩
    · intro e
      obtain ⟨oL, _, _, hL, _⟩ := F.ns
      rw [e, hL] at z; cases z.2.2
    · cases q : base.get? p.1 with
      | none => rfl
      | some o' => have := F.keep _ o' q; rw [z.2.2] at this; cases this
  · exact N p hp
theorem news_above {new : List (Addr × Obj)} {h₀ : Heap} {L' : Addr} (N : News base L h₀ news) (N' : News h₀ L' h' new) : ∀ p ∈ new, ∀ q ∈ news, p.1 ≠ q.1 := by
  intro p hp q hq e
  have z := (N' p hp).2.2
  rw [e, (N q hq).1] at z; cases z
end
theorem add_N {prog : Program} {w : World} {A : Around} {E : Value → Shared → Prop} {s : Shared} {base : Heap} {L : Addr} {m : Str → Option Value} {news : List (Addr × Obj)} {l b : Addr} {its its2 : Array Value} {n n2 : Nat} {Q : Value → Shared → Prop} (F : Fr base L s.heap m) (N : News base L s.heap news) (hl : (l, W.listOf its n) ∈ news) (hb : (b, W.listOf its2 n2) ∈ news)
    (hsz : its.size + its2.size ≤ sizeLine) (h : ∀ D h', Fr base L h' m → News base L h' ((D, W.listOf (its ++ its2) 0) :: news) → (∀ p ∈ news, p.1 < D) → Q (.ref D) { s with heap := h' }) :
    wpAny (model prog w) A (binaryOp .Add (.ref l) (.ref b)) Q E s := by
  refine add_arrays F N (N.isList hl) (N.isList hb) (fun h' F' N' => h _ h' F' ?_ (news_lt N)) hsz
  have e : (its.toList ++ its2.toList).toArray = its ++ its2 := by simp
  rw [e] at N'
  exact N'
theorem bodyS_len (k : Int) (inner : Str) : (bodyS k inner).1.length ≤ 3 := by
  unfold bodyS
  repeat' split
  all_goals simp
theorem bodyS_len2 (k : Int) (inner : Str) (hl : inner.length ≤ 30) : (bodyS k inner).2.length ≤ 30 := by
  unfold bodyS
  repeat' split
  all_goals first | exact hl | decide
theorem body_N {w mean mg mb} {A : Around} {E : Value → Shared → Prop} {s : Shared} {base : Heap} {L : Addr} {m : Str → Option Value} {news : List (Addr × Obj)} {k : Int} {inner : Str} {tk ti : Tok} {Q : Value → Shared → Prop} 
   (M : Mod w mean mg mb base) (F : Fr base L s.heap m) (N : News base L s.heap news) (hd : A.depth + 10 < recursionLimit) (hl : inner.length ≤ 30)
   (hq : ∀ D l arr t h' tk', Fr base L h' m → News base L h' ((D, tup #[.ref l, .str (bodyS k inner).2 t]) :: (l, W.listOf arr 0) :: news) → StrsAre arr.toList (bodyS k inner).1 → arr.size ≤ 3 → (bodyS k inner).2.length ≤ 30 → l < D → Q (.ref D) { s with heap := h', toks := tk' }) :
   wpAny (model PR w) A (call (.ref 69) [.int k tk, .str inner ti]) Q E s := by
  refine pret_N F N (body_spec (M.keeps F.keep) hd hl) fun v h' tk' F' N' k' hp => ?_
  obtain ⟨D, l, arr, t, rfl, N2, hs, hlt⟩ := hp
  exact hq D l arr t h' tk' F' (news_join F N' N2) hs (by rw [← Array.length_toList, hs.len_eq]; exact bodyS_len k inner) (bodyS_len2 k inner hl) hlt
local macro_rules | `(tactic| walk_at "subscriptTail Name BinOp ref int") => `(tactic| (k_here; ktb_letter; k_dflt (refine' item_menu 30 ?ktbl ?ktbw ?ktbB ?ktb0 ?ktb1 ?ktbf ?_; (case ktbl => ktb_isTup); (case ktbw => repeat constructor); (case ktbB => decide +kernel); (case ktb0 => ktb_idx); (case ktb1 => ktb_idx); (case ktbf => ktb_idx)); intro _ ktbLt))
local macro_rules | `(tactic| walk_at "call ref") => `(tactic| (k_here; (with_reducible show wpAny _ _ (call (Value.ref 69) _) _ _ _); (refine' body_N ?k1 ?k2 ?k3 ?k4 ?k5 ?_; (case k1 => assumption); (case k2 => k_asm); (case k3 => k_asm); (case k4 => (show _ + 1 + 10 < _; omega)); (case k5 => assumption)); intro D' l' arr' t' h' tk' F' N' hb' sz' sz2' lt'; (try k_sweep)))
local macro_rules | `(tactic| walk_at "unpackItems ref") => `(tactic| (k_here; k_dflt (refine' unpackItemsN_ ?k1 ?k2 ?k3 ?k4 ?k5 ?_; (case k1 => k_asm); (case k2 => k_asm); (case k3 => exact News.isTup (by k_asm) (by k_mem)); (case k4 => assumption); (case k5 => rfl)); intro h' F' N'; (try k_sweep)))
local macro_rules | `(tactic| walk_at "assign Tuple") => `(tactic| (k_here; (with_reducible show wpAny _ _ (assign (Expr.Tuple _ _ _) _ (Value.ref _)) _ _ _); k_dflt (refine' unpackN_ ?k1 ?k2 ?k3 ?k4 ?k5 ?k6 ?_; (case k1 => k_asm); (case k2 => k_asm); (case k3 => exact News.isTup (by k_asm) (by k_mem)); (case k4 => assumption); (case k5 => rfl); (case k6 => rfl)); intro h' F' N'; (try k_sweep)))
local macro_rules | `(tactic| walk_at "binaryOp Add ref ref") => `(tactic| (k_here; k_dflt (refine' add_N ?k1 ?k2 ?k3 ?k4 ?k5 ?_; (case k1 => k_asm); (case k2 => k_asm); (case k3 => k_mem); (case k4 => k_mem); (case k5 => size_fits)); intro D' h' F' N' l1; (try k_lt l1); (try k_sweep)))
def NAMES : List Str := [Str.ofString "a", Str.ofString "bb", Str.ofString "c_d", Str.ofString "e", Str.ofString "zz"]
def STARS : List Str := [Str.ofString "", Str.ofString "*", Str.ofString "**"]
def INDENTS : List Str := [Str.ofString "  ", Str.ofString "    ", Str.ofString "\t", Str.ofString " \t", Str.ofString "      "]
def BLANKS : List Str := [Str.ofString "", Str.ofString "   ", Str.ofString "\t"]
def RESTS : List Str := [Str.ofString "", Str.ofString " words", Str.ofString " words::"]
def PLAIN : List Str := [Str.ofString "Text.", Str.ofString "", Str.ofString "  more", Str.ofString ":param a: at the edge", Str.ofString " :param a=1: equals", Str.ofString "  :parameter a: no", Str.ofString "e.g.::"]
structure Block where
  lines : List Str
  name : Option Str
  blank : Str
  width : Int
def pick (l : List Str) (i : Int) : Str := l.getD i.toNat Str.empty
def parB (name outer inner star rest blank : Str) (k : Int) : Block :=
  { lines := (outer ++ Str.ofString ":param " ++ star ++ name ++ Str.ofString ":" ++ rest) :: (bodyS k inner).1, name := some name, blank := blank,
    width := if (bodyS k inner).2.length = 0 then outer.length + 1 else (bodyS k inner).2.length }
def blockS (x y : Int) : Block :=
  if Int.fmod x 4 = 0 then { lines := [pick PLAIN (Int.fmod (Int.fdiv x 4) 7)], name := none, blank := Str.ofString "", width := 0 }
  else parB (pick NAMES (Int.fmod (Int.fdiv x 4) 5)) (pick INDENTS (Int.fmod y 5)) (pick INDENTS (Int.fmod (Int.fdiv y 5) 5)) (pick STARS (Int.fmod (Int.fdiv x 120) 3))
    (pick RESTS (Int.fmod (Int.fdiv y 75) 3)) (pick BLANKS (Int.fmod (Int.fdiv y 25) 3)) (Int.fmod (Int.fdiv x 20) 6)
def BlockP (s : Shared) (b : Block) (v : Value) (h : Heap) : Prop :=
  ∃ D l arr nm tb tw, v = .ref D ∧ News s.heap s.heap.objs.size h [(D, tup #[.ref l, nm, .str b.blank tb, .int b.width tw]), (l, W.listOf arr 0)] ∧ TJ nm b.name ∧ StrsAre arr.toList b.lines
theorem block_end {s : Shared} {L : Addr} {h' : Heap} {m' : Str → Option Value} {news' : List (Addr × Obj)} {tk : Nat} {b : Block} {D l : Addr} {arr : Array Value} {nm : Value} {bl : Str} {wd : Int} {tb tw : Tok}
    (F : Fr s.heap L h' m') (hL : L = s.heap.objs.size) (N : News s.heap L h' news') (h1 : (D, ({ cls := .type "tuple", data := .seq #[.ref l, nm, .str bl tb, .int wd tw] } : Obj)) ∈ news') (h2 : (l, W.listOf arr 0) ∈ news')
    (e1 : b.blank = bl) (e2 : b.width = wd) (e3 : TJ nm b.name) (e4 : StrsAre arr.toList b.lines) : PEnd s L (BlockP s b) (.ret (.ref D)) { s with heap := h', toks := tk } := by
  subst hL e1 e2
  refine ⟨h', tk, m', rfl, F, D, l, arr, nm, tb, tw, rfl, ?_, e3, e4⟩
  intro p hp
  rcases List.mem_cons.mp hp with rfl | hp
  · exact N _ h1
  · rw [List.mem_singleton.mp hp]; exact N _ h2
theorem block_spec {w mean mg mb} {A : Around} {s : Shared} {x y : Int} {tx ty : Tok} (M : Mod w mean mg mb s.heap) (hh : A.handled = none)
   (hd : A.depth + 20 < recursionLimit) :
   wpAny (model PR w) A (call (.ref 76) [.int x tx, .int y ty]) (PRet s (BlockP s (blockS x y))) (fun _ _ => False) s := by
  have X := M.K
  have T := M.T
  have kf : Challenge.rw_ep5035_01 = Challenge.rw_ep5035_01 ∧ Mine.hd.heap_39 = Mine.hd.heap_39 := by
    k_fill
    exact ⟨rfl, rfl⟩
  clear kf
  refine' code_pure (binds := [(Str.ofString "x", .int x tx), (Str.ofString "y", .int y ty)]) X T.nolimit ?k1 ?k2 ?k3 ?k4 ?k5 ?k6 ?k7 ?k8 ?k9 ?_
  case k1 => k_is
  case k2 => k_is
  case k3 => omega
  case k4 => exact BindsTo.of_eq rfl
  case k5 => exact locs rfl
  case k6 => rfl
  case k7 => rfl
  case k8 => rfl
  case k9 => decide
  intro h₁ F N
  k_steps
  · rename_i h0 _ _ _ _ _ _ _ F' N' _
    have e : blockS x y = { lines := [pick PLAIN (Int.fmod (Int.fdiv x 4) 7)], name := none, blank := Str.ofString "", width := 0 } := by
      unfold blockS
      rw [if_pos h0]
    rw [e]
    exact block_end F' rfl N' (by k_mem) (by k_mem) rfl rfl rfl (.cons _ _ .nil)
  all_goals (
    rename_i F' N' _
    have h0 : ¬ Int.fmod x 4 = 0 := by assumption
    have e : blockS x y = parB (pick NAMES (Int.fmod (Int.fdiv x 4) 5)) (pick INDENTS (Int.fmod y 5)) (pick INDENTS (Int.fmod (Int.fdiv y 5) 5)) (pick STARS (Int.fmod (Int.fdiv x 120) 3))
      (pick RESTS (Int.fmod (Int.fdiv y 75) 3)) (pick BLANKS (Int.fmod (Int.fdiv y 25) 3)) (Int.fmod (Int.fdiv x 20) 6) := by
      unfold blockS
      rw [if_neg h0]
    rw [e])
  all_goals (
    refine' block_end F' rfl N' ?h1 ?h2 ?e1 ?e2 ?e3 ?e4
    case h1 => k_mem
    case h2 => k_mem
    case e1 => rfl
    case e2 =>
      simp only [parB, pick, INDENTS]
      first | exact if_neg (by omega) | exact if_pos (by omega)
    case e3 => exact ⟨_, rfl⟩
    case e4 =>
      rw [Array.toList_append]
      exact .cons _ _ (by assumption))
end Mine
end
section
open PySem PySem.W PySem.Calls PyProof.Rows PySem.Spec
namespace Mine
/-- a turn's end: the iterator as it was, the rest as the invariant says -/
def TurnEnd (h₀ : Heap) (L I : Addr) (oI : Obj) (Jn : (Str → Option Value) → List (Addr × Obj) → Prop) (s₁ : Shared) (f : Flow) (s₂ : Shared) : Prop :=
  (f = .next ∨ f = .cont) ∧ ∃ h' tk m₂ news₂, s₂ = { s₁ with heap := h', toks := tk } ∧ Fr h₀ L h' m₂ ∧ News h₀ L h' ((I, oI) :: news₂) ∧ (∀ p ∈ news₂, p.1 ≠ I) ∧ Jn m₂ news₂
theorem turn_end {h₀ h' : Heap} {L I : Addr} {oI : Obj} {Jn : (Str → Option Value) → List (Addr × Obj) → Prop} {s₁ : Shared} {f : Flow} {tk : Nat} {m₂ : Str → Option Value} {news' : List (Addr × Obj)} (news₂ : List (Addr × Obj))
    (hf : f = .next ∨ f = .cont) (F : Fr h₀ L h' m₂) (N : News h₀ L h' news') (hI : (I, oI) ∈ news') (hs : ∀ p ∈ news₂, p ∈ news') (hne : ∀ p ∈ news₂, p.1 ≠ I) (hJ : Jn m₂ news₂) : TurnEnd h₀ L I oI Jn s₁ f { s₁ with heap := h', toks := tk } := by
  refine ⟨hf, h', tk, m₂, news₂, rfl, F, fun p hp => ?_, hne, hJ⟩
  rcases List.mem_cons.mp hp with rfl | hp
  · exact N _ hI
  · exact N _ (hs p hp)
def ItL (h₀ : Heap) (L l : Addr) (J : Nat → (Str → Option Value) → List (Addr × Obj) → Prop) (s : Shared) (xv : Value) (s₁ : Shared) : Prop :=
  xv = .ref l ∧ ∃ h' tk news m, s₁ = { s with heap := h', toks := tk } ∧ Fr h₀ L h' m ∧ News h₀ L h' news ∧ J 0 m news
def ItR (h₀ : Heap) (L : Addr) (a b c : Int) (J : Nat → (Str → Option Value) → List (Addr × Obj) → Prop) (s : Shared) (xv : Value) (s₁ : Shared) : Prop :=
  ∃ r t u v, xv = .ref r ∧ IsRange s₁.heap r a b c t u v ∧ ∃ h' tk news m, s₁ = { s with heap := h', toks := tk } ∧ Fr h₀ L h' m ∧ News h₀ L h' news ∧ J 0 m news
section
variable {prog : Program} {w : World} {A : Around} {E : Value → Shared → Prop} {s : Shared} {env : Env} {h₀ : Heap} {Q : Flow → Shared → Prop} {target : Expr} {body : List Stmt} {m : Str → Option Value} {news : List (Addr × Obj)}
theorem loop_mine {R : Result → Shared → Prop} {I : Addr} {fp : List Addr} {n : Nat} {P : Nat → Value → Prop} {St : Nat → Heap → Prop} (W : Walks prog w A I fp [I] n P St)
    (hfp : ∀ b ∈ fp, b ≠ I → ∃ o, h₀.get? b = some o) (hLI : env.locals ≠ I) (hwr : h₀.get? I = none) (hnw : ∀ p ∈ news, p.1 ≠ I) (hget : ∀ i h, St i h → ∃ o, h.get? I = some o)
    (hst : St 0 s.heap) (F : Fr h₀ env.locals s.heap m) (N : News h₀ env.locals s.heap news)
    (hgo : ∀ i (s' : Shared) v (Q' : Unit → Shared → Prop), St i s'.heap → Q' () s' → wpAny (model prog w) A (letOwnedTupleGo target (.ref I) v) Q' (notedBy (model prog w) A env fun e s' => R (.error e) s') s')
    (J : Nat → (Str → Option Value) → List (Addr × Obj) → Prop) (h0 : J 0 m news)
    (step : ∀ i v m₁ news₁ h₁ tk₁ oI, i < n → P i v → J i m₁ news₁ → (∀ p ∈ news₁, p.1 ≠ I) → Fr h₀ env.locals h₁ m₁ → News h₀ env.locals h₁ ((I, oI) :: news₁) →
      wpAny (model prog w) A (assign target env v) (fun _ s₂ => wpAny (model prog w) A (execs body env) (TurnEnd h₀ env.locals I oI (J (i + 1)) { s with heap := h₁, toks := tk₁ }) (notedBy (model prog w) A env fun e s' => R (.error e) s') s₂) (notedBy (model prog w) A env fun e s' => R (.error e) s') { s with heap := h₁, toks := tk₁ })
    (hR : ∀ h' tk m' news', Fr h₀ env.locals h' m' → News h₀ env.locals h' news' → J n m' news' → R (.ok .next) { s with heap := h', toks := tk }) :
    codeAny (model prog w) A (.forLoop target (.ref I) body [] env) R s := by
  have old : ∀ b o, h₀.get? b = some o → b ∉ [I] := fun b o e hb => by rw [List.mem_singleton.mp hb, hwr] at e; cases e
  refine codeAny_forLoop_any
    (fun k s' => ∃ h' tk m' news' i, s' = { s with heap := h', toks := tk } ∧ St i h' ∧ Fr h₀ env.locals h' m' ∧ News h₀ env.locals h' news' ∧ (∀ p ∈ news', p.1 ≠ I) ∧ J i m' news' ∧ i ≤ n ∧ k = n + 1 - i) ?_ (n + 1)
    ⟨s.heap, s.toks, m, news, 0, rfl, hst, F, N, hnw, h0, Nat.zero_le _, rfl⟩
  rintro k s' ⟨h', tk, m', news', i, rfl, hst', F', N', hnw', hJ, hi, rfl⟩
  have next : ∀ h₁ : Heap, (∀ b o, b ∉ [I] → h'.get? b = some o → h₁.get? b = some o) → Fr h₀ env.locals h₁ m' ∧ News h₀ env.locals h₁ news' := fun h₁ hk₁ =>
    ⟨⟨F'.ns.at' fun o e => hk₁ _ o (fun h => hLI (List.mem_singleton.mp h)) e, fun b o e => hk₁ b o (old b o e) (F'.keep b o e), F'.above⟩, fun p hp => ⟨hk₁ _ _ (fun h => hnw' p hp (List.mem_singleton.mp h)) (N' p hp).1, (N' p hp).2⟩⟩
  by_cases hlt : i < n
  · refine W.item i _ _ _ hlt hst' fun v h₁ tk₁ hP hst₁ hk₁ => ?_
    obtain ⟨F₁, N₁⟩ := next h₁ hk₁
    obtain ⟨oI, hoI⟩ := hget _ _ hst₁
    have NI : News h₀ env.locals h₁ ((I, oI) :: news') := by
      intro p hp
      rcases List.mem_cons.mp hp with rfl | hp
      · exact ⟨hoI, fun e => hLI e.symm, hwr⟩
      · exact N₁ p hp
    refine hgo (i + 1) _ v _ hst₁ ?_
    refine wpAny_mono (step i v m' news' h₁ tk₁ oI hlt hP hJ hnw' F₁ NI)
      (fun _ s₂ h₂ => wpAny_mono h₂ (fun f s₃ h₃ => ?_) fun _ _ e => e) fun _ _ e => e
    obtain ⟨hf, h₃', tk₃, m₂, news₂, rfl, F₃, N₃, ha₃, hJ₃⟩ := h₃
    have key : ∃ m, m < n + 1 - i ∧ (∃ h'' tk' m'' news'' i', ({ s with heap := h₃', toks := tk₃ } : Shared) = { s with heap := h'', toks := tk' } ∧ St i' h'' ∧ Fr h₀ env.locals h'' m'' ∧ News h₀ env.locals h'' news'' ∧ (∀ p ∈ news'', p.1 ≠ I) ∧ J i' m'' news'' ∧ i' ≤ n ∧ m = n + 1 - i') := by
      refine ⟨n + 1 - (i + 1), by omega, h₃', tk₃, m₂, news₂, i + 1, rfl, ?_, F₃, fun p hp => N₃ p (.tail _ hp), ha₃, hJ₃, hlt, rfl⟩
      refine W.frame _ _ _ hst₁ fun b hb o e => ?_
      by_cases hbI : b = I
      · subst hbI
        rw [hoI] at e; cases e
        exact (N₃ _ (.head _)).1
      · obtain ⟨o₀, hn⟩ := hfp b hb hbI
        have : o₀ = o := by have := F₁.keep b o₀ hn; rw [e] at this; exact (Option.some.inj this).symm
        exact this ▸ F₃.keep b o₀ hn
    rcases hf with rfl | rfl <;> exact key
  · have hin : i = n := by omega
    subst hin
    refine W.done _ _ _ hst' fun h₁ tk₁ hk₁ => wpAny_execs_nil ?_
    obtain ⟨F₁, N₁⟩ := next h₁ hk₁
    exact hR h₁ tk₁ m' news' F₁ N₁ hJ

theorem letGo_rangeiter {target : Expr} {I : Addr} {o : Obj} {v : Value} {Q' : Unit → Shared → Prop} {s' : Shared} (ho : s'.heap.get? I = some o) (hc : o.cls = .type "range_iterator") (hd : ∃ vs, o.data = .fields vs) (h : Q' () s') :
    wpAny (model prog w) A (letOwnedTupleGo target (.ref I) v) Q' E s' := by
  obtain ⟨vs, hd⟩ := hd
  unfold letOwnedTupleGo
  cases target <;> first
    | exact wpAny_pure h
    | (cases v <;> first
        | exact wpAny_pure h
        | (refine wpAny_bind (wpAny_load ho ?_)
           rw [hc, hd]
           exact wpAny_pure h))

theorem for_list {iter : Expr} {L : Addr} (hL : env.locals = L) {pos : Pos} {l : Addr} {items : Array Value} (hh : A.handled = none) (hl : h₀.IsList l items)
    (J : Nat → (Str → Option Value) → List (Addr × Obj) → Prop)
    (hi : wpAny (model prog w) A (eval iter env) (ItL h₀ L l J s) E s)
    (step : ∀ i v m₁ news₁ h₁ tk₁ I oI, items[i]? = some v → J i m₁ news₁ → (∀ p ∈ news₁, p.1 ≠ I) → Fr h₀ L h₁ m₁ → News h₀ L h₁ ((I, oI) :: news₁) →
      wpAny (model prog w) A (assign target env v) (fun _ s₂ => wpAny (model prog w) A (execs body env) (TurnEnd h₀ L I oI (J (i + 1)) { s with heap := h₁, toks := tk₁ }) E s₂) E { s with heap := h₁, toks := tk₁ })
    (hR : ∀ h' tk m' news', Fr h₀ L h' m' → News h₀ L h' news' → J items.size m' news' → Q .next { s with heap := h', toks := tk })
    (hs : ∀ x, foldedSetIterable iter env x = pure x := by intro _; rfl)
    (hE : PassesOwn (model prog w) A env E := by passes_own) :
    wpAny (model prog w) A (exec (.For target iter body [] pos) env) Q E s := by
  subst hL
  refine wpAny_For (wpAny_mono hi (fun xv s₁ h₁ => ?_) fun _ _ e => e) hs
  obtain ⟨rfl, h', tk, news, m, rfl, F', N, h0⟩ := h₁
  have hls : h'.IsList l items := hl.at fun o e => F'.keep l o e
  obtain ⟨ol, hol, _⟩ := id hl
  have hlt : l < h₀.objs.size := Heap.lt_size hol
  have hne : l ≠ h'.objs.size := Nat.ne_of_lt (Nat.lt_trans (Nat.lt_of_lt_of_le hlt F'.above) F'.ns.lt)
  refine wpAny_pyIter_list hls ?_
  refine loop_mine (s := { s with heap := h'.push { cls := .type "list_iterator", data := .fields #[.ref l, .int 0 0] }, toks := tk }) (h₀ := h₀) (m := m) (news := news) (R := fun r s' => match r with | .ok f => Q f s' | .error e => cameBackBy (model prog w) A env E e s') (Walks.list hh _ l hne items)
    (fun b hb hbI => ?_) (Nat.ne_of_lt F'.ns.lt) (next_is_new F') (fun p hp => Nat.ne_of_lt (Heap.lt_size (N p hp).1)) (fun i h st => ⟨_, st.1.choose_spec.1⟩) ⟨⟨_, Heap.get?_push_size _ rfl, rfl, rfl⟩, hls.at fun o e => Heap.get?_push_of_some _ e⟩
    (F'.push _) (fun p hp => ⟨Heap.get?_push_of_some _ (N p hp).1, (N p hp).2⟩) (fun i s' v Q' st hQ' => letGo_listiter st.1 hQ') J h0 ?_ ?_
  · rcases List.mem_cons.mp hb with e | hb
    · exact absurd e hbI
    · exact ⟨ol, (List.mem_singleton.mp hb) ▸ hol⟩
  · intro i v m₁ news₁ h₁ tk₁ oI _ hP hJ hoff F₁ N₁
    exact wpAny_mono (step i v m₁ news₁ h₁ tk₁ _ oI hP hJ hoff F₁ N₁) (fun _ _ x => wpAny_mono x (fun _ _ y => y) hE) hE
  · intro h'' tk'' m' news' F'' N'' hJ
    exact hR h'' tk'' m' news' F'' N'' hJ

theorem for_range {iter : Expr} {L : Addr} (hL : env.locals = L) {pos : Pos} {a b c : Int} (n : Nat) (hh : A.handled = none) (hsm : Builtin.Range.small a b c = true) (hn : Builtin.Range.rangeSize a b c = (n : Int)) 
    (J : Nat → (Str → Option Value) → List (Addr × Obj) → Prop)
    (hi : wpAny (model prog w) A (eval iter env) (ItR h₀ L a b c J s) E s)
    (step : ∀ (i : Nat) t m₁ news₁ h₁ tk₁ I oI, i < n → J i m₁ news₁ → (∀ p ∈ news₁, p.1 ≠ I) → Fr h₀ L h₁ m₁ → News h₀ L h₁ ((I, oI) :: news₁) →
      wpAny (model prog w) A (assign target env (.int (a + (i : Nat) * c) t)) (fun _ s₂ => wpAny (model prog w) A (execs body env) (TurnEnd h₀ L I oI (J (i + 1)) { s with heap := h₁, toks := tk₁ }) E s₂) E { s with heap := h₁, toks := tk₁ })
    (hR : ∀ h' tk m' news', Fr h₀ L h' m' → News h₀ L h' news' → J n m' news' → Q .next { s with heap := h', toks := tk })
    (hs : ∀ x, foldedSetIterable iter env x = pure x := by intro _; rfl)
    (hE : PassesOwn (model prog w) A env E := by passes_own) :
    wpAny (model prog w) A (exec (.For target iter body [] pos) env) Q E s := by
  subst hL
  refine wpAny_For (wpAny_mono hi (fun xv s₁ h₁ => ?_) fun _ _ e => e) hs
  obtain ⟨r, t, u, v, rfl, hr, h', tk, news, m, rfl, F', N, h0⟩ := h₁
  refine wpAny_pyIter_range hr hsm ?_
  rw [hn]
  refine loop_mine (s := { s with heap := h'.push { cls := .type "range_iterator", data := .fields #[rawInt a, rawInt n, rawInt c] }, toks := tk }) (h₀ := h₀) (m := m) (news := news) (R := fun r s' => match r with | .ok f => Q f s' | .error e => cameBackBy (model prog w) A env E e s') (Walks.range hh _ a c n)
    (fun b hb hbI => absurd (List.mem_singleton.mp hb) hbI) (Nat.ne_of_lt F'.ns.lt) (next_is_new F') (fun p hp => Nat.ne_of_lt (Heap.lt_size (N p hp).1)) (fun i h st => ⟨_, st⟩) (by show IsRangeIter _ _ _ _ _; simpa using Heap.get?_push_size _ rfl)
    (F'.push _) (fun p hp => ⟨Heap.get?_push_of_some _ (N p hp).1, (N p hp).2⟩) (fun i s' v Q' st hQ' => letGo_rangeiter st rfl ⟨_, rfl⟩ hQ') J h0 ?_ ?_
  · rintro i v m₁ news₁ h₁ tk₁ oI hlt ⟨t, rfl⟩ hJ hoff F₁ N₁
    exact wpAny_mono (step i t m₁ news₁ h₁ tk₁ _ oI hlt hJ hoff F₁ N₁) (fun _ _ x => wpAny_mono x (fun _ _ y => y) hE) hE
  · intro h'' tk'' m' news' F'' N'' hJ
    exact hR h'' tk'' m' news' F'' N'' hJ
end
end Mine
end
section
open PySem PySem.W PySem.Calls PyProof.Rows PySem.Spec
namespace Mine
structure BlockOk (b : Block) : Prop where
  n : b.lines.length ≤ 5
  len : ∀ x ∈ b.lines, x.length ≤ 60
  blank : b.blank.length ≤ 10
  name : ∀ n, b.name = some n → n.length ≤ 10
  w0 : 0 ≤ b.width
  w1 : b.width ≤ 40
structure DOk (D : List (PyData × PyData)) : Prop where
  str : ∀ x y, lookup (.str x) D = some y → ∃ t, y = .str t ∧ t.length ≤ 20
def BlockAt (h : Heap) (v : Value) (b : Block) : Prop :=
  ∃ D l arr nm tb tw, v = .ref D ∧ h.get? D = some (tup #[.ref l, nm, .str b.blank tb, .int b.width tw]) ∧ h.get? l = some (W.listOf arr 0) ∧ TJ nm b.name ∧ StrsAre arr.toList b.lines
theorem BlockAt.keeps {h h' : Heap} {v b} (x : BlockAt h v b) (k : Keeps h h') : BlockAt h' v b := by
  obtain ⟨D, l, arr, nm, tb, tw, e, h1, h2, h3, h4⟩ := x
  exact ⟨D, l, arr, nm, tb, tw, e, k _ _ h1, k _ _ h2, h3, h4⟩
structure BlocksAre (h : Heap) (vs : List Value) (bs : List Block) : Prop where
  len : vs.length = bs.length
  get : ∀ (i : Nat) v, vs[i]? = some v → ∃ b, bs[i]? = some b ∧ BlockAt h v b
theorem BlocksAre.keeps {h h' : Heap} {vs bs} (x : BlocksAre h vs bs) (k : Keeps h h') : BlocksAre h' vs bs :=
  ⟨x.len, fun i v e => let ⟨b, h1, h2⟩ := x.get i v e; ⟨b, h1, h2.keeps k⟩⟩
def outB (D : List (PyData × PyData)) (b : Block) : List Str := b.lines ++ match b.name with
  | none => []
  | some nm => b.blank :: match lookup (.str nm) D with
    | some (.str t) => [Txt.mul (Str.ofString " ") b.width ++ t, Str.ofString "", Str.ofString "", b.blank]
    | _ => []
def outS (D : List (PyData × PyData)) (bs : List Block) : List Str := bs.flatMap (outB D)
theorem outB_len {D b} (h : BlockOk b) : (outB D b).length ≤ 10 := by
  have := h.n
  unfold outB
  rw [List.length_append]
  split
  · simp; omega
  · split <;> (simp; omega)
theorem outS_len {D bs} (h : ∀ b ∈ bs, BlockOk b) : (outS D bs).length ≤ 10 * bs.length := by
  induction bs with
  | nil => simp [outS]
  | cons b r ih =>
    have h1 := outB_len (D := D) (h b (.head _))
    have h2 := ih fun b hb => h b (.tail _ hb)
    unfold outS at *
    rw [List.flatMap_cons, List.length_append, List.length_cons]
    omega
theorem outS_snoc {D bs b} : outS D (bs ++ [b]) = outS D bs ++ outB D b := by
  unfold outS; simp
def OutP (s : Shared) (r : List Str) (v : Value) (h : Heap) : Prop :=
  ∃ l arr e, v = .ref l ∧ News s.heap s.heap.objs.size h [(l, W.listOf arr e)] ∧ StrsAre arr.toList r
/-- what holds between the turns -/
def OJ (D : List (PyData × PyData)) (sd : Addr) (bs : List Block) (i : Nat) (m : Str → Option Value) (nx : List (Addr × Obj)) : Prop :=
  ∃ out arr e, nx = [(out, W.listOf arr e)] ∧ m (Str.ofString "out") = some (.ref out) ∧ m (Str.ofString "said") = some (.ref sd) ∧ StrsAre arr.toList (outS D (bs.take i))
theorem frame_out {m : Str → Option Value} {out sd : Addr} (h1 : m (Str.ofString "out") = some (.ref out)) (h2 : m (Str.ofString "said") = some (.ref sd)) :
    ∃ u : Str → Option Value, m = fun y => if y = Str.ofString "out" then some (.ref out) else if y = Str.ofString "said" then some (.ref sd) else u y := by
  refine ⟨m, ?_⟩
  funext y
  by_cases e1 : y = Str.ofString "out"
  · rw [if_pos e1, e1, h1]
  rw [if_neg e1]
  by_cases e2 : y = Str.ofString "said"
  · rw [if_pos e2, e2, h2]
  rw [if_neg e2]
theorem addB_N {prog : Program} {w : World} {A : Around} {E : Value → Shared → Prop} {s : Shared} {base : Heap} {L : Addr} {m : Str → Option Value} {news : List (Addr × Obj)} {l b : Addr} {its its2 : Array Value} {n n2 : Nat} {Q : Value → Shared → Prop} (F : Fr base L s.heap m) (N : News base L s.heap news) (hl : (l, W.listOf its n) ∈ news) (hb : base.get? b = some (W.listOf its2 n2))
    (hsz : its.size + its2.size ≤ sizeLine) (h : ∀ D h', Fr base L h' m → News base L h' ((D, W.listOf (its ++ its2) 0) :: news) → (∀ p ∈ news, p.1 < D) → Q (.ref D) { s with heap := h' }) :
    wpAny (model prog w) A (binaryOp .Add (.ref l) (.ref b)) Q E s := by
  refine add_arrays F N (N.isList hl) ⟨_, F.keep _ _ hb, rfl, _, rfl⟩ (fun h' F' N' => h _ h' F' ?_ (news_lt N)) hsz
  have e : (its.toList ++ its2.toList).toArray = its ++ its2 := by simp
  rw [e] at N'
  exact N'
local macro_rules | `(tactic| walk_at "binaryOp Add ref ref") => `(tactic| (k_here; k_dflt (refine' add_N ?k1 ?k2 ?k3 ?k4 ?k5 ?_; (case k1 => k_asm); (case k2 => k_asm); (case k3 => k_mem); (case k4 => k_mem); (case k5 => size_fits)); intro D' h' F' N' l1; (try k_lt l1); (try k_sweep)))
local macro_rules | `(tactic| walk_at "binaryOp Add ref ref") => `(tactic| (k_here; k_dflt (refine' addB_N ?k1 ?k2 ?k3 ?k4 ?k5 ?_; (case k1 => k_asm); (case k2 => k_asm); (case k3 => k_mem); (case k4 => assumption); (case k5 => size_fits)); intro D' h' F' N' l1; (try k_lt l1); (try k_sweep)))
local macro_rules | `(tactic| walk_at "assign Tuple") => `(tactic| (k_here; (with_reducible show wpAny _ _ (assign (Expr.Tuple _ _ _) _ (Value.ref _)) _ _ _); k_dflt (refine' unpackN_ ?k1 ?k2 ?k3 ?k4 ?k5 ?k6 ?_; (case k1 => k_asm); (case k2 => k_asm); (case k3 => exact ⟨_, Fr.keep (by k_asm) _ _ (by assumption), rfl, _, rfl⟩); (case k4 => assumption); (case k5 => rfl); (case k6 => rfl)); intro h' F' N'; (try k_sweep)))
local macro_rules | `(tactic| walk_at "compareOp In str ref") => `(tactic| (k_here; (refine' in_yes ?k1 ?k2 ?k3 ?_; (case k1 => k_asm); (case k2 => assumption); (case k3 => assumption)); intro tk'))
local macro_rules | `(tactic| walk_at "compareOp In str ref") => `(tactic| (k_here; (refine' in_no ?k1 ?k2 ?k3 ?_; (case k1 => k_asm); (case k2 => assumption); (case k3 => assumption)); intro tk'))
local macro_rules | `(tactic| walk_at "subscriptTail") => `(tactic| (k_here; (with_reducible show wpAny _ _ (subscriptTail _ _ (Value.ref _) (Value.str _ _)) _ _ _); (refine' item_yes ?k1 ?k2 ?k3 ?_; (case k1 => k_asm); (case k2 => assumption); (case k3 => assumption)); intro t' tk'))
local macro_rules | `(tactic| walk_at "exec For Tuple Name cons nil") => `(tactic| refine Stop.out ?_)
theorem out_spec {w mean mg mb} {A : Around} {s : Shared} {bl sd : Addr} {vs : List Value} {bs : List Block} {D : List (PyData × PyData)} (M : Mod w mean mg mb s.heap) (hh : A.handled = none)
   (hd : A.depth + 10 < recursionLimit) (hl : s.heap.IsList bl vs.toArray) (hb : BlocksAre s.heap vs bs) (hok : ∀ b ∈ bs, BlockOk b) (hn : bs.length ≤ 20) (HT : StrTab PR w s.heap sd D) (hD : DOk D) :
   wpAny (model PR w) A (call (.ref 83) [.ref bl, .ref sd]) (PRet s (OutP s (outS D bs))) (fun _ _ => False) s := by
  have X := M.K
  have T := M.T
  have kf : Challenge.rw_ep5035_01 = Challenge.rw_ep5035_01 ∧ Mine.hd.heap_39 = Mine.hd.heap_39 := by
    k_fill
    exact ⟨rfl, rfl⟩
  clear kf
  refine' code_pure (binds := [(Str.ofString "blocks", .ref bl), (Str.ofString "said", .ref sd)]) X T.nolimit ?k1 ?k2 ?k3 ?k4 ?k5 ?k6 ?k7 ?k8 ?k9 ?_
  case k1 => k_is
  case k2 => k_is
  case k3 => omega
  case k4 => exact BindsTo.of_eq rfl
  case k5 => exact locs rfl
  case k6 => rfl
  case k7 => rfl
  case k8 => rfl
  case k9 => decide
  intro h₁ F N
  k_steps
  rename_i F' N'
  refine for_list (L := s.heap.objs.size) rfl hh hl (OJ D sd bs) ?_ ?_ ?_ (fun _ => rfl) (by intro e s h; exact h.elim)
  · k_steps
    exact ⟨rfl, _, _, _, _, rfl, by assumption, by assumption, _, _, _, rfl, rfl, rfl, .nil⟩
  · clear F' N'
    rintro i v m₁ news₁ h₂ tk₁ I oI hv ⟨out, arr, e, rfl, m1, m2, hs⟩ hoff F₁ N₁
    obtain ⟨u, rfl⟩ := frame_out m1 m2
    clear m1 m2
    have hne : out ≠ I := hoff _ (.head _)
    have hne2 : I ≠ out := fun e => hne e.symm
    obtain ⟨b, hbi, Dt, l, arl, nm, tb, tw, rfl, hDt, hl0, hnm, hls⟩ := hb.get i v (by simpa using hv)
    have hbm : b ∈ bs := List.mem_of_getElem? hbi
    have hbk := hok b hbm
    have ht : bs.take (i + 1) = bs.take i ++ [b] := by rw [List.take_add_one, hbi]; rfl
    have hsz : arr.size ≤ 200 := by
      rw [← Array.length_toList, hs.len_eq]
      have := outS_len (D := D) (bs := bs.take i) fun b hb => hok b (List.mem_of_mem_take hb)
      have := List.length_take (i := i) (l := bs)
      omega
    have hsl : arl.size ≤ 5 := by rw [← Array.length_toList, hls.len_eq]; exact hbk.n
    have hsz1 : (arr ++ arl).size ≤ 205 := by rw [Array.size_append]; omega
    cases hname : b.name with
    | none =>
      rw [hname] at hnm
      cases hnm
      dsimp only
      k_steps
      rename_i l1 _ F' N'
      refine turn_end [(_, W.listOf (arr ++ arl) 0)] (.inr rfl) F' N' (by k_mem) (fun p hp => by rw [List.mem_singleton.mp hp]; k_mem) (fun p hp => by rw [List.mem_singleton.mp hp]; exact Nat.ne_of_gt l1.1) ⟨_, _, _, rfl, rfl, rfl, ?_⟩
      rw [ht, outS_snoc, Array.toList_append]
      refine hs.append' ?_
      unfold outB
      rw [hname, List.append_nil]
      exact hls
    | some nam =>
      rw [hname] at hnm
      obtain ⟨tn, rfl⟩ := hnm
      dsimp only
      have hb0 := hbk.blank
      have hw0 := hbk.w0
      have hw1 := hbk.w1
      have hn0 := hbk.name _ hname
      cases hlk : lookup (.str nam) D with
      | none =>
        k_steps
        rename_i l1 _ _ _ F' N' _
        refine turn_end [(_, W.listOf ((arr ++ arl).push _) _)] (.inl rfl) F' N' (by k_mem) (fun p hp => by rw [List.mem_singleton.mp hp]; k_mem) (fun p hp => by rw [List.mem_singleton.mp hp]; exact Nat.ne_of_gt l1.1) ⟨_, _, _, rfl, rfl, rfl, ?_⟩
        rw [ht, outS_snoc, Array.toList_push, Array.toList_append, List.append_assoc]
        refine hs.append' ?_
        unfold outB
        rw [hname]
        dsimp only
        rw [hlk]
        exact hls.append' (.cons _ _ .nil)
      | some y =>
        obtain ⟨tt, rfl, htl⟩ := hD.str _ _ hlk
        have hmul := len_mul_k1 (x := Str.ofString " ") (n := b.width) (by decide)
        k_steps
        rename_i l1 _ F' N'
        refine turn_end [(_, W.listOf ((arr ++ arl).push _ ++ _) 0)] (.inl rfl) F' N' (by k_mem) (fun p hp => by rw [List.mem_singleton.mp hp]; k_mem) (fun p hp => by rw [List.mem_singleton.mp hp]; exact Nat.ne_of_gt l1.2.2.1) ⟨_, _, _, rfl, rfl, rfl, ?_⟩
        rw [ht, outS_snoc, Array.toList_append, Array.toList_push, Array.toList_append, List.append_assoc, List.append_assoc]
        refine hs.append' ?_
        unfold outB
        rw [hname]
        dsimp only
        rw [hlk]
        exact hls.append' (.cons _ _ (.cons _ _ (.cons _ _ (.cons _ _ (.cons _ _ .nil)))))
  · rintro h₂ tk₂ m₂ news₂ F₂ N₂ ⟨out, arr, e, rfl, m1, m2, hs⟩
    obtain ⟨u, rfl⟩ := frame_out m1 m2
    dsimp only
    k_steps
    refine ⟨_, _, _, rfl, F₂, _, _, _, rfl, N₂, ?_⟩
    have e : bs.take (List.toArray vs).size = bs := by
      rw [List.size_toArray, hb.len, List.take_length]
    rw [e] at hs
    exact hs
end Mine
end
section
open PySem PySem.W PySem.Calls PyProof.Rows PySem.Spec
namespace Mine
def END : Str := Str.ofString "end"
theorem news_base {base h : Heap} {L : Addr} {news : List (Addr × Obj)} {bl : Addr} {items : Array Value} {m : Str → Option Value} (hl : base.IsList bl items) (F : Fr base L h m) : h.IsList bl items := hl.at fun o e => F.keep _ o e
def AllNeN (d : Nat) : List (Addr × Obj) → Prop
  | [] => True
  | p :: r => @Ne Nat p.1 d ∧ AllNeN d r
theorem allNeN_of {d : Addr} : ∀ {l : List (Addr × Obj)}, (∀ p ∈ l, p.1 ≠ d) → AllNeN d l
  | [], _ => trivial
  | p :: _, h => ⟨h p (.head _), allNeN_of fun q hq => h q (.tail _ hq)⟩
theorem out_N {w mean mg mb} {A : Around} {E : Value → Shared → Prop} {s : Shared} {base : Heap} {L : Addr} {m : Str → Option Value} {news : List (Addr × Obj)} {bl sd : Addr} {vs : List Value} {bs : List Block} {D : List (PyData × PyData)} {Q : Value → Shared → Prop} 
   (M : Mod w mean mg mb base) (F : Fr base L s.heap m) (N : News base L s.heap news) (hh : A.handled = none)
   (hd : A.depth + 10 < recursionLimit) (hl : s.heap.IsList bl vs.toArray) (hb : BlocksAre s.heap vs bs) (hok : ∀ b ∈ bs, BlockOk b) (hn : bs.length ≤ 20) (HT : StrTab PR w s.heap sd D) (hD : DOk D)
   (hq : ∀ l (vl : List Value) e h' tk', Fr base L h' m → News base L h' ((l, W.listOf vl.toArray e) :: news) → AllNeN l news → Keeps s.heap h' → StrsAre vl (outS D bs) → vl.length ≤ 200 → Q (.ref l) { s with heap := h', toks := tk' }) :
   wpAny (model PR w) A (call (.ref 83) [.ref bl, .ref sd]) Q E s := by
  refine pret_N F N (out_spec (M.keeps F.keep) hh hd hl hb hok hn HT hD) fun v h' tk' F' N' k' hp => ?_
  obtain ⟨l, arr, e, rfl, N2, hs⟩ := hp
  refine hq l arr.toList e h' tk' F' (news_join F N' N2) (allNeN_of fun p hp e => news_above N N2 _ (.head _) p hp e.symm) k' hs ?_
  rw [hs.len_eq]
  have := outS_len (D := D) (bs := bs) hok
  omega
theorem keeps_of_fr {base h h' : Heap} (k : Keeps base h) (k' : Keeps h h') : Keeps base h' := k.trans k'
local macro_rules | `(tactic| walk_at "call ref") => `(tactic| (k_here; (with_reducible show wpAny _ _ (call (Value.ref 83) _) _ _ _); (refine' out_N (sd := _) (D := []) ?k1 ?k2 ?k3 ?k4 ?k5 ?k6 ?k7 ?k8 ?k9 ?k10 ?k11 ?_; (case k1 => assumption); (case k2 => k_asm); (case k3 => k_asm); (case k4 => assumption); (case k5 => (show _ + 1 + 10 < _; omega)); (case k6 => exact Heap.IsList.at (by assumption) (fun o e => Fr.keep (by k_asm) _ o e)); (case k7 => exact BlocksAre.keeps (by assumption) (Fr.keep (by k_asm))); (case k8 => assumption); (case k9 => assumption); (case k10 => k_tabat); (case k11 => exact ⟨fun x y e => nomatch e⟩)); intro l' vl' e' h' tk' F' N' ne' kp' hs' sz'; (simp only [AllNeN, and_true] at ne'); (try k_sweep)))
local macro_rules | `(tactic| walk_at "binaryOp Add ref ref") => `(tactic| (k_here; k_dflt (refine' add_N ?k1 ?k2 ?k3 ?k4 ?k5 ?_; (case k1 => k_asm); (case k2 => k_asm); (case k3 => k_mem); (case k4 => k_mem); (case k5 => size_fits)); intro D' h' F' N' l1; (try k_lt l1); (try k_sweep)))
theorem source_spec {w mean mg mb} {A : Around} {s : Shared} {bl : Addr} {vs : List Value} {bs : List Block} (M : Mod w mean mg mb s.heap) (hh : A.handled = none)
   (hd : A.depth + 20 < recursionLimit) (hl : s.heap.IsList bl vs.toArray) (hb : BlocksAre s.heap vs bs) (hok : ∀ b ∈ bs, BlockOk b) (hn : bs.length ≤ 20) :
   wpAny (model PR w) A (call (.ref 90) [.ref bl]) (PRet s (OutP s (outS [] bs ++ [END]))) (fun _ _ => False) s := by
  have X := M.K
  have T := M.T
  have kf : Challenge.rw_ep5035_01 = Challenge.rw_ep5035_01 ∧ Mine.hd.heap_39 = Mine.hd.heap_39 := by
    k_fill
    exact ⟨rfl, rfl⟩
  clear kf
  refine' code_pure (binds := [(Str.ofString "blocks", .ref bl)]) X T.nolimit ?k1 ?k2 ?k3 ?k4 ?k5 ?k6 ?k7 ?k8 ?k9 ?_
  case k1 => k_is
  case k2 => k_is
  case k3 => omega
  case k4 => exact BindsTo.of_eq rfl
  case k5 => exact locs rfl
  case k6 => rfl
  case k7 => rfl
  case k8 => rfl
  case k9 => decide
  intro h₁ F N
  k_steps
  rename_i F' N' _
  refine ⟨_, _, _, rfl, F', _, _, _, rfl, (fun p hp => by rw [List.mem_singleton.mp hp]; exact N' _ (.head _)), ?_⟩
  rw [Array.toList_append]
  exact StrsAre.append' (by assumption) (.cons _ _ .nil)
theorem source_N {w mean mg mb} {A : Around} {E : Value → Shared → Prop} {s : Shared} {base : Heap} {L : Addr} {m : Str → Option Value} {news : List (Addr × Obj)} {bl : Addr} {vs : List Value} {bs : List Block} {Q : Value → Shared → Prop} 
   (M : Mod w mean mg mb base) (F : Fr base L s.heap m) (N : News base L s.heap news) (hh : A.handled = none)
   (hd : A.depth + 20 < recursionLimit) (hl : s.heap.IsList bl vs.toArray) (hb : BlocksAre s.heap vs bs) (hok : ∀ b ∈ bs, BlockOk b) (hn : bs.length ≤ 20)
   (hq : ∀ l (vl : List Value) e h' tk', Fr base L h' m → News base L h' ((l, W.listOf vl.toArray e) :: news) → AllNeN l news → Keeps s.heap h' → StrsAre vl (outS [] bs ++ [END]) → vl.length ≤ 201 → Q (.ref l) { s with heap := h', toks := tk' }) :
   wpAny (model PR w) A (call (.ref 90) [.ref bl]) Q E s := by
  refine pret_N F N (source_spec (M.keeps F.keep) hh hd hl hb hok hn) fun v h' tk' F' N' k' hp => ?_
  obtain ⟨l, arr, e, rfl, N2, hs⟩ := hp
  refine hq l arr.toList e h' tk' F' (news_join F N' N2) (allNeN_of fun p hp e => news_above N N2 _ (.head _) p hp e.symm) k' hs ?_
  rw [hs.len_eq, List.length_append]
  have := outS_len (D := []) (bs := bs) hok
  simp only [List.length_cons, List.length_nil]
  omega
end Mine
end
section
open PySem PySem.W PySem.Calls PyProof.Rows PySem.Spec
namespace Mine
theorem law_small (n : Nat) : Builtin.Range.small 1 (if 17 < (n : Int) then 17 else (n : Int)) 2 = true := by
  unfold Builtin.Range.small Builtin.Range.rangeSize
  simp only [Builtin.Range.rangeFitsLong, Bool.and_eq_true, Bool.or_eq_true, decide_eq_true_eq, beq_iff_eq, show (2 : Int) > 0 by decide, if_true]
  split <;> split <;> omega
theorem law_size (n : Nat) : Builtin.Range.rangeSize 1 (if 17 < (n : Int) then 17 else (n : Int)) 2 = ((min n 17 / 2 : Nat) : Int) := by
  unfold Builtin.Range.rangeSize
  simp only [show (2 : Int) > 0 by decide, if_true]
  split <;> split <;> omega
def BlockIn (rest : List (Addr × Obj)) (v : Value) (b : Block) : Prop :=
  ∃ D l arr nm tb tw, v = .ref D ∧ (D, tup #[.ref l, nm, .str b.blank tb, .int b.width tw]) ∈ rest ∧ (l, W.listOf arr 0) ∈ rest ∧ TJ nm b.name ∧ StrsAre arr.toList b.lines
theorem BlockIn.sub {rest rest' : List (Addr × Obj)} {v b} (x : BlockIn rest v b) (h : ∀ p ∈ rest, p ∈ rest') : BlockIn rest' v b := by
  obtain ⟨D, l, arr, nm, tb, tw, e, h1, h2, h3, h4⟩ := x
  exact ⟨D, l, arr, nm, tb, tw, e, h _ h1, h _ h2, h3, h4⟩
structure BlocksIn (rest : List (Addr × Obj)) (vs : List Value) (bs : List Block) : Prop where
  len : vs.length = bs.length
  get : ∀ (i : Nat) v, vs[i]? = some v → ∃ b, bs[i]? = some b ∧ BlockIn rest v b
theorem BlocksIn.at {base h : Heap} {L : Addr} {news rest : List (Addr × Obj)} {vs bs} (x : BlocksIn rest vs bs) (N : News base L h news) (hs : ∀ p ∈ rest, p ∈ news) : BlocksAre h vs bs :=
  ⟨x.len, fun i v e => by
    obtain ⟨b, hb, D, l, arr, nm, tb, tw, e, h1, h2, h3, h4⟩ := x.get i v e
    exact ⟨b, hb, D, l, arr, nm, tb, tw, e, (N _ (hs _ h1)).1, (N _ (hs _ h2)).1, h3, h4⟩⟩
theorem BlocksIn.snoc {rest rest' : List (Addr × Obj)} {vs bs} {v : Value} {b : Block} (x : BlocksIn rest vs bs) (h : ∀ p ∈ rest, p ∈ rest') (hb : BlockIn rest' v b) : BlocksIn rest' (vs ++ [v]) (bs ++ [b]) := by
  refine ⟨by simp [x.len], fun i u e => ?_⟩
  rcases Nat.lt_trichotomy i vs.length with hi | hi | hi
  · rw [List.getElem?_append_left hi] at e
    obtain ⟨b', h1, h2⟩ := x.get i u e
    exact ⟨b', by rw [List.getElem?_append_left (x.len ▸ hi)]; exact h1, h2.sub h⟩
  · subst hi
    simp at e; subst e
    exact ⟨b, by rw [x.len]; simp, hb⟩
  · rw [List.getElem?_eq_none (by simp; omega)] at e; cases e
def B0 : Block := { lines := [Str.ofString "  :param a: words"], name := some (Str.ofString "a"), blank := Str.ofString "", width := 3 }
def blocksOf (ns : List Int) (n : Nat) : List Block := B0 :: (List.range n).map fun i => blockS (ns.getD (1 + 2 * i) 0) (ns.getD (2 + 2 * i) 0)
theorem blocksOf_snoc (ns : List Int) (n : Nat) : blocksOf ns (n + 1) = blocksOf ns n ++ [blockS (ns.getD (1 + 2 * n) 0) (ns.getD (2 + 2 * n) 0)] := by
  unfold blocksOf
  rw [List.range_succ, List.map_append]
  rfl
def LJ (ns : List Int) (scr bl : Addr) (cells : List (Addr × Obj)) (i : Nat) (m : Str → Option Value) (nx : List (Addr × Obj)) : Prop :=
  ∃ arr e rest, nx = (bl, W.listOf arr e) :: (cells ++ rest) ∧ m (Str.ofString "blocks") = some (.ref bl) ∧ m (Str.ofString "script") = some (.ref scr) ∧ BlocksIn rest arr.toList (blocksOf ns i) ∧
    (∀ p ∈ rest, p.1 ≠ bl) ∧ (∀ c ∈ cells, ∀ p ∈ rest, p.1 ≠ c.1)
theorem block_N {w mean mg mb} {A : Around} {E : Value → Shared → Prop} {s : Shared} {base : Heap} {L : Addr} {m : Str → Option Value} {news : List (Addr × Obj)} {x y : Int} {tx ty : Tok} {Q : Value → Shared → Prop} 
   (M : Mod w mean mg mb base) (F : Fr base L s.heap m) (N : News base L s.heap news) (hh : A.handled = none) (hd : A.depth + 20 < recursionLimit)
   (hq : ∀ D l arr nm tb tw h' tk', Fr base L h' m → News base L h' ((D, tup #[.ref l, nm, .str (blockS x y).blank tb, .int (blockS x y).width tw]) :: (l, W.listOf arr 0) :: news) → AllNeN D news → AllNeN l news → TJ nm (blockS x y).name → StrsAre arr.toList (blockS x y).lines → Q (.ref D) { s with heap := h', toks := tk' }) :
   wpAny (model PR w) A (call (.ref 76) [.int x tx, .int y ty]) Q E s := by
  refine pret_N F N (block_spec (M.keeps F.keep) hh hd) fun v h' tk' F' N' k' hp => ?_
  obtain ⟨D, l, arr, nm, tb, tw, rfl, N2, h3, h4⟩ := hp
  exact hq D l arr nm tb tw h' tk' F' (news_join F N' N2) (allNeN_of fun p hp e => news_above N N2 _ (.head _) p hp e.symm) (allNeN_of fun p hp e => news_above N N2 _ (.tail _ (.head _)) p hp e.symm) h3 h4
/-- an int behind both ways -/
def IntAt (f : Int) (s : Shared) (v : Value) (s' : Shared) : Prop := ∃ t tk, v = .int f t ∧ s' = { s with toks := tk }
theorem intAt_intro {f g : Int} {s : Shared} {t : Tok} {tk : Nat} (e : g = f) : IntAt f s (.int g t) { s with toks := tk } := ⟨t, tk, by rw [e], rfl⟩
theorem intAt_use {M : Model} {A : Around} {E : Value → Shared → Prop} {s : Shared} {c : Sem Value} {Q : Value → Shared → Prop} (f : Int) (h : wpAny M A c (IntAt f s) E s) (hq : ∀ t tk, Q (.int f t) { s with toks := tk }) : wpAny M A c Q E s :=
  wpAny_mono h (fun v s' x => by obtain ⟨t, tk, rfl, rfl⟩ := x; exact hq t tk) fun _ _ x => x
theorem getD_nil {ns : List Int} (h : ns.length = 0) : (0 : Int) = ns.getD 0 0 := by
  cases ns with
  | nil => rfl
  | cons a r => cases h
theorem allNeN_mem {d : Addr} : ∀ {l : List (Addr × Obj)}, AllNeN d l → ∀ p ∈ l, p.1 ≠ d
  | [], _, _, hp => nomatch hp
  | q :: r, h, p, hp => by
    rcases List.mem_cons.mp hp with rfl | hp
    · exact h.1
    · exact allNeN_mem h.2 p hp
theorem frame_law {m : Str → Option Value} {v1 v2 : Value} (h1 : m (Str.ofString "blocks") = some v1) (h2 : m (Str.ofString "script") = some v2) :
    ∃ u : Str → Option Value, m = fun y => if y = Str.ofString "blocks" then some v1 else if y = Str.ofString "script" then some v2 else u y := by
  refine ⟨m, ?_⟩
  funext y
  by_cases e1 : y = Str.ofString "blocks"
  · rw [if_pos e1, e1, h1]
  rw [if_neg e1]
  by_cases e2 : y = Str.ofString "script"
  · rw [if_pos e2, e2, h2]
  rw [if_neg e2]
theorem LJ_init {base h' : Heap} {L : Addr} {m : Str → Option Value} {ns : List Int} {scr bl Dw lw : Addr} {t0 t1 t2 t3 : Tok} {cells : List (Addr × Obj)}
    (N : News base L h' ((bl, W.listOf #[.ref Dw] 0) :: (Dw, tup #[.ref lw, .str (Str.ofString "a") t1, .str (Str.ofString "") t2, .int 3 t3]) :: (lw, W.listOf #[.str (Str.ofString "  :param a: words") t0] 0) :: cells))
    (_F : Fr base L h' m) (m1 : m (Str.ofString "blocks") = some (.ref bl)) (m2 : m (Str.ofString "script") = some (.ref scr)) (h1 : @LT.lt Nat _ Dw bl) (h2 : @LT.lt Nat _ lw bl) (h3 : AllLt Dw cells) (h4 : AllLt lw cells) :
    ∃ news, News base L h' news ∧ LJ ns scr bl cells 0 m news := by
  have allLt_mem : ∀ {d : Addr} {l : List (Addr × Obj)}, AllLt d l → ∀ p ∈ l, p.1 < d := by
    intro d l
    induction l with
    | nil => intro _ p hp; cases hp
    | cons q r ih =>
      intro h p hp
      rcases List.mem_cons.mp hp with rfl | hp
      · exact h.1
      · exact ih h.2 p hp
  refine ⟨(bl, W.listOf #[.ref Dw] 0) :: (cells ++ [(Dw, tup #[.ref lw, .str (Str.ofString "a") t1, .str (Str.ofString "") t2, .int 3 t3]), (lw, W.listOf #[.str (Str.ofString "  :param a: words") t0] 0)]), ?_, _, _, _, rfl, m1, m2, ⟨rfl, ?_⟩, ?_, ?_⟩
  · intro p hp
    refine N p ?_
    rcases List.mem_cons.mp hp with rfl | hp
    · exact .head _
    rcases List.mem_append.mp hp with hp | hp
    · exact .tail _ (.tail _ (.tail _ hp))
    rcases List.mem_cons.mp hp with rfl | hp
    · exact .tail _ (.head _)
    rw [List.mem_singleton.mp hp]
    exact .tail _ (.tail _ (.head _))
  · intro i v e
    cases i with
    | zero =>
      cases e
      exact ⟨B0, rfl, Dw, lw, _, _, t2, t3, rfl, .head _, .tail _ (.head _), ⟨t1, rfl⟩, .cons _ _ .nil⟩
    | succ i => cases e
  · intro p hp
    rcases List.mem_cons.mp hp with rfl | hp
    · exact Nat.ne_of_lt h1
    rw [List.mem_singleton.mp hp]
    exact Nat.ne_of_lt h2
  · intro c hc p hp
    rcases List.mem_cons.mp hp with rfl | hp
    · exact Nat.ne_of_gt (allLt_mem h3 c hc)
    rw [List.mem_singleton.mp hp]
    exact Nat.ne_of_gt (allLt_mem h4 c hc)
/-- a turn's end told again -/
theorem LJ_next {base h' : Heap} {L I : Addr} {oI : Obj} {s₁ : Shared} {tk : Nat} {m₂ : Str → Option Value} {news' cells rest : List (Addr × Obj)} {ns : List Int} {scr bl D l : Addr} {arr al : Array Value} {e e0 : Nat} {i : Nat} {nm : Value} {tb tw : Tok} {b : Block}
    (F : Fr base L h' m₂) (N : News base L h' news') (hI : (I, oI) ∈ news') (h1 : (bl, W.listOf (arr.push (.ref D)) e) ∈ news') (h2 : (D, tup #[.ref l, nm, .str b.blank tb, .int b.width tw]) ∈ news') (h3 : (l, W.listOf al 0) ∈ news')
    (hc : ∀ p ∈ cells ++ rest, p ∈ news') (hb : b = blockS (ns.getD (1 + 2 * i) 0) (ns.getD (2 + 2 * i) 0)) (hnm : TJ nm b.name) (hls : StrsAre al.toList b.lines) (m1 : m₂ (Str.ofString "blocks") = some (.ref bl)) (m2 : m₂ (Str.ofString "script") = some (.ref scr))
    (hbs : BlocksIn rest arr.toList (blocksOf ns i)) (hr1 : ∀ p ∈ rest, p.1 ≠ bl) (hr2 : ∀ c ∈ cells, ∀ p ∈ rest, p.1 ≠ c.1) (hoff : ∀ p ∈ (bl, W.listOf arr e0) :: (cells ++ rest), p.1 ≠ I) (n1 : AllNeN D ((I, oI) :: (bl, W.listOf arr e0) :: (cells ++ rest))) (n2 : AllNeN l ((I, oI) :: (bl, W.listOf arr e0) :: (cells ++ rest))) :
    TurnEnd base L I oI (LJ ns scr bl cells (i + 1)) s₁ .next { s₁ with heap := h', toks := tk } := by
  have n1' := allNeN_mem n1
  have n2' := allNeN_mem n2
  refine turn_end ((bl, W.listOf (arr.push (.ref D)) e) :: (cells ++ ((D, tup #[.ref l, nm, .str b.blank tb, .int b.width tw]) :: (l, W.listOf al 0) :: rest))) (.inl rfl) F N hI ?_ ?_ ⟨_, _, _, rfl, m1, m2, ?_, ?_, ?_⟩
  · intro p hp
    rcases List.mem_cons.mp hp with rfl | hp
    · exact h1
    rcases List.mem_append.mp hp with hp | hp
    · exact hc p (List.mem_append_left _ hp)
    rcases List.mem_cons.mp hp with rfl | hp
    · exact h2
    rcases List.mem_cons.mp hp with rfl | hp
    · exact h3
    · exact hc p (List.mem_append_right _ hp)
  · intro p hp
    rcases List.mem_cons.mp hp with rfl | hp
    · exact hoff (bl, W.listOf arr e0) (.head _)
    rcases List.mem_append.mp hp with hp | hp
    · exact hoff p (.tail _ (List.mem_append_left _ hp))
    rcases List.mem_cons.mp hp with rfl | hp
    · exact Ne.symm (n1' (I, oI) (.head _))
    rcases List.mem_cons.mp hp with rfl | hp
    · exact Ne.symm (n2' (I, oI) (.head _))
    · exact hoff p (.tail _ (List.mem_append_right _ hp))
  · rw [blocksOf_snoc, ← hb, Array.toList_push]
    exact hbs.snoc (fun p hp => .tail _ (.tail _ hp)) ⟨D, l, al, nm, tb, tw, rfl, .head _, .tail _ (.head _), hnm, hls⟩
  · intro p hp
    rcases List.mem_cons.mp hp with rfl | hp
    · exact Ne.symm (n1' (bl, W.listOf arr e0) (.tail _ (.head _)))
    rcases List.mem_cons.mp hp with rfl | hp
    · exact Ne.symm (n2' (bl, W.listOf arr e0) (.tail _ (.head _)))
    · exact hr1 p hp
  · intro c hc' p hp
    rcases List.mem_cons.mp hp with rfl | hp
    · exact Ne.symm (n1' c (.tail _ (.tail _ (List.mem_append_left _ hc'))))
    rcases List.mem_cons.mp hp with rfl | hp
    · exact Ne.symm (n2' c (.tail _ (.tail _ (List.mem_append_left _ hc'))))
    · exact hr2 c hc' p hp
end Mine
end
section
open PySem PySem.W PySem.Calls PyProof.Rows PySem.Spec
namespace Mine
theorem newDict_and {M : Model} {A : Around} {s : Shared} {Q : Value → Shared → Prop} {E : Value → Shared → Prop} (h : wpAny M A newDict Q E s) : wpAny M A newDict (fun v s' => v = .ref s.heap.objs.size ∧ Q v s') E s := by
  intro Γ p hΓ
  have := h Γ p hΓ
  exact ⟨rfl, this⟩
def LeafS (f : Str) (s : Shared) (v : Value) (s' : Shared) : Prop := ∃ t tk, v = .str f t ∧ s' = { s with toks := tk }
def ItC (h₀ : Heap) (L : Addr) (m : Str → Option Value) (news : List (Addr × Obj)) (b : Int) (s : Shared) (xv : Value) (s₁ : Shared) : Prop :=
  ∃ r t u v, xv = .ref r ∧ IsRange s₁.heap r 0 b 1 t u v ∧ ∃ h' tk, s₁ = { s with heap := h', toks := tk } ∧ Fr h₀ L h' m ∧ News h₀ L h' news
theorem areOf_range {n : Nat} : ∀ {vs : List Value}, vs.length = n → (∀ (j : Nat) v, vs[j]? = some v → ∃ t : Tok, v = Value.int ((0 : Int) + (j : Nat) * 1) t) → AreOf .int vs (rangeKs 0 n) := by
  have key : ∀ (vs : List Value) (a : Nat), (∀ (j : Nat) v, vs[j]? = some v → ∃ t : Tok, v = Value.int ((0 : Int) + ((a + j : Nat) : Int) * 1) t) → AreOf .int vs ((List.range' a vs.length).map fun (i : Nat) => (0 : Int) + (i : Int)) := by
    intro vs
    induction vs with
    | nil => intro a _; exact .nil
    | cons v r ih =>
      intro a h
      rw [List.length_cons, List.range'_succ, List.map_cons]
      refine .cons ?_ (ih (a + 1) fun j u e => ?_)
      · obtain ⟨t, e⟩ := h 0 v rfl
        exact ⟨t, by rw [e]; simp⟩
      · obtain ⟨t, e'⟩ := h (j + 1) u e
        exact ⟨t, by rw [e']; congr 3; omega⟩
  intro vs hl h
  have := key vs 0 (fun j v e => by obtain ⟨t, e'⟩ := h j v e; exact ⟨t, by rw [e', Nat.zero_add]⟩)
  unfold rangeKs
  rw [List.range_eq_range', ← hl]
  exact this
section
variable {prog : Program} {w : World} {A : Around} {E : Value → Shared → Prop} {s : Shared} {env : Env} {h₀ : Heap} {L : Addr} {m : Str → Option Value} {news : List (Addr × Obj)}
theorem Assign_DictComp_R {kx vx iter : PySem.Expr} {x y : Str} {px py : Pos} {scope : Scope} {cl : List (Str × Addr)} {pos spos : Pos} {Q : Flow → Shared → Prop} (n : Nat) (b : Int) (kf vf : Int → Str) (_F : Fr h₀ L s.heap m) (_N : News h₀ L s.heap news) (hh : A.handled = none) (hbig : h₀.NoLimit)
    (hsw : swapsWith (.DictComp kx vx [⟨.Name x px, iter, [], 0⟩] scope pos) (some (.Name y py)) spos.line env = pure true) (hL : env.locals = L)
    (hy : env.kindOf y = some .local) (hp : (env.scope.kind == .class || (env.scope.kind == .module && env.locals != env.globals)) = false)
    (hclos : closureFor scope env = pure cl) (hcell : ∀ y ∈ scope.names, y.2 ≠ .cell) (hkind : scope.kind = .function)
    (hnames : ∀ y ∈ scope.names, y.2 = .local → scope.names.lookup y.1 = some .local) (hx : scope.names.lookup x = some .local) (hsz : n ≤ sizeLine)
    (hsm : Builtin.Range.small 0 b 1 = true) (hn : Builtin.Range.rangeSize 0 b 1 = ((n : Nat) : Int))
    (h : wpAny (model prog w) A (eval iter env) (ItC h₀ L m news b s) E s)
    (key : ∀ C k t (s₃ : Shared) E' m₂, 0 ≤ k → k < (n : Int) → s₃.heap.Ns C m₂ → m₂ x = some (.int k t) → Fr h₀ L s₃.heap m → News h₀ L s₃.heap news →
      wpAny (model prog w) A (eval kx (compEnvC scope cl C env)) (LeafS (kf k) s₃) E' s₃)
    (val : ∀ C k t (s₃ : Shared) E' m₂, 0 ≤ k → k < (n : Int) → s₃.heap.Ns C m₂ → m₂ x = some (.int k t) → Fr h₀ L s₃.heap m → News h₀ L s₃.heap news →
      wpAny (model prog w) A (eval vx (compEnvC scope cl C env)) (LeafS (vf k) s₃) E' s₃)
    (hQ : ∀ D o kvs h' tk, Fr h₀ L h' (fun z => if z = y then some (.ref D) else m z) → News h₀ L h' ((D, o) :: news) → AllNeN D news → (D == sysModules) = false → o.IsDictOf (strKind prog w) kvs →
      PyProof.V.FlatPairs PyData.str kvs (putAll PyData.str kf (fun k => .str (vf k)) (rangeKs 0 n)) → Q .next { s with heap := h', toks := tk })
    (hs : ∀ x, foldedSetIterable iter env x = pure x := by intro _; rfl) :
    wpAny (model prog w) A (exec (.Assign [.Name y py] (.DictComp kx vx [⟨.Name x px, iter, [], 0⟩] scope pos) spos) env) Q E s := by
  subst hL
  rw [exec_Assign_Name_used _ _ _ _ hsw]
  refine wpAny_bind (wpAny_standAt (wpAny_bind ?_))
  show wpAny _ A (do let _ ← comprehension (.DictComp kx vx [⟨.Name x px, iter, [], 0⟩] scope pos) scope env _ newDict false (eval iter env) (some (assign (.Name y py) env))) _ _ s
  refine wpAny_bind (wpAny_mono (wpAny_comprehension_free (use := some (assign (.Name y py) env)) (Q := fun _ s' => Q .next s') rfl hs hclos hkind hnames
    (wpAny_mono h (fun xv s₁ h₁ => ?_) fun _ _ e => e)) (fun _ s' hq => wpAny_pure (wpAny_pure hq)) fun _ _ e => e)
  obtain ⟨r, t, u, v, rfl, hr, h', tk, rfl, F, N⟩ := h₁
  refine wpAny_pyIter_range hr hsm ?_
  rw [hn]
  have up : ∀ (h₃ : Heap), (∀ b o, b ∉ [h'.objs.size] → (h'.push { cls := .type "range_iterator", data := .fields #[rawInt 0, rawInt n, rawInt 1] }).get? b = some o → h₃.get? b = some o) → ∀ b o, h'.get? b = some o → h₃.get? b = some o :=
    fun h₃ hk b o e => hk b o (fun hm => by rw [List.mem_singleton.mp hm] at e; exact Nat.lt_irrefl _ (Heap.lt_size e)) (Heap.get?_push_of_some _ e)
  refine wpAny_mono (newDict_and (comp_block_walkCD (knd := strKind prog w)
    (RR := fun acc C r s' => acc = .ref (h'.objs.size + 1) → compPost (model prog w) A E (some (assign (.Name y py) env)) (fun _ s' => Q .next s') acc C r s') (Walks.range hh h'.objs.size 0 1 n).bound hsz (fun _ => true)
    (fun v k => ∃ a, ItemKind.int.is a v ∧ k = kf a) (fun v y => ∃ a, ItemKind.int.is a v ∧ PyProof.Rows.Carried y (.str (vf a))) hcell hkind hx (s₂ := { s with heap := h'.push { cls := .type "range_iterator", data := .fields #[rawInt 0, rawInt n, rawInt 1] }, toks := tk })
    (by show IsRangeIter _ _ _ _ _; simpa using Heap.get?_push_size _ rfl) ?_ ⟨?_, ?_, ?_⟩ ?_)) (fun acc s₃ h₃ => wpAny_mono h₃.2 (fun cenv s₄ h₄ => codeAny_mono h₄ fun r s' hr => hr ?_) fun _ _ e => e) fun _ _ e => e
  · intro b hb
    rw [List.mem_singleton.mp hb]
    show h'.objs.size < (h'.push _).objs.size
    rw [Heap.size_push]; exact Nat.lt_succ_self _
  · intro C i v s₃ m₃ E' hP hn hm hk
    exact wpAny_pure ⟨rfl, _, _, rfl, fun _ _ e => e⟩
  · intro C i v s₃ m₃ E' hP _ hn hm hk
    obtain ⟨hi, t, rfl⟩ := hP
    have kp := up s₃.heap hk
    refine wpAny_mono (key C _ t s₃ E' m₃ (by omega) (by omega) hn hm (F.keeps kp) (N.grown kp)) (fun y s₄ h₄ => ?_) fun _ _ e => e
    obtain ⟨ty, tk', rfl, rfl⟩ := h₄
    exact ⟨⟨kf _, strKind_is _ _ _ _, _, ⟨t, rfl⟩, rfl⟩, _, _, rfl, fun _ _ e => e⟩
  · intro C i v s₃ m₃ E' hP _ hn hm hk
    obtain ⟨hi, t, rfl⟩ := hP
    have kp := up s₃.heap hk
    refine wpAny_mono (val C _ t s₃ E' m₃ (by omega) (by omega) hn hm (F.keeps kp) (N.grown kp)) (fun y s₄ h₄ => ?_) fun _ _ e => e
    obtain ⟨ty, tk', rfl, rfl⟩ := h₄
    exact ⟨⟨_, ⟨t, rfl⟩, .str _ _⟩, _, _, rfl, fun _ _ e => e⟩
  · intro D C h'' tk' m' kvs vs hD hC hDC hn' hlD hlen hP hF hk hacc
    cases hacc
    have kp : ∀ b o, h'.get? b = some o → h''.get? b = some o := up h'' hk
    have F2 : Fr h₀ env.locals h'' m := F.keeps kp
    show wpAny _ A (assign (.Name y py) env (.ref _)) _ _ _
    have hL₀ : h₀.get? env.locals = none := Heap.get?_none_of_le F.above
    have hCL : C ≠ env.locals := by
      rintro rfl
      obtain ⟨oL, _, _, hL', _⟩ := F.ns
      rw [Heap.get?_push_of_some _ hL'] at hC; cases hC
    refine wpAny_assign_Name (wpAny_storeName_local hy F2.ns (fun h₂ hn₂ hs₂ => ?_) hp)
    refine ⟨m', hn'.sameBut hs₂ hCL, fun h3 hs3 => ?_⟩
    have hD' : h'.objs.size + 1 ≠ env.locals := Nat.ne_of_gt (Nat.lt_succ_of_lt F.ns.lt)
    have kp3 : ∀ b o, b ≠ env.locals → h'.get? b = some o → h3.get? b = some o := fun b o hb e => hs3.extBut b o (by rintro rfl; rw [Heap.get?_push_of_some _ e] at hC; cases hC) (hs₂.extBut b o hb (kp b o e))
    obtain ⟨o, ho, hd⟩ := Heap.dictOf_iff.mp ((hlD.extBut hs₂.extBut hD').extBut hs3.extBut hDC)
    have hlt : ∀ p ∈ news, p.1 < h'.objs.size := fun p hp => Heap.lt_size (N p hp).1
    refine hQ _ o kvs h3 _ ⟨hn₂.sameBut hs3 (Ne.symm hCL), fun b o e => kp3 b o (by rintro rfl; rw [hL₀] at e; cases e) (F.keep b o e), F.above⟩ ?_ (allNeN_of fun p hp => Nat.ne_of_lt (Nat.lt_succ_of_lt (hlt p hp))) ?_ hd ?_
    · intro p hp
      rcases List.mem_cons.mp hp with rfl | hp
      · refine ⟨ho, hD', ?_⟩
        cases q : h₀.get? (h'.objs.size + 1) with
        | none => rfl
        | some o' => exact absurd (Heap.lt_size (F.keep _ _ q)) (Nat.not_lt.mpr (Nat.le_succ _))
      · exact ⟨kp3 _ _ (N p hp).2.1 (N p hp).1, (N p hp).2⟩
    · exact beq_eq_false_iff_ne.mpr (Nat.ne_of_gt (Nat.lt_succ_of_lt (Nat.lt_trans (modules_low hbig) (Nat.lt_of_le_of_lt F.above F.ns.lt))))
    · have e : vs.filter (fun _ => true) = vs := by simp
      rw [e] at hF
      exact storedAll_flat PyProof.V.same_str hF _ (areOf_range hlen fun j v e => (hP j v e).2)
  · rw [h₃.1]
    show Value.ref (h'.push _).objs.size = _
    rw [Heap.size_push]
theorem ld_ns {M : Model} {A : Around} {E : Value → Shared → Prop} {s : Shared} {scope : Scope} {cl : List (Str × Addr)} {C : Addr} {env : Env} {x : Str} {pos : Pos} {v : Value} {m₂ : Str → Option Value} {Q : Value → Shared → Prop} (hn : s.heap.Ns C m₂) (hx : m₂ x = some v) (h : Q v s)
    (hk : (compEnvC scope cl C env).scope.kind = .function := by rfl) (hl : (compEnvC scope cl C env).kindOf x = some .local := by rfl) (hd : (x == ("__debug__" : Str)) = false := by decide) :
    wpAny M A (eval (.Name x pos) (compEnvC scope cl C env)) Q E s := ldVarK hn hx h hk hl hd
theorem ld_cell {M : Model} {A : Around} {E : Value → Shared → Prop} {s : Shared} {h₀ : Heap} {L : Addr} {news : List (Addr × Obj)} {scope : Scope} {cl : List (Str × Addr)} {C c : Addr} {o : Obj} {env : Env} {x : Str} {pos : Pos} {v : Value} {Q : Value → Shared → Prop} (N : News h₀ L s.heap news)
    (hc : cl.lookup x = some c) (hm : (c, o) ∈ news) (hd : o.data = .cell (some v)) (h : Q v s)
    (hk : (compEnvC scope cl C env).scope.kind = .function := by rfl) (hx : (compEnvC scope cl C env).kindOf x = some .cell := by rfl) (hb : (x == ("__debug__" : Str)) = false := by decide) :
    wpAny M A (eval (.Name x pos) (compEnvC scope cl C env)) Q E s := wpAny_Name (wpAny_loadName_cell hk hx hc ⟨o, N.get hm, hd⟩ h) hb
end
def TEXTS : List Str := [Str.ofString "added words", Str.ofString "said x::", Str.ofString ":param x: added"]
def saidK (k : Int) : Str := pick NAMES k
def saidV (f k : Int) : Str := pick TEXTS (Int.fmod (f + k) 3)
def saidD (f : Int) : List (PyData × PyData) := [(.str (Str.ofString "a"), .str (saidV f 0)), (.str (Str.ofString "bb"), .str (saidV f 1)), (.str (Str.ofString "c_d"), .str (saidV f 2)), (.str (Str.ofString "e"), .str (saidV f 3))]
theorem saidD_eq (f : Int) : putAll PyData.str saidK (fun k => .str (saidV f k)) (rangeKs 0 4) = saidD f := by rfl
theorem saidD_len (f : Int) : (saidD f).length ≤ sizeLine := by
  rw [PySem.sizeLine_eq]
  exact Nat.le_of_ble_eq_true rfl
theorem said_a (f : Int) : lookup (.str (Str.ofString "a")) (saidD f) = some (.str (saidV f 0)) := by rfl
theorem said_bb (f : Int) : lookup (.str (Str.ofString "bb")) (saidD f) = some (.str (saidV f 1)) := by rfl
theorem said_c (f : Int) : lookup (.str (Str.ofString "c_d")) (saidD f) = some (.str (saidV f 2)) := by rfl
theorem said_e (f : Int) : lookup (.str (Str.ofString "e")) (saidD f) = some (.str (saidV f 3)) := by rfl
end Mine
end
section
open PySem PySem.W PySem.Calls PyProof.Rows PySem.Spec
namespace Mine
def ENDS : List Str := [Str.ofString "\n", Str.ofString "\r\n", Str.ofString "\x0b", Str.ofString "\x0c", Str.ofString "\x1c", Str.ofString "\u0085", Str.ofString "\u2028"]
theorem carried_strs : ∀ {gs : List Str} {ys : List Value}, CarriedAll ys (gs.map PyData.str) → StrsAre ys gs
  | [], _, .nil => .nil
  | g :: r, _, .cons h1 h2 => by
    cases h1
    exact .cons _ _ (carried_strs h2)
theorem item_lines {prog : Program} {w : World} {A : Around} {E : Value → Shared → Prop} {s : Shared} {base : Heap} {L : Addr} {news : List (Addr × Obj)} {value slice : PySem.Expr} {l : Addr} {vl : List Value} {e : Nat} {ws : List Str} {i : Int} {u : Tok} {Q : Value → Shared → Prop} (B : Nat)
    (N : News base L s.heap news) (hl : (l, W.listOf vl.toArray e) ∈ news) (hw : StrsAre vl ws) (hB : ∀ x ∈ ws, x.length ≤ B) (h0 : 0 ≤ i) (h1 : i < (vl.length : Int)) (hz : vl.length ≤ 1000)
    (h : ∀ t', (pick ws i).length ≤ B → Q (.str (pick ws i) t') s)
    (hs : subscripted slice false (.ref l) (.int i u) = operate [.ref l, .int i u] (getItem (.ref l) (.int i u)) := by with_unfolding_all rfl) :
    wpAny (model prog w) A (subscriptTail value slice (.ref l) (.int i u)) Q E s := by
  rw [hw.len_eq] at h1 hz
  exact KTb.item_list (N.isList hl) hw h0 h1 (by omega) (fun t' hlt => h t' (by
    unfold pick
    rw [List.getD_eq_getElem?_getD, List.getElem?_eq_getElem hlt]
    exact hB _ (List.getElem_mem hlt))) hs
theorem len_N {prog : Program} {w : World} {A : Around} {E : Value → Shared → Prop} {s : Shared} {base : Heap} {L : Addr} {news : List (Addr × Obj)} {l : Addr} {vl : List Value} {e : Nat} {Q : Value → Shared → Prop}
    (N : News base L s.heap news) (hl : (l, W.listOf vl.toArray e) ∈ news) (hz : vl.length ≤ 1000) (hq : ∀ t tk, Q (.int (vl.length : Int) t) { s with toks := tk }) : wpAny (model prog w) A (call (.builtin "len") [.ref l]) Q E s :=
  len_list (N.isList hl) (by rw [List.size_toArray]; omega) (by rw [List.size_toArray]; exact hq _ _)
/-- the law's document -/
def docLine (lns : List Str) (turn step k : Int) : Str := pick lns k ++ pick ENDS (Int.fmod (turn + k * step) 7)
def docS (lns : List Str) (turn step : Int) : Str := Txt.join (Str.ofString "") ((rangeKs 0 lns.length).map (docLine lns turn step))
theorem out_small {D} {bs : List Block} (h : ∀ b ∈ bs, BlockOk b) (hD : DOk D) : ∀ x ∈ outS D bs ++ [END], x.length ≤ 60 := by
  intro x hx
  rcases List.mem_append.mp hx with hx | hx
  · unfold outS at hx
    obtain ⟨b, hb, hx⟩ := List.mem_flatMap.mp hx
    have hk := h b hb
    unfold outB at hx
    rcases List.mem_append.mp hx with hx | hx
    · exact Nat.le_trans (hk.len x hx) (by decide)
    · cases hn : b.name with
      | none => rw [hn] at hx; cases hx
      | some nm =>
        rw [hn] at hx
        have hb0 := hk.blank
        rcases List.mem_cons.mp hx with rfl | hx
        · omega
        cases hl : lookup (.str nm) D with
        | none => rw [hl] at hx; cases hx
        | some y =>
          obtain ⟨t, rfl, ht⟩ := hD.str _ _ hl
          rw [hl] at hx
          have hw0 := hk.w0
          have hw1 := hk.w1
          have hmul := len_mul_k1 (x := Str.ofString " ") (n := b.width) (by decide)
          rw [if_neg (by omega)] at hmul
          rcases List.mem_cons.mp hx with rfl | hx
          · rw [Str.length_append]; omega
          rcases List.mem_cons.mp hx with rfl | hx
          · decide
          rcases List.mem_cons.mp hx with rfl | hx
          · decide
          rcases List.mem_cons.mp hx with rfl | hx
          · omega
          cases hx
  · rw [List.mem_singleton.mp hx]; decide
theorem sum_le (B : Nat) : ∀ {l : List Str}, (∀ x ∈ l, x.length ≤ B) → (l.map (·.length)).sum ≤ B * l.length
  | [], _ => Nat.zero_le _
  | x :: r, h => by
    have h1 := h x (.head _)
    have h2 := sum_le B fun y hy => h y (.tail _ hy)
    rw [List.map_cons, List.sum_cons, List.length_cons, Nat.mul_succ]
    omega
theorem join_N {prog : Program} {w : World} {A : Around} {E : Value → Shared → Prop} {s : Shared} {base : Heap} {L : Addr} {news : List (Addr × Obj)} {l : Addr} {arr : Array Value} {e : Nat} {ws : List Str} {x : Str} {t : Tok} {Q : Value → Shared → Prop}
    (N : News base L s.heap news) (hl : (l, W.listOf arr e) ∈ news) (hw : StrsAre arr.toList ws) (hsep : x.length ≤ 64) (hB : ∀ y ∈ ws, y.length ≤ 100) (hL : ws.length ≤ 1000)
    (hq : ∀ t' k, Q (.str (Txt.join x ws) t') { s with toks := k }) : wpAny (model prog w) A (call (.builtin "str.join") [.str x t, .ref l]) Q E s :=
  join_listC (N.isList hl) hw hsep (by have := sum_le 100 hB; omega) hq
theorem ne_same {prog : Program} {w : World} {A : Around} {E : Value → Shared → Prop} {s : Shared} {x y : Str} {t u : Tok} {Q : Value → Shared → Prop} (e : x = y) (h : Q (.bool false) s) : wpAny (model prog w) A (compareOp .NotEq (.str x t) (.str y u)) Q E s := by
  subst e
  refine PyProof.Rows.ne_str ?_
  rw [show (x != x) = false from by simp]
  exact h
theorem eq_same {prog : Program} {w : World} {A : Around} {E : Value → Shared → Prop} {s : Shared} {x y : Str} {t u : Tok} {Q : Value → Shared → Prop} (e : x = y) (h : Q (.bool true) s) : wpAny (model prog w) A (compareOp .Eq (.str x t) (.str y u)) Q E s := by
  subst e
  refine PyProof.Rows.eq_str ?_
  rw [show (x == x) = true from by simp]
  exact h
def leftD (f : Int) : List (PyData × PyData) := [(.str (Str.ofString "a"), .str (saidV f 0)), (.str (Str.ofString "bb"), .str (saidV f 1))]
def rightD (f : Int) : List (PyData × PyData) := [(.str (Str.ofString "c_d"), .str (saidV f 2)), (.str (Str.ofString "e"), .str (saidV f 3))]
def noD : List (PyData × PyData) := [(.str (Str.ofString "y"), .str (Str.ofString "no"))]
theorem item_tabN {prog : Program} {w : World} {A : Around} {E : Value → Shared → Prop} {s : Shared} {d : Addr} {x y : Str} {t : Tok} {D : List (PyData × PyData)} {value slice : PySem.Expr} {Q : Value → Shared → Prop} (T : StrTab prog w s.heap d D) (hl : lookup (.str x) D = some (.str y))
    (hq : ∀ t tk, Q (.str y t) { s with toks := tk }) 
    (hs : subscripted slice false (.ref d) (.str x t) = operate [.ref d, .str x t] (getItem (.ref d) (.str x t)) := by with_unfolding_all rfl) (hg : ∀ r, letTemporaryGo value (.ref d) r = pure () := by intro _; with_unfolding_all rfl) :
    wpAny (model prog w) A (subscriptTail value slice (.ref d) (.str x t)) Q E s := by
  refine item_strTab T hl (fun v hv => ?_) hs hg
  cases hv s.heap
  exact hq _ _
structure InjFact (D : List (PyData × PyData)) (doc : Str) (final : List Str) : Prop where
  hD : ∀ x y, lookup (.str x) D = some (.str y) → y.length ≤ 10000
  hl : doc.length ≤ 10000
  hn : (Txt.lines doc).length ≤ 10000
  ho : ∃ fin, injO D (Txt.lines doc) none = some fin ∧ (fin.map (·.length)).sum + fin.length * 64 ≤ 16777216 ∧ Txt.join NL fin = Txt.join NL final
theorem inj_N {w mean mg mb} {A : Around} {E : Value → Shared → Prop} {s : Shared} {base : Heap} {L : Addr} {m : Str → Option Value} {news : List (Addr × Obj)} {doc : Str} {td : Tok} {pd : Addr} {D : List (PyData × PyData)} {final : List Str} {Q : Value → Shared → Prop}
   (M : Mod w mean mg mb base) (F : Fr base L s.heap m) (N : News base L s.heap news) (hh : A.handled = none)
   (hd : A.depth + 10 < recursionLimit) (hu : A.units + 100 < cLine) (HT : StrTab PR w s.heap pd D) (I : InjFact D doc final)
   (hq : ∀ t h' tk', Fr base L h' m → News base L h' news → Q (.str (Txt.join NL final) t) { s with heap := h', toks := tk' }) :
   wpAny (model PR w) A (call (.ref 54) [.str doc td, .ref pd]) Q E s := by
  obtain ⟨fin, ho, hw, he⟩ := I.ho
  refine pret_N F N (inj_spec (M.keeps F.keep) hh hd hu HT I.hD I.hl I.hn ho hw) fun v h' tk' F' N' k' hp => ?_
  obtain ⟨t, rfl⟩ := hp
  rw [he]
  exact hq t h' tk' F' N'
theorem docLine_small {lns : List Str} {turn step k : Int} (h : ∀ x ∈ lns, x.length ≤ 60) : (docLine lns turn step k).length ≤ 100 := by
  unfold docLine
  rw [Str.length_append]
  have h1 : (pick lns k).length ≤ 60 := by
    unfold pick
    rw [List.getD_eq_getElem?_getD]
    cases e : lns[k.toNat]? with
    | none => exact Nat.zero_le _
    | some x => exact h x (List.mem_of_getElem? e)
  have h2 : ∀ i, (pick ENDS i).length ≤ 2 := by
    intro i
    unfold pick
    rw [List.getD_eq_getElem?_getD]
    cases e : ENDS[i.toNat]? with
    | none => exact Nat.zero_le _
    | some x =>
      have hm := List.mem_of_getElem? e
      have : ∀ x ∈ ENDS, x.length ≤ 2 := by decide +kernel
      exact this x hm
  have := h2 (Int.fmod (turn + k * step) 7)
  omega
end Mine
end
section
open PySem PySem.W PySem.Calls PyProof.Rows PySem.Spec
namespace Mine
open PySem.StrLaws PySem.Builtin PySem.Builtin.Str
def NoBr (l : List Nat) : Prop := ∀ c ∈ l, Unicode.isLineBreak c = false
def isEnd (e : List Nat) : Prop := ∃ c, Unicode.isLineBreak c = true ∧ ((c ≠ 13 ∧ e = [c]) ∨ (c = 13 ∧ e = [13, 10]))
def flat : List (Str × Str) → List Nat
  | [] => []
  | (l, e) :: r => l.cps.toList ++ (e.cps.toList ++ flat r)
def spansFrom (p : Nat) : List (Str × Str) → List (Nat × Nat × Nat)
  | [] => []
  | (l, e) :: r => (p, p + l.length, p + l.length + e.length) :: spansFrom (p + l.length + e.length) r
theorem getD_toList (s : Str) (i : Nat) : s.cps.getD i 0 = s.cps.toList.getD i 0 := by
  simp [Array.getD_eq_getD_getElem?, List.getD_eq_getElem?_getD]
theorem run_none (s : Str) (arr : Array (Nat × Nat × Nat)) (p : Nat) : ∀ (m q : Nat), (∀ i, q ≤ i → i < q + m → Unicode.isLineBreak (s.cps.getD i 0) = false) →
    Id.run (forIn (m := Id) (List.range' q m) ((arr, p) : LsSt) (lsBody s)) = (arr, p)
  | 0, _, _ => rfl
  | m + 1, q, h => by
    rw [List.range'_succ, List.forIn_cons]
    have e : lsBody s q (arr, p) = pure (ForInStep.yield (arr, p)) := by
      unfold lsBody
      rw [h q (Nat.le_refl _) (by omega), Bool.and_false]
      rfl
    rw [e]
    exact run_none s arr p m (q + 1) fun i h1 h2 => h i (by omega) (by omega)
theorem forIn_app (f : Nat → LsSt → Id (ForInStep LsSt)) (hf : ∀ i st, ∃ st', f i st = pure (ForInStep.yield st')) : ∀ (a b : List Nat) (st : LsSt),
    Id.run (forIn (m := Id) (a ++ b) st f) = Id.run (forIn (m := Id) b (Id.run (forIn (m := Id) a st f)) f)
  | [], _, _ => rfl
  | x :: a, b, st => by
    obtain ⟨st', e⟩ := hf x st
    rw [List.cons_append, List.forIn_cons, List.forIn_cons, e]
    exact forIn_app f hf a b st'
theorem lsBody_yield (s : Str) (i : Nat) (st : LsSt) : ∃ st', lsBody s i st = pure (ForInStep.yield st') := by
  unfold lsBody
  split <;> exact ⟨_, rfl⟩
theorem run_end (s : Str) (arr : Array (Nat × Nat × Nat)) (p n : Nat) (e : List Nat) (he : isEnd e) (hg : ∀ j, j < e.length → s.cps.toList[p + n + j]? = e[j]?) :
    Id.run (forIn (m := Id) (List.range' (p + n) e.length) ((arr, p) : LsSt) (lsBody s)) = (arr.push (p, p + n, p + n + e.length), p + n + e.length) := by
  obtain ⟨c, hc, ⟨hne, rfl⟩ | ⟨rfl, rfl⟩⟩ := he
  · have g0 := hg 0 (by simp)
    have gc : s.cps.getD (p + n) 0 = c := by rw [getD_toList, List.getD_eq_getElem?_getD]; rw [Nat.add_zero] at g0; rw [g0]; rfl
    show Id.run (forIn (m := Id) (List.range' (p + n) 1) ((arr, p) : LsSt) (lsBody s)) = _
    rw [show List.range' (p + n) 1 = [p + n] from rfl, List.forIn_cons]
    unfold lsBody lsNext
    rw [gc, hc]
    have h13 : (c == 13) = false := by simpa using hne
    simp [h13]
  · have g0 := hg 0 (by simp)
    have g1 := hg 1 (by simp)
    have gc : s.cps.getD (p + n) 0 = 13 := by rw [getD_toList, List.getD_eq_getElem?_getD]; rw [Nat.add_zero] at g0; rw [g0]; rfl
    have gd : s.cps[p + n + 1]? = some 10 := by
      have : s.cps.toList[p + n + 1]? = some 10 := g1
      simpa using this
    show Id.run (forIn (m := Id) (List.range' (p + n) 2) ((arr, p) : LsSt) (lsBody s)) = _
    have e1 : lsBody s (p + n) (arr, p) = pure (ForInStep.yield (arr.push (p, p + n, p + n + 2), p + n + 2)) := by
      unfold lsBody lsNext
      rw [gc, gd, hc]
      simp
    have e2 : lsBody s (p + n + 1) (arr.push (p, p + n, p + n + 2), p + n + 2) = pure (ForInStep.yield (arr.push (p, p + n, p + n + 2), p + n + 2)) := by
      unfold lsBody
      rw [show decide ((arr.push (p, p + n, p + n + 2), p + n + 2).snd ≤ p + n + 1) = false from decide_eq_false (by show ¬ p + n + 2 ≤ p + n + 1; omega), Bool.false_and]
      rfl
    rw [show List.range' (p + n) 2 = [p + n, p + n + 1] from rfl, List.forIn_cons, e1]
    show Id.run (forIn (m := Id) [p + n + 1] ((arr.push (p, p + n, p + n + 2), p + n + 2) : LsSt) (lsBody s)) = _
    rw [List.forIn_cons, e2]
    rfl
theorem drop_get {l a r : List Nat} {p : Nat} (h : l.drop p = a ++ r) : ∀ j, j < a.length → l[p + j]? = a[j]? := by
  intro j hj
  rw [← List.getElem?_drop, h, List.getElem?_append_left hj]
theorem drop_rest {l a r : List Nat} {p : Nat} (h : l.drop p = a ++ r) : l.drop (p + a.length) = r := by
  rw [← List.drop_drop, h, List.drop_left]
theorem run_flat (s : Str) : ∀ (segs : List (Str × Str)) (arr : Array (Nat × Nat × Nat)) (p : Nat) (tail : List Nat), (∀ q ∈ segs, NoBr q.1.cps.toList ∧ isEnd q.2.cps.toList) → s.cps.toList.drop p = flat segs ++ tail →
    Id.run (forIn (m := Id) (List.range' p (flat segs).length) ((arr, p) : LsSt) (lsBody s)) = (arr ++ (spansFrom p segs).toArray, p + (flat segs).length)
  | [], arr, p, _, _, _ => by
    show ((arr, p) : LsSt) = (arr ++ #[], p + 0)
    rw [Array.append_empty]
    rfl
  | (l, e) :: r, arr, p, tail, hs, hd => by
    obtain ⟨h1, h2⟩ := hs (l, e) (.head _)
    have hl : l.cps.toList.length = l.length := Array.length_toList
    have hel : e.cps.toList.length = e.length := Array.length_toList
    have hd1 : s.cps.toList.drop p = l.cps.toList ++ (e.cps.toList ++ (flat r ++ tail)) := by
      rw [hd]; simp [flat]
    have hd2 := drop_rest hd1
    have hd3 := drop_rest hd2
    rw [hl] at hd2 hd3
    rw [hel] at hd3
    have len : (flat ((l, e) :: r)).length = l.length + (e.length + (flat r).length) := by simp [flat, hl, hel]
    rw [len]
    rw [show List.range' p (l.length + (e.length + (flat r).length)) = List.range' p l.length ++ (List.range' (p + l.length) e.length ++ List.range' (p + l.length + e.length) (flat r).length) from by
      rw [← List.range'_append_1, ← List.range'_append_1]]
    rw [forIn_app _ (lsBody_yield s), forIn_app _ (lsBody_yield s)]
    rw [run_none s arr p l.length p fun i hi1 hi2 => ?_]
    · have he := run_end s arr p l.length e.cps.toList h2 fun j hj => drop_get hd2 j hj
      rw [hel] at he
      rw [he, run_flat s r _ _ tail (fun q hq => hs q (.tail _ hq)) hd3]
      have ea : arr.push (p, p + l.length, p + l.length + e.length) ++ (spansFrom (p + l.length + e.length) r).toArray = arr ++ (spansFrom p ((l, e) :: r)).toArray := by
        apply Array.ext'
        simp [spansFrom]
      rw [ea]
      congr 1
      omega
    · rw [getD_toList, List.getD_eq_getElem?_getD]
      have := drop_get hd1 (i - p) (by rw [hl]; omega)
      rw [show p + (i - p) = i by omega] at this
      rw [this]
      have hlt : i - p < l.cps.toList.length := by rw [hl]; omega
      rw [List.getElem?_eq_getElem hlt]
      exact h1 _ (List.getElem_mem hlt)
theorem strSub_eq {s x : Str} {p : Nat} {r : List Nat} (h : s.cps.toList.drop p = x.cps.toList ++ r) : strSub s p (p + x.length) = x := by
  have hl : x.cps.toList.length = x.length := Array.length_toList
  unfold strSub
  have e : s.cps.extract p (p + x.length) = x.cps := by
    apply Array.ext'
    rw [Array.toList_extract, List.extract_eq_drop_take, h, show p + x.length - p = x.cps.toList.length by omega, List.take_left]
  rw [e]
theorem subs_flat (s : Str) : ∀ (segs : List (Str × Str)) (p : Nat) (tail : List Nat), s.cps.toList.drop p = flat segs ++ tail → (spansFrom p segs).map (fun q => strSub s q.1 q.2.1) = segs.map (·.1)
  | [], _, _, _ => rfl
  | (l, e) :: r, p, tail, hd => by
    have hl : l.cps.toList.length = l.length := Array.length_toList
    have hel : e.cps.toList.length = e.length := Array.length_toList
    have hd1 : s.cps.toList.drop p = l.cps.toList ++ (e.cps.toList ++ (flat r ++ tail)) := by
      rw [hd]; simp [flat]
    have hd2 := drop_rest hd1
    have hd3 := drop_rest hd2
    rw [hl] at hd2 hd3
    rw [hel] at hd3
    show strSub s p (p + l.length) :: (spansFrom (p + l.length + e.length) r).map _ = l :: r.map _
    rw [strSub_eq hd1, subs_flat s r _ tail hd3]
theorem lines_flat {s : Str} {segs : List (Str × Str)} {last : Str} (hs : ∀ q ∈ segs, NoBr q.1.cps.toList ∧ isEnd q.2.cps.toList) (hn : NoBr last.cps.toList) (h : s.cps.toList = flat segs ++ last.cps.toList) :
    Txt.lines s = segs.map (·.1) ++ (if last.length = 0 then [] else [last]) := by
  have hlast : last.cps.toList.length = last.length := Array.length_toList
  have hlen : s.length = (flat segs).length + last.length := by
    have : s.cps.toList.length = s.length := Array.length_toList
    rw [← this, h, List.length_append, hlast]
  have h0 : s.cps.toList.drop 0 = flat segs ++ last.cps.toList := by rw [List.drop_zero]; exact h
  have h1 : s.cps.toList.drop (flat segs).length = last.cps.toList ++ [] := by rw [h, List.drop_left, List.append_nil]
  have key : linesOf s = segs.map (·.1) ++ (if last.length = 0 then [] else [last]) := by
    unfold linesOf lineCuts
    rw [List.map_map, ls_eq, hlen]
    rw [show List.range' 0 ((flat segs).length + last.length) = List.range' 0 (flat segs).length ++ List.range' (0 + (flat segs).length) last.length from by rw [List.range'_append_1]]
    rw [forIn_app _ (lsBody_yield s), run_flat s segs #[] 0 last.cps.toList hs h0, Nat.zero_add, run_none s _ _ last.length _ fun i hi1 hi2 => ?_]
    · unfold lsEnd
      rw [hlen]
      dsimp only
      by_cases hz : last.length = 0
      · rw [if_neg (by omega), if_pos hz, List.append_nil]
        have := subs_flat s segs 0 last.cps.toList h0
        rw [← this]
        simp
      · rw [if_pos (by omega), if_neg hz]
        have := subs_flat s segs 0 last.cps.toList h0
        rw [← this, Array.toList_push, List.map_append]
        have e2 := strSub_eq h1
        simp
        exact e2
    · rw [getD_toList, List.getD_eq_getElem?_getD]
      have := drop_get h1 (i - (flat segs).length) (by rw [hlast]; omega)
      rw [show (flat segs).length + (i - (flat segs).length) = i by omega] at this
      rw [this]
      have hlt : i - (flat segs).length < last.cps.toList.length := by rw [hlast]; omega
      rw [List.getElem?_eq_getElem hlt]
      exact hn _ (List.getElem_mem hlt)
  unfold Txt.lines
  split
  · rename_i hc
    rw [← key]
    unfold linesOf
    rw [eq_of_beq hc]
    have e : strSub s 0 (0 + s.length) = s := strSub_eq (r := []) (by rw [List.drop_zero, List.append_nil])
    rw [Nat.zero_add] at e
    show [s] = [strSub s 0 s.length]
    rw [e]
  · exact key
end Mine
end
section
open PySem PySem.W PySem.Calls PyProof.Rows PySem.Spec
namespace Mine
open PySem.StrLaws PySem.Builtin PySem.Builtin.Str
theorem join_eq (sep : Str) (l : List Str) : Txt.join sep l = Str.join sep l := glued_eq_join sep l
theorem app_cps (x y : Str) : (x ++ y).cps.toList = x.cps.toList ++ y.cps.toList := by
  show (x.cps ++ y.cps).toList = _
  rw [Array.toList_append]
theorem join_empty_cps : ∀ gs : List Str, (Str.join (Str.ofString "") gs).cps.toList = gs.flatMap (·.cps.toList)
  | [] => rfl
  | [x] => by simp [Str.join]
  | x :: y :: r => by
    have ih := join_empty_cps (y :: r)
    have e : (Str.ofString "").cps.toList = [] := by decide
    show (x ++ Str.ofString "" ++ Str.join (Str.ofString "") (y :: r)).cps.toList = _
    rw [app_cps, app_cps, ih, e, List.append_nil]
    rfl
theorem join_nl_cps (last : Str) : ∀ l : List Str, (Str.join NL (l ++ [last])).cps.toList = flat (l.map fun x => (x, NL)) ++ last.cps.toList
  | [] => rfl
  | x :: r => by
    have ih := join_nl_cps last r
    cases hr : r ++ [last] with
    | nil => simp at hr
    | cons y r' =>
      rw [hr] at ih
      rw [List.cons_append, hr]
      show (x ++ NL ++ Str.join NL (y :: r')).cps.toList = x.cps.toList ++ (NL.cps.toList ++ flat (r.map fun x => (x, NL))) ++ last.cps.toList
      rw [app_cps, app_cps, ih]
      simp
theorem flat_map (f g : Int → Str) : ∀ ks : List Int, (ks.map fun k => f k ++ g k).flatMap (·.cps.toList) = flat (ks.map fun k => (f k, g k))
  | [] => rfl
  | k :: r => by
    rw [List.map_cons, List.flatMap_cons, flat_map f g r, app_cps]
    simp [flat]
theorem nl_end : isEnd NL.cps.toList := ⟨10, by decide, .inl ⟨by decide, by decide⟩⟩
theorem ends_end : ∀ i : Int, 0 ≤ i → i < 7 → isEnd (pick ENDS i).cps.toList := by
  intro i h0 h1
  have h : i = 0 ∨ i = 1 ∨ i = 2 ∨ i = 3 ∨ i = 4 ∨ i = 5 ∨ i = 6 := by omega
  rcases h with rfl | rfl | rfl | rfl | rfl | rfl | rfl
  · exact ⟨10, by decide, .inl ⟨by decide, by decide⟩⟩
  · exact ⟨13, by decide, .inr ⟨by decide, by decide⟩⟩
  · exact ⟨11, by decide, .inl ⟨by decide, by decide⟩⟩
  · exact ⟨12, by decide, .inl ⟨by decide, by decide⟩⟩
  · exact ⟨28, by decide, .inl ⟨by decide, by decide⟩⟩
  · exact ⟨133, by decide, .inl ⟨by decide, by decide⟩⟩
  · exact ⟨8232, by decide, .inl ⟨by decide, by decide⟩⟩
theorem pick_all (l : List Str) : (rangeKs 0 l.length).map (pick l) = l := by
  unfold rangeKs
  rw [List.map_map]
  apply List.ext_getElem
  · simp
  · intro i h1 h2
    simp [pick, List.getD_eq_getElem?_getD, List.getElem?_eq_getElem h2]
theorem pick_mem {l : List Str} {i : Int} (h0 : 0 ≤ i) (h1 : i < l.length) : pick l i ∈ l := by
  unfold pick
  rw [List.getD_eq_getElem?_getD, List.getElem?_eq_getElem (by omega)]
  exact List.getElem_mem (by omega)
theorem doc_lines {lns : List Str} (h : ∀ x ∈ lns, NoBr x.cps.toList) (turn step : Int) : Txt.lines (docS lns turn step) = lns := by
  have e : (docS lns turn step).cps.toList = flat ((rangeKs 0 lns.length).map fun k => (pick lns k, pick ENDS (Int.fmod (turn + k * step) 7))) ++ Str.empty.cps.toList := by
    unfold docS
    rw [join_eq, join_empty_cps]
    have := flat_map (pick lns) (fun k => pick ENDS (Int.fmod (turn + k * step) 7)) (rangeKs 0 lns.length)
    rw [show Str.empty.cps.toList = [] from rfl, List.append_nil, ← this]
    rfl
  have := lines_flat (s := docS lns turn step) (last := Str.empty) (fun q hq => by
    obtain ⟨k, hk, rfl⟩ := List.mem_map.mp hq
    have := mem_rangeKs hk
    refine ⟨h _ (pick_mem this.1 (by omega)), ends_end _ (Int.fmod_nonneg_of_pos _ (by decide)) (Int.fmod_lt_of_pos _ (by decide))⟩) (fun c hc => nomatch hc) e
  rw [this, if_pos (by decide), List.append_nil, List.map_map]
  exact pick_all lns
theorem join_lines {l : List Str} {last : Str} (h : ∀ x ∈ l, NoBr x.cps.toList) (hl : NoBr last.cps.toList) (h0 : last.length ≠ 0) : Txt.lines (Txt.join NL (l ++ [last])) = l ++ [last] := by
  have := lines_flat (s := Txt.join NL (l ++ [last])) (last := last) (segs := l.map fun x => (x, NL)) (fun q hq => by
    obtain ⟨x, hx, rfl⟩ := List.mem_map.mp hq
    exact ⟨h x hx, nl_end⟩) hl (by rw [join_eq]; exact join_nl_cps last l)
  rw [this, if_neg h0, List.map_map]
  congr 1
  exact List.map_id'' (fun _ => rfl) l
theorem flat_len (B : Nat) : ∀ segs : List (Str × Str), (∀ q ∈ segs, q.1.length + q.2.length ≤ B) → (flat segs).length ≤ B * segs.length
  | [], _ => Nat.zero_le _
  | (l, e) :: r, h => by
    have h1 := h (l, e) (.head _)
    have h2 := flat_len B r fun q hq => h q (.tail _ hq)
    have hl : l.cps.toList.length = l.length := Array.length_toList
    have hel : e.cps.toList.length = e.length := Array.length_toList
    simp only [flat, List.length_append, List.length_cons, Nat.mul_succ, hl, hel]
    dsimp only at h1
    omega
theorem join_len (B : Nat) (l : List Str) (last : Str) (h : ∀ x ∈ l, x.length + 1 ≤ B) : (Txt.join NL (l ++ [last])).length ≤ B * l.length + last.length := by
  have e : (Txt.join NL (l ++ [last])).length = (Txt.join NL (l ++ [last])).cps.toList.length := Array.length_toList.symm
  rw [e, join_eq, join_nl_cps, List.length_append]
  have := flat_len B (l.map fun x => (x, NL)) (fun q hq => by
    obtain ⟨x, hx, rfl⟩ := List.mem_map.mp hq
    exact h x hx)
  rw [List.length_map] at this
  have hl : last.cps.toList.length = last.length := Array.length_toList
  omega
theorem doc_len {lns : List Str} (B : Nat) (h : ∀ x ∈ lns, x.length ≤ B) (turn step : Int) : (docS lns turn step).length ≤ (B + 2) * lns.length := by
  have e : (docS lns turn step).length = (docS lns turn step).cps.toList.length := Array.length_toList.symm
  rw [e]
  unfold docS
  rw [join_eq, join_empty_cps]
  have e2 := flat_map (pick lns) (fun k => pick ENDS (Int.fmod (turn + k * step) 7)) (rangeKs 0 lns.length)
  have e3 : ((rangeKs 0 lns.length).map (docLine lns turn step)).flatMap (·.cps.toList) = flat ((rangeKs 0 lns.length).map fun k => (pick lns k, pick ENDS (Int.fmod (turn + k * step) 7))) := e2
  rw [e3]
  have hE : ∀ x ∈ ENDS, x.length ≤ 2 := by decide +kernel
  have := flat_len (B + 2) ((rangeKs 0 lns.length).map fun k => (pick lns k, pick ENDS (Int.fmod (turn + k * step) 7))) (fun q hq => by
    obtain ⟨k, hk, rfl⟩ := List.mem_map.mp hq
    have hk := mem_rangeKs hk
    have h1 := h _ (pick_mem hk.1 (by omega))
    have h2 := hE _ (pick_mem (l := ENDS) (Int.fmod_nonneg_of_pos (turn + k * step) (b := 7) (by decide)) (Int.fmod_lt_of_pos _ (by decide)))
    show (pick lns k).length + (pick ENDS (Int.fmod (turn + k * step) 7)).length ≤ B + 2
    omega)
  rw [List.length_map, rangeKs_length] at this
  exact this
end Mine
end
section
open PySem PySem.W PySem.Calls PyProof.Rows PySem.Spec
namespace Mine
def HEAD (nm o st r : Str) : Str := o ++ Str.ofString ":param " ++ st ++ nm ++ Str.ofString ":" ++ r
theorem heads_a : ∀ o ∈ INDENTS, ∀ st ∈ STARS, ∀ r ∈ RESTS, PM (HEAD (Str.ofString "a") o st r) = some (some (o, st ++ Str.ofString "a")) := by decide +kernel
theorem heads_b : ∀ o ∈ INDENTS, ∀ st ∈ STARS, ∀ r ∈ RESTS, PM (HEAD (Str.ofString "bb") o st r) = some (some (o, st ++ Str.ofString "bb")) := by decide +kernel
theorem heads_c : ∀ o ∈ INDENTS, ∀ st ∈ STARS, ∀ r ∈ RESTS, PM (HEAD (Str.ofString "c_d") o st r) = some (some (o, st ++ Str.ofString "c_d")) := by decide +kernel
theorem heads_e : ∀ o ∈ INDENTS, ∀ st ∈ STARS, ∀ r ∈ RESTS, PM (HEAD (Str.ofString "e") o st r) = some (some (o, st ++ Str.ofString "e")) := by decide +kernel
theorem heads_z : ∀ o ∈ INDENTS, ∀ st ∈ STARS, ∀ r ∈ RESTS, PM (HEAD (Str.ofString "zz") o st r) = some (some (o, st ++ Str.ofString "zz")) := by decide +kernel
theorem head_pm {nm o st r : Str} (hn : nm ∈ NAMES) (ho : o ∈ INDENTS) (hs : st ∈ STARS) (hr : r ∈ RESTS) : PM (HEAD nm o st r) = some (some (o, st ++ nm)) := by
  unfold NAMES at hn
  rcases List.mem_cons.mp hn with rfl | hn
  · exact heads_a o ho st hs r hr
  rcases List.mem_cons.mp hn with rfl | hn
  · exact heads_b o ho st hs r hr
  rcases List.mem_cons.mp hn with rfl | hn
  · exact heads_c o ho st hs r hr
  rcases List.mem_cons.mp hn with rfl | hn
  · exact heads_e o ho st hs r hr
  rcases List.mem_cons.mp hn with rfl | hn
  · exact heads_z o ho st hs r hr
  cases hn
theorem star_name : ∀ nm ∈ NAMES, ∀ st ∈ STARS, star (st ++ nm) = nm := by decide +kernel
theorem star_x : star (Str.ofString "x") = Str.ofString "x" := by decide +kernel
theorem star_a1 : star (Str.ofString "a=1") = Str.ofString "a=1" := by decide +kernel
theorem plain_pm : ∀ x ∈ PLAIN, PM x = some none ∨ PM x = some (some (Str.ofString " ", Str.ofString "a=1")) := by decide +kernel
def Calm (x : Str) : Prop := PM x = some none ∧ (Txt.rstrip x).length ≠ 0 ∧ Txt.endswith x (Str.ofString "::") = false
theorem more_calm : ∀ i ∈ INDENTS, PM (i ++ Str.ofString "more words") = some none ∧ (Txt.rstrip (i ++ Str.ofString "more words")).length ≠ 0 ∧ Txt.endswith (i ++ Str.ofString "more words") (Str.ofString "::") = false := by decide +kernel
theorem edge_calm : PM (Str.ofString "at the edge") = some none ∧ (Txt.rstrip (Str.ofString "at the edge")).length ≠ 0 ∧ Txt.endswith (Str.ofString "at the edge") (Str.ofString "::") = false := by decide +kernel
theorem code_calm : ∀ i ∈ INDENTS, PM (i ++ Str.ofString "  code()") = some none ∧ (Txt.rstrip (i ++ Str.ofString "  code()")).length ≠ 0 ∧ Txt.endswith (i ++ Str.ofString "  code()") (Str.ofString "::") = false := by decide +kernel
theorem mor2_calm : ∀ i ∈ INDENTS, PM (i ++ Str.ofString "  more()") = some none ∧ (Txt.rstrip (i ++ Str.ofString "  more()")).length ≠ 0 ∧ Txt.endswith (i ++ Str.ofString "  more()") (Str.ofString "::") = false := by decide +kernel
theorem eg_pm : ∀ i ∈ INDENTS, PM (i ++ Str.ofString "e.g.::") = some none ∧ (Txt.rstrip (i ++ Str.ofString "e.g.::")).length ≠ 0 ∧ Txt.endswith (i ++ Str.ofString "e.g.::") (Str.ofString "::") = true := by decide +kernel
theorem code_pm : ∀ i ∈ INDENTS, PM (i ++ Str.ofString ":param x: code") = some (some (i, Str.ofString "x")) := by decide +kernel
theorem blank_pm : ∀ b ∈ BLANKS, PM b = some none ∧ (Txt.rstrip b).length = 0 ∧ TW b = some none := by decide +kernel
theorem void_pm : PM (Str.ofString "") = some none := by decide +kernel
theorem end_pm : PM END = some none := by decide +kernel
theorem more_tw : ∀ i ∈ INDENTS, TW (i ++ Str.ofString "more words") = some (some i) := by decide +kernel
theorem eg_tw : ∀ i ∈ INDENTS, TW (i ++ Str.ofString "e.g.::") = some (some i) := by decide +kernel
theorem edge_tw : TW (Str.ofString "at the edge") = some none := by decide +kernel
def WIDTHS : List Int := [1, 2, 3, 4, 5, 6, 7]
theorem text_pm : ∀ w ∈ WIDTHS, ∀ t ∈ TEXTS, PM (Txt.mul (Str.ofString " ") w ++ t) = some none ∨ PM (Txt.mul (Str.ofString " ") w ++ t) = some (some (Txt.mul (Str.ofString " ") w, Str.ofString "x")) := by decide +kernel
theorem ind_w : ∀ o ∈ INDENTS, (o.length : Int) ∈ WIDTHS ∧ ((o.length : Int) + 1) ∈ WIDTHS ∧ spc o.length ++ Str.ofString " " = Txt.mul (Str.ofString " ") ((o.length : Int) + 1) ∧ o.length ≠ 0 := by decide +kernel
end Mine
end
section
open PySem PySem.W PySem.Calls PyProof.Rows PySem.Spec
namespace Mine
structure DGood (D : List (PyData × PyData)) : Prop where
  mem : ∀ n d, lookup (.str n) D = some d → (n ∈ NAMES ∧ ∃ t ∈ TEXTS, d = .str t) ∨ (n = Str.ofString "y" ∧ d = .str (Str.ofString "no"))
def Pass (D : List (PyData × PyData)) (x : Str) : Prop := PM x = some none ∨ ∃ g1 g2, PM x = some (some (g1, g2)) ∧ lookup (.str (star g2)) D = none
theorem DGood.none {D} (h : DGood D) {n : Str} (hn : n ∉ NAMES) (hy : n ≠ Str.ofString "y") : lookup (.str n) D = Option.none := by
  cases e : lookup (.str n) D with
  | none => rfl
  | some d =>
    rcases h.mem n d e with ⟨a, _⟩ | ⟨a, _⟩
    · exact absurd a hn
    · exact absurd a hy
theorem DGood.name {D} (h : DGood D) {n : Str} (hn : n ∈ NAMES) : lookup (.str n) D = Option.none ∨ ∃ t ∈ TEXTS, lookup (.str n) D = some (.str t) := by
  cases e : lookup (.str n) D with
  | none => exact .inl rfl
  | some d =>
    rcases h.mem n d e with ⟨_, t, ht, rfl⟩ | ⟨rfl, _⟩
    · exact .inr ⟨t, ht, rfl⟩
    · exact absurd hn (by decide)
theorem injO_pass {D x r} (h : Pass D x) : injO D (x :: r) none = (injO D r none).map (x :: ·) := by
  rcases h with h | ⟨g1, g2, h, hl⟩
  · rw [injO, h]
  · rw [injO, h]
    dsimp only
    rw [hl]
theorem injO_passes {D rest} : ∀ {l : List Str}, (∀ x ∈ l, Pass D x) → injO D (l ++ rest) none = (injO D rest none).map (l ++ ·)
  | [], _ => by simp
  | x :: l, h => by
    rw [List.cons_append, injO_pass (h x (.head _)), injO_passes fun y hy => h y (.tail _ hy), Option.map_map]
    rfl
theorem injO_calm {D x r T} (h : PM x = some none ∧ (Txt.rstrip x).length ≠ 0 ∧ Txt.endswith x (Str.ofString "::") = false) : injO D (x :: r) (some T) = (injO D r (some T)).map (x :: ·) := by
  conv => lhs; unfold injO
  rw [h.1]
  dsimp only
  rw [if_neg h.2.1, h.2.2, if_neg (by decide)]
theorem injO_skip {D x y r T} (h : PM x = some none ∧ (Txt.rstrip x).length ≠ 0 ∧ Txt.endswith x (Str.ofString "::") = true) : injO D (x :: y :: r) (some T) = (injO D r (some T)).map fun o => x :: y :: o := by
  conv => lhs; unfold injO
  dsimp only
  rw [h.1]
  dsimp only
  rw [if_neg h.2.1, h.2.2, if_pos rfl]
theorem injO_blank {D b r T} (h : b ∈ BLANKS) : injO D (b :: r) (some T) = (injO D r none).map fun o => b :: T :: NL :: b :: o := by
  have := blank_pm b h
  conv => lhs; unfold injO
  rw [this.1]
  dsimp only
  rw [if_pos this.2.1]
theorem injO_take {D : List (PyData × PyData)} {x : Str} {r : List Str} {g1 g2 t ind : Str} (h : PM x = some (some (g1, g2))) (hl : lookup (.str (star g2)) D = some (.str t)) (hi : indentOf g1 r = some ind) : injO D (x :: r) none = (injO D r (some (ind ++ t))).map (x :: ·) := by
  rw [injO, h]
  dsimp only
  rw [hl]
  dsimp only
  rw [hi]
theorem ind_none {g1 y : Str} {r : List Str} (h : TW y = some none) : indentOf g1 (y :: r) = some (spc g1.length ++ Str.ofString " ") := by simp only [indentOf, h]
theorem ind_some {g1 y g : Str} {r : List Str} (h : TW y = some (some g)) : indentOf g1 (y :: r) = some (spc g.length) := by simp only [indentOf, h]
/-- the law's blocks -/
inductive BlockIs : Block → Prop
  | plain {x : Str} : x ∈ PLAIN → BlockIs { lines := [x], name := none, blank := Str.ofString "", width := 0 }
  | par {nm o i st r bl : Str} {k : Int} : nm ∈ NAMES → o ∈ INDENTS → i ∈ INDENTS → st ∈ STARS → r ∈ RESTS → bl ∈ BLANKS → 0 ≤ k → k < 6 → BlockIs (parB nm o i st r bl k)
theorem blockS_is (x y : Int) : BlockIs (blockS x y) := by
  have pm : ∀ (l : List Str) (a n : Int), 0 < n → (l.length : Int) = n → pick l (Int.fmod a n) ∈ l := fun l a n h0 hl => pick_mem (Int.fmod_nonneg_of_pos _ h0) (by rw [hl]; exact Int.fmod_lt_of_pos _ h0)
  unfold blockS
  split
  · exact .plain (pm PLAIN _ 7 (by decide) rfl)
  · exact .par (pm NAMES _ 5 (by decide) rfl) (pm INDENTS _ 5 (by decide) rfl) (pm INDENTS _ 5 (by decide) rfl) (pm STARS _ 3 (by decide) rfl) (pm RESTS _ 3 (by decide) rfl) (pm BLANKS _ 3 (by decide) rfl)
      (Int.fmod_nonneg_of_pos _ (by decide)) (Int.fmod_lt_of_pos _ (by decide))
theorem B0_is : BlockIs B0 := by
  have e : B0 = parB (Str.ofString "a") (Str.ofString "  ") (Str.ofString "  ") (Str.ofString "") (Str.ofString " words") (Str.ofString "") 0 := by
    unfold B0 parB
    congr 1
  rw [e]
  exact .par (by decide) (by decide) (by decide) (by decide) (by decide) (by decide) (by decide) (by decide)
theorem blocks_are (ns : List Int) (n : Nat) : ∀ b ∈ blocksOf ns n, BlockIs b := by
  intro b hb
  unfold blocksOf at hb
  rcases List.mem_cons.mp hb with rfl | hb
  · exact B0_is
  · obtain ⟨i, _, rfl⟩ := List.mem_map.mp hb
    exact blockS_is _ _
theorem bodyS_k {k : Int} (h0 : 0 ≤ k) (h1 : k < 6) (i : Str) :
    (k = 0 ∧ bodyS k i = ([], Str.ofString "")) ∨ (k = 1 ∧ bodyS k i = ([i ++ Str.ofString "more words"], i)) ∨ (k = 2 ∧ bodyS k i = ([Str.ofString "at the edge"], Str.ofString "")) ∨
    (k = 3 ∧ bodyS k i = ([i ++ Str.ofString "e.g.::", Str.ofString "", i ++ Str.ofString "  code()"], i)) ∨ (k = 4 ∧ bodyS k i = ([i ++ Str.ofString "e.g.::", i ++ Str.ofString ":param x: code"], i)) ∨
    (k = 5 ∧ bodyS k i = ([i ++ Str.ofString "e.g.::", i ++ Str.ofString "  code()", i ++ Str.ofString "  more()"], i)) := by
  have h : k = 0 ∨ k = 1 ∨ k = 2 ∨ k = 3 ∨ k = 4 ∨ k = 5 := by omega
  rcases h with rfl | rfl | rfl | rfl | rfl | rfl
  · exact .inl ⟨rfl, rfl⟩
  · exact .inr (.inl ⟨rfl, rfl⟩)
  · exact .inr (.inr (.inl ⟨rfl, rfl⟩))
  · exact .inr (.inr (.inr (.inl ⟨rfl, rfl⟩)))
  · exact .inr (.inr (.inr (.inr (.inl ⟨rfl, rfl⟩))))
  · exact .inr (.inr (.inr (.inr (.inr ⟨rfl, rfl⟩))))
def outN (D1 D2 : List (PyData × PyData)) (b : Block) : List Str := b.lines ++ match b.name with
  | none => []
  | some nm => match lookup (.str nm) D2 with
    | some (.str t) => [b.blank, Txt.mul (Str.ofString " ") b.width ++ t, NL, b.blank]
    | _ => b.blank :: match lookup (.str nm) D1 with
      | some (.str t) => [Txt.mul (Str.ofString " ") b.width ++ t, Str.ofString "", Str.ofString "", b.blank]
      | _ => []
theorem par_width {nm o i st r bl : Str} {k : Int} (ho : o ∈ INDENTS) (hi : i ∈ INDENTS) (h0 : 0 ≤ k) (h1 : k < 6) : (parB nm o i st r bl k).width ∈ WIDTHS := by
  have io := ind_w o ho
  have ii := ind_w i hi
  unfold parB
  dsimp only
  rcases bodyS_k h0 h1 i with ⟨_, e⟩ | ⟨_, e⟩ | ⟨_, e⟩ | ⟨_, e⟩ | ⟨_, e⟩ | ⟨_, e⟩
  all_goals rw [e]; dsimp only
  · rw [if_pos (by decide)]; exact io.2.1
  · rw [if_neg ii.2.2.2]; exact ii.1
  · rw [if_pos (by decide)]; exact io.2.1
  · rw [if_neg ii.2.2.2]; exact ii.1
  · rw [if_neg ii.2.2.2]; exact ii.1
  · rw [if_neg ii.2.2.2]; exact ii.1
theorem not_x : Str.ofString "x" ∉ NAMES := by decide
theorem not_x2 : Str.ofString "x" ≠ Str.ofString "y" := by decide
theorem not_a1 : Str.ofString "a=1" ∉ NAMES := by decide
theorem not_a12 : Str.ofString "a=1" ≠ Str.ofString "y" := by decide
theorem pass_body {D} (hD : DGood D) {i : Str} (hi : i ∈ INDENTS) {k : Int} (h0 : 0 ≤ k) (h1 : k < 6) : ∀ x ∈ (bodyS k i).1, Pass D x := by
  have hx : lookup (.str (star (Str.ofString "x"))) D = none := by rw [star_x]; exact hD.none not_x not_x2
  rcases bodyS_k h0 h1 i with ⟨_, e⟩ | ⟨_, e⟩ | ⟨_, e⟩ | ⟨_, e⟩ | ⟨_, e⟩ | ⟨_, e⟩
  all_goals rw [e]; dsimp only
  · intro x hx; cases hx
  · intro x hx; rw [List.mem_singleton.mp hx]; exact .inl (more_calm i hi).1
  · intro x hx; rw [List.mem_singleton.mp hx]; exact .inl edge_calm.1
  · intro x hx
    rcases List.mem_cons.mp hx with rfl | hx
    · exact .inl (eg_pm i hi).1
    rcases List.mem_cons.mp hx with rfl | hx
    · exact .inl void_pm
    rw [List.mem_singleton.mp hx]; exact .inl (code_calm i hi).1
  · intro x hx'
    rcases List.mem_cons.mp hx' with rfl | hx'
    · exact .inl (eg_pm i hi).1
    rw [List.mem_singleton.mp hx']; exact .inr ⟨_, _, code_pm i hi, hx⟩
  · intro x hx
    rcases List.mem_cons.mp hx with rfl | hx
    · exact .inl (eg_pm i hi).1
    rcases List.mem_cons.mp hx with rfl | hx
    · exact .inl (code_calm i hi).1
    rw [List.mem_singleton.mp hx]; exact .inl (mor2_calm i hi).1
theorem pass_text {D} (hD : DGood D) {w : Int} {t : Str} (hw : w ∈ WIDTHS) (ht : t ∈ TEXTS) : Pass D (Txt.mul (Str.ofString " ") w ++ t) := by
  rcases text_pm w hw t ht with h | h
  · exact .inl h
  · exact .inr ⟨_, _, h, by rw [star_x]; exact hD.none not_x not_x2⟩
theorem inj_block {D1 D2 rest} {b : Block} (hb : BlockIs b) (g1 : DGood D1) (g2 : DGood D2) (hc : ∀ nm ∈ NAMES, lookup (.str nm) D1 = none ∨ lookup (.str nm) D2 = none) :
    injO D2 (outB D1 b ++ rest) none = (injO D2 rest none).map (outN D1 D2 b ++ ·) := by
  cases hb with
  | @plain x hx =>
    have hp : Pass D2 x := by
      rcases plain_pm x hx with h | h
      · exact .inl h
      · exact .inr ⟨_, _, h, by rw [star_a1]; exact g2.none not_a1 not_a12⟩
    exact injO_passes (l := [x]) fun y hy => by rw [List.mem_singleton.mp hy]; exact hp
  | @par nm o i st r bl k hn ho hi hs hr hb h0 h1 =>
    have hw := par_width (nm := nm) (st := st) (r := r) (bl := bl) ho hi h0 h1
    have hh := head_pm hn ho hs hr
    have hst := star_name nm hn st hs
    have hbl := blank_pm bl hb
    rcases g2.name hn with e2 | ⟨t, ht, e2⟩
    · have hph : Pass D2 (HEAD nm o st r) := .inr ⟨_, _, hh, by rw [hst]; exact e2⟩
      have eo : outN D1 D2 (parB nm o i st r bl k) = outB D1 (parB nm o i st r bl k) := by
        unfold outN outB
        show _ ++ (match lookup (.str nm) D2 with | some (.str t) => _ | _ => _) = _
        rw [e2]
        rfl
      rw [eo]
      refine injO_passes fun x hx => ?_
      unfold outB at hx
      rcases List.mem_append.mp hx with hx | hx
      · rcases List.mem_cons.mp hx with rfl | hx
        · exact hph
        · exact pass_body g2 hi h0 h1 x hx
      · have hx : x ∈ bl :: (match lookup (.str nm) D1 with | some (.str t) => [Txt.mul (Str.ofString " ") (parB nm o i st r bl k).width ++ t, Str.ofString "", Str.ofString "", bl] | _ => []) := hx
        rcases List.mem_cons.mp hx with rfl | hx
        · exact .inl hbl.1
        rcases g1.name hn with e1 | ⟨t1, ht1, e1⟩
        · rw [e1] at hx; cases hx
        · rw [e1] at hx
          rcases List.mem_cons.mp hx with rfl | hx
          · exact pass_text g2 hw ht1
          rcases List.mem_cons.mp hx with rfl | hx
          · exact .inl void_pm
          rcases List.mem_cons.mp hx with rfl | hx
          · exact .inl void_pm
          rw [List.mem_singleton.mp hx]
          exact .inl hbl.1
    · have e1 : lookup (.str nm) D1 = none := by
        rcases hc nm hn with h | h
        · exact h
        · rw [e2] at h; cases h
      have eb : outB D1 (parB nm o i st r bl k) ++ rest = HEAD nm o st r :: ((bodyS k i).1 ++ bl :: rest) := by
        unfold outB
        show (HEAD nm o st r :: (bodyS k i).1) ++ (bl :: match lookup (.str nm) D1 with | some (.str t) => _ | _ => []) ++ rest = _
        rw [e1]
        simp
      have en : outN D1 D2 (parB nm o i st r bl k) = HEAD nm o st r :: ((bodyS k i).1 ++ [bl, Txt.mul (Str.ofString " ") (parB nm o i st r bl k).width ++ t, NL, bl]) := by
        unfold outN
        show (HEAD nm o st r :: (bodyS k i).1) ++ (match lookup (.str nm) D2 with | some (.str t) => _ | _ => _) = _
        rw [e2]
        rfl
      rw [eb, en]
      have io := ind_w o ho
      have ii := ind_w i hi
      have hk := bodyS_k h0 h1 i
      unfold parB
      dsimp only
      rcases hk with ⟨_, e⟩ | ⟨_, e⟩ | ⟨_, e⟩ | ⟨_, e⟩ | ⟨_, e⟩ | ⟨_, e⟩
      all_goals rw [e]; dsimp only
      · rw [if_pos (by decide), ← io.2.2.1]
        rw [List.nil_append, injO_take (ind := spc o.length ++ Str.ofString " ") hh (by rw [hst]; exact e2) (ind_none hbl.2.2), injO_blank hb, Option.map_map]
        rfl
      · rw [if_neg ii.2.2.2]
        rw [List.cons_append, List.nil_append, injO_take (ind := spc i.length) hh (by rw [hst]; exact e2) (ind_some (more_tw i hi)), injO_calm (more_calm i hi), injO_blank hb, Option.map_map, Option.map_map]
        rfl
      · rw [if_pos (by decide), ← io.2.2.1]
        rw [List.cons_append, List.nil_append, injO_take (ind := spc o.length ++ Str.ofString " ") hh (by rw [hst]; exact e2) (ind_none edge_tw), injO_calm edge_calm, injO_blank hb, Option.map_map, Option.map_map]
        rfl
      · rw [if_neg ii.2.2.2]
        rw [List.cons_append, List.cons_append, List.cons_append, List.nil_append, injO_take (ind := spc i.length) hh (by rw [hst]; exact e2) (ind_some (eg_tw i hi)), injO_skip (eg_pm i hi), injO_calm (code_calm i hi), injO_blank hb, Option.map_map, Option.map_map, Option.map_map]
        rfl
      · rw [if_neg ii.2.2.2]
        rw [List.cons_append, List.cons_append, List.nil_append, injO_take (ind := spc i.length) hh (by rw [hst]; exact e2) (ind_some (eg_tw i hi)), injO_skip (eg_pm i hi), injO_blank hb, Option.map_map, Option.map_map]
        rfl
      · rw [if_neg ii.2.2.2]
        rw [List.cons_append, List.cons_append, List.cons_append, List.nil_append, injO_take (ind := spc i.length) hh (by rw [hst]; exact e2) (ind_some (eg_tw i hi)), injO_skip (eg_pm i hi), injO_calm (mor2_calm i hi), injO_blank hb, Option.map_map, Option.map_map, Option.map_map]
        rfl
end Mine
end
section
open PySem PySem.W PySem.Calls PyProof.Rows PySem.Spec
namespace Mine
open PySem.StrLaws PySem.Builtin PySem.Builtin.Str
abbrev NB (x : Str) : Prop := ∀ c ∈ x.cps.toList, Unicode.isLineBreak c = false
theorem nb_app {x y : Str} (h1 : NB x) (h2 : NB y) : NB (x ++ y) := by
  intro c hc
  rw [app_cps] at hc
  rcases List.mem_append.mp hc with h | h
  · exact h1 c h
  · exact h2 c h
theorem nb_ind : ∀ x ∈ INDENTS, NB x ∧ x.length ≤ 6 := by decide +kernel
theorem nb_names : ∀ x ∈ NAMES, NB x ∧ x.length ≤ 3 := by decide +kernel
theorem nb_stars : ∀ x ∈ STARS, NB x ∧ x.length ≤ 2 := by decide +kernel
theorem nb_rests : ∀ x ∈ RESTS, NB x ∧ x.length ≤ 8 := by decide +kernel
theorem nb_blanks : ∀ x ∈ BLANKS, NB x ∧ x.length ≤ 3 := by decide +kernel
theorem nb_plain : ∀ x ∈ PLAIN, NB x ∧ x.length ≤ 30 := by decide +kernel
theorem nb_texts : ∀ x ∈ TEXTS, NB x ∧ x.length ≤ 20 := by decide +kernel
theorem nb_mul : ∀ w ∈ WIDTHS, NB (Txt.mul (Str.ofString " ") w) ∧ 0 ≤ w ∧ w ≤ 40 := by decide +kernel
theorem nb_lits : NB (Str.ofString ":param ") ∧ NB (Str.ofString ":") ∧ NB (Str.ofString "more words") ∧ NB (Str.ofString "at the edge") ∧ NB (Str.ofString "e.g.::") ∧ NB (Str.ofString "") ∧ NB (Str.ofString "  code()") ∧ NB (Str.ofString ":param x: code") ∧ NB (Str.ofString "  more()") ∧ NB END := by decide +kernel
theorem not_nl {x : Str} (h : NB x) : x ≠ NL := by
  rintro rfl
  have := h 10 (by decide)
  revert this
  decide
def expandE (l : List Str) : List Str := l.flatMap fun x => if x = NL then [Str.ofString "", Str.ofString ""] else [x]
theorem expand_nb : ∀ {l : List Str}, (∀ x ∈ l, NB x) → expandE l = l
  | [], _ => rfl
  | x :: r, h => by
    have ih := expand_nb (l := r) fun y hy => h y (.tail _ hy)
    unfold expandE at *
    rw [List.flatMap_cons, ih, if_neg (not_nl (h x (.head _)))]
    rfl
theorem expand_app (a b : List Str) : expandE (a ++ b) = expandE a ++ expandE b := by
  unfold expandE; rw [List.flatMap_append]
theorem str_ext {x y : Str} (h : x.cps.toList = y.cps.toList) : x = y := by
  cases x; cases y
  congr 1
  exact Array.ext' h
theorem str_assoc (x y z : Str) : x ++ y ++ z = x ++ (y ++ z) := str_ext (by simp only [app_cps, List.append_assoc])
theorem str_nil (x : Str) : Str.ofString "" ++ x = x := str_ext (by rw [app_cps]; rfl)
theorem expand_ne : ∀ {l : List Str}, l ≠ [] → expandE l ≠ []
  | [], h => absurd rfl h
  | x :: r, _ => by
    unfold expandE
    rw [List.flatMap_cons]
    split <;> simp
theorem join_cons (x : Str) {l : List Str} (h : l ≠ []) : Str.join NL (x :: l) = x ++ NL ++ Str.join NL l := by
  cases l with
  | nil => exact absurd rfl h
  | cons y r => rfl
theorem join_expand : ∀ l : List Str, Str.join NL (expandE l) = Str.join NL l
  | [] => rfl
  | [x] => by
    unfold expandE
    rw [List.flatMap_cons, List.flatMap_nil, List.append_nil]
    by_cases h : x = NL
    · subst h
      rw [if_pos rfl]
      decide +kernel
    · rw [if_neg h]
  | x :: y :: r => by
    have ih := join_expand (y :: r)
    have hne : expandE (y :: r) ≠ [] := expand_ne (by simp)
    have e : expandE (x :: y :: r) = (if x = NL then [Str.ofString "", Str.ofString ""] else [x]) ++ expandE (y :: r) := by
      unfold expandE; rw [List.flatMap_cons]
    rw [e, join_cons x (by simp), ← ih]
    by_cases h : x = NL
    · subst h
      rw [if_pos rfl]
      show Str.join NL (Str.ofString "" :: Str.ofString "" :: expandE (y :: r)) = _
      rw [join_cons _ (by simp), join_cons _ hne, str_nil, ← str_assoc]
    · rw [if_neg h]
      exact join_cons x hne
theorem body_nb {i : Str} (hi : i ∈ INDENTS) {k : Int} (h0 : 0 ≤ k) (h1 : k < 6) : (bodyS k i).1.length ≤ 3 ∧ ∀ x ∈ (bodyS k i).1, NB x ∧ x.length ≤ 60 := by
  have ni := nb_ind i hi
  have L := nb_lits
  have key : ∀ z : Str, NB z → z.length ≤ 20 → NB (i ++ z) ∧ (i ++ z).length ≤ 60 := fun z hz hl => ⟨nb_app ni.1 hz, by rw [Str.length_append]; omega⟩
  rcases bodyS_k h0 h1 i with ⟨_, e⟩ | ⟨_, e⟩ | ⟨_, e⟩ | ⟨_, e⟩ | ⟨_, e⟩ | ⟨_, e⟩
  all_goals rw [e]; dsimp only
  · exact ⟨by decide, fun x hx => nomatch hx⟩
  · refine ⟨Nat.le_of_ble_eq_true rfl, fun x hx => ?_⟩
    rw [List.mem_singleton.mp hx]; exact key _ L.2.2.1 (by decide)
  · refine ⟨Nat.le_of_ble_eq_true rfl, fun x hx => ?_⟩
    rw [List.mem_singleton.mp hx]; exact ⟨L.2.2.2.1, by decide⟩
  · refine ⟨Nat.le_of_ble_eq_true rfl, fun x hx => ?_⟩
    rcases List.mem_cons.mp hx with rfl | hx
    · exact key _ L.2.2.2.2.1 (by decide)
    rcases List.mem_cons.mp hx with rfl | hx
    · exact ⟨L.2.2.2.2.2.1, by decide⟩
    rw [List.mem_singleton.mp hx]; exact key _ L.2.2.2.2.2.2.1 (by decide)
  · refine ⟨Nat.le_of_ble_eq_true rfl, fun x hx => ?_⟩
    rcases List.mem_cons.mp hx with rfl | hx
    · exact key _ L.2.2.2.2.1 (by decide)
    rw [List.mem_singleton.mp hx]; exact key _ L.2.2.2.2.2.2.2.1 (by decide)
  · refine ⟨Nat.le_of_ble_eq_true rfl, fun x hx => ?_⟩
    rcases List.mem_cons.mp hx with rfl | hx
    · exact key _ L.2.2.2.2.1 (by decide)
    rcases List.mem_cons.mp hx with rfl | hx
    · exact key _ L.2.2.2.2.2.2.1 (by decide)
    rw [List.mem_singleton.mp hx]; exact key _ L.2.2.2.2.2.2.2.2.1 (by decide)
theorem lines_nb {b : Block} (h : BlockIs b) : b.lines.length ≤ 5 ∧ (∀ x ∈ b.lines, NB x ∧ x.length ≤ 60) ∧ NB b.blank ∧ b.blank.length ≤ 10 := by
  cases h with
  | @plain x hx =>
    have := nb_plain x hx
    refine ⟨by show 1 ≤ 5; decide, fun y hy => ?_, nb_lits.2.2.2.2.2.1, by show (Str.ofString "").length ≤ 10; decide⟩
    rw [List.mem_singleton.mp hy]; exact ⟨this.1, by omega⟩
  | @par nm o i st r bl k hn ho hi hs hr hb h0 h1 =>
    have B := body_nb hi h0 h1
    have a1 := nb_ind o ho
    have a2 := nb_names nm hn
    have a3 := nb_stars st hs
    have a4 := nb_rests r hr
    have a5 := nb_blanks bl hb
    have L := nb_lits
    refine ⟨?_, fun y hy => ?_, a5.1, by show bl.length ≤ 10; omega⟩
    · show ((HEAD nm o st r) :: (bodyS k i).1).length ≤ 5
      rw [List.length_cons]; omega
    · have hy : y ∈ (HEAD nm o st r) :: (bodyS k i).1 := hy
      rcases List.mem_cons.mp hy with rfl | hy
      · refine ⟨nb_app (nb_app (nb_app (nb_app (nb_app a1.1 L.1) a3.1) a2.1) L.2.1) a4.1, ?_⟩
        have e1 : (Str.ofString ":param ").length = 7 := by decide
        have e2 : (Str.ofString ":").length = 1 := by decide
        unfold HEAD
        simp only [Str.length_append, e1, e2]
        omega
      · exact B.2 y hy
theorem ok_of_is {b : Block} (h : BlockIs b) : BlockOk b := by
  have L := lines_nb h
  refine ⟨L.1, fun x hx => (L.2.1 x hx).2, L.2.2.2, ?_, ?_, ?_⟩
  · intro n hn
    cases h with
    | plain hx => cases hn
    | par hnm => cases hn; exact Nat.le_trans (nb_names _ hnm).2 (by decide)
  · cases h with
    | plain hx => exact Int.le_refl _
    | par hn ho hi hs hr hb h0 h1 => exact (nb_mul _ (par_width ho hi h0 h1)).2.1
  · cases h with
    | plain hx => show (0 : Int) ≤ 40; decide
    | par hn ho hi hs hr hb h0 h1 => exact (nb_mul _ (par_width ho hi h0 h1)).2.2
theorem outB_nb {D : List (PyData × PyData)} (hD : DGood D) {b : Block} (h : BlockIs b) : ∀ x ∈ outB D b, NB x := by
  have L := lines_nb h
  intro x hx
  unfold outB at hx
  rcases List.mem_append.mp hx with hx | hx
  · exact (L.2.1 x hx).1
  · cases h with
    | plain h' => cases hx
    | @par nm o i st r bl k hn ho hi hs hr hb h0 h1 =>
      have hx : x ∈ bl :: (match lookup (.str nm) D with | some (.str t) => [Txt.mul (Str.ofString " ") (parB nm o i st r bl k).width ++ t, Str.ofString "", Str.ofString "", bl] | _ => []) := hx
      have hbl := (nb_blanks bl hb).1
      rcases List.mem_cons.mp hx with rfl | hx
      · exact hbl
      rcases hD.name hn with e | ⟨t, ht, e⟩
      · rw [e] at hx; cases hx
      · rw [e] at hx
        rcases List.mem_cons.mp hx with rfl | hx
        · exact nb_app (nb_mul _ (par_width ho hi h0 h1)).1 (nb_texts t ht).1
        rcases List.mem_cons.mp hx with rfl | hx
        · exact nb_lits.2.2.2.2.2.1
        rcases List.mem_cons.mp hx with rfl | hx
        · exact nb_lits.2.2.2.2.2.1
        rw [List.mem_singleton.mp hx]; exact hbl
/-- told in two steps -/
def Two (D1 D2 D : List (PyData × PyData)) : Prop := ∀ nm ∈ NAMES, (lookup (.str nm) D2 = none ∧ lookup (.str nm) D = lookup (.str nm) D1) ∨ (lookup (.str nm) D1 = none ∧ lookup (.str nm) D = lookup (.str nm) D2)
theorem outN_E {D1 D2 D : List (PyData × PyData)} (g1 : DGood D1) (g2 : DGood D2) (h2 : Two D1 D2 D) {b : Block} (h : BlockIs b) : expandE (outN D1 D2 b) = outB D b := by
  have L := lines_nb h
  cases h with
  | plain h' => exact expand_nb fun x hx => (L.2.1 x (by simpa [outN] using hx)).1
  | @par nm o i st r bl k hn ho hi hs hr hb h0 h1 =>
    have hbl := (nb_blanks bl hb).1
    have hw := (nb_mul _ (par_width (nm := nm) (st := st) (r := r) (bl := bl) ho hi h0 h1)).1
    have hl := fun x hx => (L.2.1 x hx).1
    rcases g2.name hn with e2 | ⟨t, ht, e2⟩
    · have e : outN D1 D2 (parB nm o i st r bl k) = outB D (parB nm o i st r bl k) := by
        unfold outN outB
        show _ ++ (match lookup (.str nm) D2 with | some (.str t) => _ | _ => _) = _ ++ (bl :: match lookup (.str nm) D with | some (.str t) => _ | _ => _)
        rcases h2 nm hn with ⟨_, e⟩ | ⟨e', e⟩
        · rw [e2, e]; rfl
        · rw [e2, e, e2]
          show _ ++ (bl :: match lookup (.str nm) D1 with | some (.str t) => _ | _ => _) = _
          rw [e']
      have e1 : outN D1 D2 (parB nm o i st r bl k) = outB D1 (parB nm o i st r bl k) := by
        unfold outN outB
        show _ ++ (match lookup (.str nm) D2 with | some (.str t) => _ | _ => _) = _
        rw [e2]
        rfl
      rw [← e]
      refine expand_nb ?_
      rw [e1]
      exact outB_nb g1 (.par hn ho hi hs hr hb h0 h1)
    · have e : lookup (.str nm) D = some (.str t) := by
        rcases h2 nm hn with ⟨e', _⟩ | ⟨_, e'⟩
        · rw [e2] at e'; cases e'
        · rw [e', e2]
      have en : outN D1 D2 (parB nm o i st r bl k) = (parB nm o i st r bl k).lines ++ ([bl, Txt.mul (Str.ofString " ") (parB nm o i st r bl k).width ++ t] ++ ([NL] ++ [bl])) := by
        unfold outN
        show _ ++ (match lookup (.str nm) D2 with | some (.str t) => _ | _ => _) = _
        rw [e2]
        rfl
      have eo : outB D (parB nm o i st r bl k) = (parB nm o i st r bl k).lines ++ ([bl, Txt.mul (Str.ofString " ") (parB nm o i st r bl k).width ++ t] ++ ([Str.ofString "", Str.ofString ""] ++ [bl])) := by
        unfold outB
        show _ ++ (bl :: match lookup (.str nm) D with | some (.str t) => _ | _ => _) = _
        rw [e]
        rfl
      have x1 : expandE [bl, Txt.mul (Str.ofString " ") (parB nm o i st r bl k).width ++ t] = [bl, Txt.mul (Str.ofString " ") (parB nm o i st r bl k).width ++ t] := expand_nb fun x hx => by
        rcases List.mem_cons.mp hx with rfl | hx
        · exact hbl
        rw [List.mem_singleton.mp hx]; exact nb_app hw (nb_texts t ht).1
      have x2 : expandE [bl] = [bl] := expand_nb fun x hx => by rw [List.mem_singleton.mp hx]; exact hbl
      have x3 : expandE [NL] = [Str.ofString "", Str.ofString ""] := by
        unfold expandE
        rw [List.flatMap_cons, if_pos rfl]
        rfl
      rw [en, eo, expand_app, expand_app, expand_app, expand_nb hl, x1, x2, x3]
theorem inj_all {D1 D2 : List (PyData × PyData)} (g1 : DGood D1) (g2 : DGood D2) (hc : ∀ nm ∈ NAMES, lookup (.str nm) D1 = none ∨ lookup (.str nm) D2 = none) : ∀ {bs : List Block}, (∀ b ∈ bs, BlockIs b) →
    injO D2 (outS D1 bs ++ [END]) none = some (bs.flatMap (outN D1 D2) ++ [END])
  | [], _ => by
    show injO D2 [END] none = _
    rw [injO_pass (.inl end_pm)]
    rfl
  | b :: r, h => by
    have ih := inj_all g1 g2 hc (bs := r) fun b hb => h b (.tail _ hb)
    have e : outS D1 (b :: r) ++ [END] = outB D1 b ++ (outS D1 r ++ [END]) := by
      unfold outS; rw [List.flatMap_cons, List.append_assoc]
    rw [e, inj_block (h b (.head _)) g1 g2 hc, ih, List.flatMap_cons]
    simp
theorem out_E {D1 D2 D : List (PyData × PyData)} (g1 : DGood D1) (g2 : DGood D2) (h2 : Two D1 D2 D) : ∀ {bs : List Block}, (∀ b ∈ bs, BlockIs b) → expandE (bs.flatMap (outN D1 D2) ++ [END]) = outS D bs ++ [END]
  | [], _ => expand_nb fun x hx => by rw [List.mem_singleton.mp hx]; exact nb_lits.2.2.2.2.2.2.2.2.2
  | b :: r, h => by
    have ih := out_E g1 g2 h2 (bs := r) fun b hb => h b (.tail _ hb)
    rw [List.flatMap_cons, List.append_assoc, expand_app, outN_E g1 g2 h2 (h b (.head _)), ih]
    unfold outS
    rw [List.flatMap_cons, List.append_assoc]
end Mine
end
section
open PySem PySem.W PySem.Calls PyProof.Rows PySem.Spec
namespace Mine
theorem good_of : ∀ {D : List (PyData × PyData)}, (∀ p ∈ D, ∃ n d, p = (PyData.str n, d) ∧ ((n ∈ NAMES ∧ ∃ t ∈ TEXTS, d = .str t) ∨ (n = Str.ofString "y" ∧ d = .str (Str.ofString "no")))) → DGood D
  | [], _ => ⟨fun n d e => nomatch e⟩
  | p :: r, h => by
    have ih := good_of (D := r) fun q hq => h q (.tail _ hq)
    obtain ⟨n, d, rfl, hq⟩ := h p (.head _)
    refine ⟨fun n' d' e => ?_⟩
    have e : (if Spec.same (.str n) (.str n') = true then some d else lookup (.str n') r) = some d' := e
    rw [PyProof.V.same_str] at e
    by_cases hn : n = n'
    · subst hn
      rw [if_pos (by simp)] at e
      cases e
      exact hq
    · rw [if_neg (by simpa using hn)] at e
      exact ih.mem n' d' e
theorem saidV_mem (f k : Int) : saidV f k ∈ TEXTS := pick_mem (Int.fmod_nonneg_of_pos _ (by decide)) (Int.fmod_lt_of_pos _ (by decide))
theorem good_said (f : Int) : DGood (saidD f) := good_of fun p hp => by
  unfold saidD at hp
  rcases List.mem_cons.mp hp with rfl | hp
  · exact ⟨_, _, rfl, .inl ⟨by decide, _, saidV_mem _ _, rfl⟩⟩
  rcases List.mem_cons.mp hp with rfl | hp
  · exact ⟨_, _, rfl, .inl ⟨by decide, _, saidV_mem _ _, rfl⟩⟩
  rcases List.mem_cons.mp hp with rfl | hp
  · exact ⟨_, _, rfl, .inl ⟨by decide, _, saidV_mem _ _, rfl⟩⟩
  rcases List.mem_cons.mp hp with rfl | hp
  · exact ⟨_, _, rfl, .inl ⟨by decide, _, saidV_mem _ _, rfl⟩⟩
  cases hp
theorem good_left (f : Int) : DGood (leftD f) := good_of fun p hp => by
  unfold leftD at hp
  rcases List.mem_cons.mp hp with rfl | hp
  · exact ⟨_, _, rfl, .inl ⟨by decide, _, saidV_mem _ _, rfl⟩⟩
  rcases List.mem_cons.mp hp with rfl | hp
  · exact ⟨_, _, rfl, .inl ⟨by decide, _, saidV_mem _ _, rfl⟩⟩
  cases hp
theorem good_right (f : Int) : DGood (rightD f) := good_of fun p hp => by
  unfold rightD at hp
  rcases List.mem_cons.mp hp with rfl | hp
  · exact ⟨_, _, rfl, .inl ⟨by decide, _, saidV_mem _ _, rfl⟩⟩
  rcases List.mem_cons.mp hp with rfl | hp
  · exact ⟨_, _, rfl, .inl ⟨by decide, _, saidV_mem _ _, rfl⟩⟩
  cases hp
theorem good_no : DGood noD := good_of fun p hp => by
  unfold noD at hp
  rw [List.mem_singleton.mp hp]
  exact ⟨_, _, rfl, .inr ⟨rfl, rfl⟩⟩
theorem good_nil : DGood [] := ⟨fun n d e => nomatch e⟩
theorem dok_of {D} (h : DGood D) : DOk D := ⟨fun x y e => by
  rcases h.mem x y e with ⟨_, t, ht, rfl⟩ | ⟨_, rfl⟩
  · exact ⟨t, rfl, (nb_texts t ht).2⟩
  · exact ⟨_, rfl, by decide⟩⟩
theorem two_nil (D : List (PyData × PyData)) : Two [] D D := fun _ _ => .inr ⟨rfl, rfl⟩
theorem two_no : Two [] noD [] := fun nm hn => by
  refine .inl ⟨?_, rfl⟩
  unfold NAMES at hn
  rcases List.mem_cons.mp hn with rfl | hn
  · rfl
  rcases List.mem_cons.mp hn with rfl | hn
  · rfl
  rcases List.mem_cons.mp hn with rfl | hn
  · rfl
  rcases List.mem_cons.mp hn with rfl | hn
  · rfl
  rw [List.mem_singleton.mp hn]
  rfl
theorem two_lr (f : Int) : Two (leftD f) (rightD f) (saidD f) := fun nm hn => by
  unfold NAMES at hn
  rcases List.mem_cons.mp hn with rfl | hn
  · exact .inl ⟨rfl, rfl⟩
  rcases List.mem_cons.mp hn with rfl | hn
  · exact .inl ⟨rfl, rfl⟩
  rcases List.mem_cons.mp hn with rfl | hn
  · exact .inr ⟨rfl, rfl⟩
  rcases List.mem_cons.mp hn with rfl | hn
  · exact .inr ⟨rfl, rfl⟩
  rw [List.mem_singleton.mp hn]
  exact .inl ⟨rfl, rfl⟩
theorem two_rl (f : Int) : Two (rightD f) (leftD f) (saidD f) := fun nm hn => by
  unfold NAMES at hn
  rcases List.mem_cons.mp hn with rfl | hn
  · exact .inr ⟨rfl, rfl⟩
  rcases List.mem_cons.mp hn with rfl | hn
  · exact .inr ⟨rfl, rfl⟩
  rcases List.mem_cons.mp hn with rfl | hn
  · exact .inl ⟨rfl, rfl⟩
  rcases List.mem_cons.mp hn with rfl | hn
  · exact .inl ⟨rfl, rfl⟩
  rw [List.mem_singleton.mp hn]
  exact .inl ⟨rfl, rfl⟩
theorem expand_len : ∀ l : List Str, l.length ≤ (expandE l).length
  | [] => Nat.le_refl _
  | x :: r => by
    have := expand_len r
    unfold expandE at *
    rw [List.flatMap_cons, List.length_append, List.length_cons]
    split <;> (simp only [List.length_cons, List.length_nil]; omega)
theorem expand_mem {x : Str} {l : List Str} (h : x ∈ l) : x = NL ∨ x ∈ expandE l := by
  by_cases e : x = NL
  · exact .inl e
  · refine .inr (List.mem_flatMap.mpr ⟨x, h, ?_⟩)
    rw [if_neg e]
    exact .head _
theorem inj_fact {D1 D2 D : List (PyData × PyData)} (g1 : DGood D1) (g2 : DGood D2) (g : DGood D) (h2 : Two D1 D2 D) {bs : List Block} (hb : ∀ b ∈ bs, BlockIs b) (hn : bs.length ≤ 9) {doc : Str} (hl : Txt.lines doc = outS D1 bs ++ [END]) (hd : doc.length ≤ 10000) :
    InjFact D2 doc (outS D bs ++ [END]) := by
  have hok : ∀ b ∈ bs, BlockOk b := fun b h => ok_of_is (hb b h)
  have eE := out_E g1 g2 h2 hb
  refine ⟨fun x y e => ?_, hd, ?_, bs.flatMap (outN D1 D2) ++ [END], ?_, ?_, ?_⟩
  · obtain ⟨t, e', ht⟩ := (dok_of g2).str _ _ e
    cases e'
    omega
  · rw [hl, List.length_append]
    have := outS_len (D := D1) hok
    simp only [List.length_cons, List.length_nil]
    omega
  · rw [hl]
    refine inj_all g1 g2 (fun nm h => ?_) hb
    rcases h2 nm h with ⟨a, _⟩ | ⟨a, _⟩
    · exact .inr a
    · exact .inl a
  · have s1 := sum_le 60 (l := bs.flatMap (outN D1 D2) ++ [END]) fun x hx => by
      rcases expand_mem hx with rfl | hx
      · decide
      · rw [eE] at hx
        exact out_small hok (dok_of g) x hx
    have s2 := expand_len (bs.flatMap (outN D1 D2) ++ [END])
    rw [eE] at s2
    have := outS_len (D := D) hok
    simp only [List.length_append, List.length_cons, List.length_nil] at s1 s2 ⊢
    omega
  · rw [join_eq, join_eq, ← eE, join_expand]
theorem law_doc {bs : List Block} (hb : ∀ b ∈ bs, BlockIs b) (hn : bs.length ≤ 9) (turn step : Int) {doc : Str} (hd : doc = docS (outS [] bs ++ [END]) turn step) : Txt.lines doc = outS [] bs ++ [END] ∧ doc.length ≤ 10000 := by
  have hok : ∀ b ∈ bs, BlockOk b := fun b h => ok_of_is (hb b h)
  subst hd
  constructor
  · refine doc_lines (fun x hx => ?_) turn step
    rcases List.mem_append.mp hx with hx | hx
    · obtain ⟨b, h1, h2⟩ := List.mem_flatMap.mp hx
      exact outB_nb good_nil (hb b h1) x h2
    · rw [List.mem_singleton.mp hx]; exact nb_lits.2.2.2.2.2.2.2.2.2
  · have h1 := doc_len 60 (out_small hok (dok_of good_nil)) turn step
    have h2 := outS_len (D := []) hok
    rw [List.length_append] at h1
    simp only [List.length_cons, List.length_nil] at h1
    omega
theorem law_join {D : List (PyData × PyData)} (g : DGood D) {bs : List Block} (hb : ∀ b ∈ bs, BlockIs b) (hn : bs.length ≤ 9) : Txt.lines (Txt.join NL (outS D bs ++ [END])) = outS D bs ++ [END] ∧ (Txt.join NL (outS D bs ++ [END])).length ≤ 10000 := by
  have hok : ∀ b ∈ bs, BlockOk b := fun b h => ok_of_is (hb b h)
  constructor
  · refine join_lines (fun x hx => ?_) nb_lits.2.2.2.2.2.2.2.2.2 (by decide)
    obtain ⟨b, h1, h2⟩ := List.mem_flatMap.mp hx
    exact outB_nb g (hb b h1) x h2
  · have h1 := join_len 61 (outS D bs) END (fun x hx => Nat.succ_le_succ (out_small hok (dok_of g) x (List.mem_append_left _ hx)))
    have h2 := outS_len (D := D) hok
    have h3 : END.length = 3 := by decide
    omega
end Mine
end
section
open PySem PySem.W PySem.Calls PyProof.Rows PySem.Spec
namespace Mine
local macro_rules | `(tactic| walk_at "exec For Name Call cons nil") => `(tactic| refine Stop.out ?_)
local macro_rules | `(tactic| walk_at "eval IfExp") => `(tactic| ((fail_if_success (with_reducible show wpAny _ _ _ (IntAt _ _) _ _)); refine Stop.out ?_))
local macro_rules | `(tactic| k_all) => `(tactic| with_reducible assumption)
local macro_rules | `(tactic| walk_at "call ref") => `(tactic| (k_here; (with_reducible show wpAny _ _ (call (Value.ref 76) _) _ _ _); k_dflt (refine' block_N ?k1 ?k2 ?k3 ?k4 ?k5 ?_; (case k1 => with_reducible assumption); (case k2 => k_asm); (case k3 => k_asm); (case k4 => rfl); (case k5 => k_room)); intro D' l' arr' nm' tb' tw' h' tk' F' N' ne1' ne2' hnm' hls'; (have q1' := ne1'); (have q2' := ne2'); (simp only [AllNeN] at q1' q2'); (try k_sweep)))
local macro_rules | `(tactic| walk_at "exec Assign cons DictComp") => `(tactic| refine Stop.out ?_)
local macro_rules | `(tactic| walk_at "eval Name") => `(tactic| (k_here; (with_reducible show wpAny _ _ (eval (Expr.Name _ _) (compEnvC _ _ _ _)) _ _ _); k_dflt (first | refine ld_ns (by with_reducible assumption) (by with_reducible assumption) ?_ | refine ld_cell (by k_asm) (by rfl) (by k_mem) (by with_reducible assumption) ?_)))
local macro_rules | `(tactic| walk_at "call ref") => `(tactic| (k_here; (with_reducible show wpAny _ _ (call (Value.ref 90) _) _ _ _); k_dflt (refine' source_N ?k1 ?k2 ?k3 ?k4 ?k5 ?k6 ?k7 ?k8 ?k9 ?_; (case k1 => with_reducible assumption); (case k2 => k_asm); (case k3 => k_asm); (case k4 => rfl); (case k5 => k_room); (case k6 => exact News.isList (by k_asm) (by k_mem)); (case k7 => exact BlocksIn.at (by with_reducible assumption) (by k_asm) (fun p hp => by repeat (first | exact hp | refine List.Mem.tail _ ?_))); (case k8 => with_reducible assumption); (case k9 => with_reducible assumption)); intro l' vl' e' h' tk' F' N' ne' kp' hs' sz'; (simp only [AllNeN] at ne'); (try k_sweep)))
local macro_rules | `(tactic| walk_at "call ref") => `(tactic| (k_here; (with_reducible show wpAny _ _ (call (Value.ref 83) _) _ _ _); k_dflt (refine' out_N ?k1 ?k2 ?k3 ?k4 ?k5 ?k6 ?k7 ?k8 ?k9 ?k10 ?k11 ?_; (case k1 => with_reducible assumption); (case k2 => k_asm); (case k3 => k_asm); (case k4 => rfl); (case k5 => k_room); (case k6 => exact News.isList (by k_asm) (by k_mem)); (case k7 => exact BlocksIn.at (by with_reducible assumption) (by k_asm) (fun p hp => by repeat (first | exact hp | refine List.Mem.tail _ ?_))); (case k8 => with_reducible assumption); (case k9 => with_reducible assumption); (case k10 => k_tabat); (case k11 => with_reducible assumption)); intro l' vl' e' h' tk' F' N' ne' kp' hs' sz'; (simp only [AllNeN] at ne'); (try k_sweep)))
local macro_rules | `(tactic| walk_at "eval ListComp") => `(tactic| refine Stop.out ?_)
local macro_rules | `(tactic| walk_at "CompSrc") => `(tactic| refine Stop.out ?_)
local macro_rules | `(tactic| walk_at "subscriptTail Name Name ref int") => `(tactic| (k_here; (with_reducible show wpAny _ _ (subscriptTail _ _ (Value.ref _) (Value.int _ _)) _ _ _); k_dflt (refine' item_lines 60 ?k1 ?k2 ?k3 ?k4 ?k5 ?k6 ?k7 ?_; (case k1 => k_asm); (case k2 => k_mem); (case k3 => with_reducible assumption); (case k4 => with_reducible assumption); (case k5 => omega); (case k6 => omega); (case k7 => omega)); intro t' hlen'))
local macro_rules | `(tactic| walk_at "subscriptTail Name BinOp ref int") => `(tactic| (k_here; ktb_letter; k_dflt (refine' item_menu 2 ?ktbl ?ktbw ?ktbB ?ktb0 ?ktb1 ?ktbf ?_; (case ktbl => ktb_isTup); (case ktbw => repeat constructor); (case ktbB => decide +kernel); (case ktb0 => ktb_idx); (case ktb1 => ktb_idx); (case ktbf => ktb_idx)); intro _ ktbLt))
local macro_rules | `(tactic| walk_at "call builtin:len") => `(tactic| (k_here; (with_reducible show wpAny _ _ (call (Value.builtin "len") [Value.ref _]) _ _ _); k_dflt (refine' len_N ?k1 ?k2 ?k3 ?_; (case k1 => k_asm); (case k2 => k_mem); (case k3 => omega)); intro tl' tkl'))
local macro_rules | `(tactic| walk_at "call builtin:str.join") => `(tactic| (k_here; (with_reducible show wpAny _ _ (call (Value.builtin "str.join") [Value.str _ _, Value.ref _]) _ _ _); k_dflt (refine' join_N ?k1 ?k2 ?k3 ?k4 ?k5 ?k6 ?_; (case k1 => k_asm); (case k2 => k_mem); (case k3 => first | assumption | (rw [Array.toList_append]; exact StrsAre.append' (by assumption) (.cons _ _ .nil))); (case k4 => decide); (case k5 => assumption); (case k6 => assumption)); intro tj' kj'))
local macro_rules | `(tactic| walk_at "binaryOp Add ref ref") => `(tactic| (k_here; k_dflt (refine' add_N ?k1 ?k2 ?k3 ?k4 ?k5 ?_; (case k1 => k_asm); (case k2 => k_asm); (case k3 => k_mem); (case k4 => k_mem); (case k5 => (simp only [List.size_toArray, PySem.sizeLine_eq, List.length_cons, List.length_nil]; omega))); intro D' h' F' N' l1; (try k_lt l1); (try k_sweep)))
local macro_rules | `(tactic| walk_at "call ref") => `(tactic| (k_here; (with_reducible show wpAny _ _ (call (Value.ref 54) _) _ _ _); k_dflt (refine' inj_N ?k1 ?k2 ?k3 ?k4 ?k5 ?k6 ?k7 ?k8 ?_; (case k1 => with_reducible assumption); (case k2 => k_asm); (case k3 => k_asm); (case k4 => rfl); (case k5 => k_room); (case k6 => (simp only [Around.deeper_units]; decide)); (case k7 => k_tabat); (case k8 => assumption)); intro t' h' tk' F' N'; (try k_sweep)))
local macro_rules | `(tactic| walk_at "call type:dict") => `(tactic| (k_here; (with_reducible show wpAny _ _ (call (Value.type "dict") [Value.ref _]) _ _ _); k_dflt (refine kt_dict_K (knd := PySem.strKind _ _) (enc := PyData.str) (by k_asm) (by k_asm) (Top.nolimit (by k_asm)) (by k_tabat) (saidD_len _) ?_); intro d' h' o' kvs' F' N' l1 lo' hd' hf'; (try k_lt l1)))
local macro_rules | `(tactic| walk_at "compareOp NotEq str str") => `(tactic| (k_here; k_dflt (refine ne_same rfl ?_)))
local macro_rules | `(tactic| walk_at "compareOp Eq str str") => `(tactic| (k_here; k_dflt (refine eq_same rfl ?_)))
local macro_rules | `(tactic| walk_at "subscriptTail") => `(tactic| (k_here; (with_reducible show wpAny _ _ (subscriptTail _ _ (Value.ref _) (Value.str _ _)) _ _ _); k_dflt (refine' item_tabN ?k1 ?k2 ?_; (case k1 => k_tabat); (case k2 => first | exact said_a _ | exact said_bb _ | exact said_c _ | exact said_e _)); intro tq' tkq'))
theorem law_holds : PySem.Challenge.rw_ep5035_01.Holds := hd (by
  k_go0
  refine wpAny_noRaise ?_
  rename_i W0 s₀ s₁ mg mb G Y fa _ _ _ _ _ KX X V GL T B TE TW _ _ MM _ _ hcd ns hsh _ _ _ _ _ _ scr vs _ hscr _ _ _ hints _ hlen _ K0 hD h₁ tk₁ F₀ stepc turnc linesc firstc dstep dturn dlines dfirst N0 X0
  have hMod : Mod W0 (ExcName.means s₀.heap) mg mb s₁.heap := ⟨KX, T⟩
  k_steps
  unfold Stop
  refine intAt_use (ns.getD 0 0) ?_ ?_
  · k_steps
    · exact ⟨_, _, rfl, rfl⟩
    · exact ⟨_, _, congrArg (fun z => Value.int z _) (getD_nil (by omega)), rfl⟩
  intro tf tkf
  k_steps
  unfold Stop
  rename_i fcell dcell lw _ llw Dw _ lDw bl _ lbl _ F₁ N₁
  refine for_range (L := s₁.heap.objs.size) (h₀ := s₁.heap) rfl (a := 1) (b := if 17 < (ns.length : Int) then 17 else (ns.length : Int)) (c := 2) ((min ns.length 17) / 2) rfl ?sm ?rs
    (LJ ns scr bl [(s₁.heap.objs.size + 1 + 1 + 1 + 1, stepc), (s₁.heap.objs.size + 1 + 1 + 1, turnc), (s₁.heap.objs.size + 1 + 1, linesc), (s₁.heap.objs.size + 1, fcell)]) ?hi ?step ?hR (fun _ => rfl) (by intro e s h; exact h.elim)
  case sm => exact law_small ns.length
  case rs => exact law_size ns.length
  case hi =>
    k_steps
    have F' := ‹Fr s₁.heap s₁.heap.objs.size _ _›
    obtain ⟨news, N, J⟩ := LJ_init (ns := ns) (scr := scr) (cells := [_, _, _, _]) ‹News s₁.heap s₁.heap.objs.size _ _› F' rfl rfl lbl.1 lbl.2.1 (by simp only [AllLt, and_true]; exact lDw.2) (by simp only [AllLt, and_true]; exact llw)
    exact ⟨_, _, _, _, rfl, by assumption, _, _, _, _, rfl, F', N, J⟩
  case step =>
    rintro i t m₁ news₁ h₂ tk₂ I oI hi ⟨arr, e, rest, rfl, m1, m2, hbs, hr1, hr2⟩ hoff F₂ N₂
    obtain ⟨u, rfl⟩ := frame_law m1 m2
    clear m1 m2
    have hi1 : 1 + 2 * i < ns.length := by omega
    have hr3 : ∀ c ∈ [(s₁.heap.objs.size + 1 + 1 + 1 + 1, stepc), (s₁.heap.objs.size + 1 + 1 + 1, turnc), (s₁.heap.objs.size + 1 + 1, linesc), (s₁.heap.objs.size + 1, fcell)], ∀ p ∈ rest, p.1 ≠ c.1 := hr2
    have hsz : arr.size ≤ 16 := by
      have h1 := hbs.len
      unfold blocksOf at h1
      simp only [Array.length_toList, List.length_cons, List.length_map, List.length_range] at h1
      omega
    have hbI : @Ne Nat bl I := hoff _ (.head _)
    simp only [List.cons_append, List.nil_append] at N₂
    dsimp only
    k_steps
    unfold Stop
    refine intAt_use (ns.getD (2 + 2 * i) 0) ?_ ?_
    · k_steps
      · have e2 : (1 + (i : Int) * 2 + 1).toNat = 2 + 2 * i := by omega
        exact ⟨_, _, congrArg (fun z => Value.int (ns.getD z 0) _) e2, rfl⟩
      · refine ⟨_, _, congrArg (fun z => Value.int z _) ?_, rfl⟩
        rw [List.getD_eq_getElem?_getD, List.getElem?_eq_none (by omega)]
        rfl
    intro ty tky
    k_steps
    have ek : (1 + (i : Int) * 2).toNat = 1 + 2 * i := by omega
    refine LJ_next (b := blockS (ns.getD (1 + (i : Int) * 2).toNat 0) (ns.getD (2 + 2 * i) 0)) (cells := [_, _, _, _]) (by assumption) (by assumption) (by k_mem) (by k_mem) (by k_mem) (by k_mem) ?_ (by rw [ek]) (by assumption) (by assumption) rfl rfl hbs hr1 hr2 hoff (by assumption) (by assumption)
    intro p hp
    refine ‹News s₁.heap s₁.heap.objs.size _ _› |> fun N => ?_
    exact .tail _ (.tail _ (.tail _ (.tail _ hp)))
  case hR =>
    rintro h₂ tk₂ m₂ news₂ F₂ N₂ ⟨arr, e, rest, rfl, m1, m2, hbs, hr1, hr2⟩
    obtain ⟨u, rfl⟩ := frame_law m1 m2
    clear m1 m2 F₁ N₁
    obtain ⟨vb, rfl⟩ : ∃ vb : List Value, arr = vb.toArray := ⟨arr.toList, by simp⟩
    have hbs : BlocksIn rest vb (blocksOf ns (min ns.length 17 / 2)) := hbs
    have hblk := blocks_are ns (min ns.length 17 / 2)
    have hbok : ∀ b ∈ blocksOf ns (min ns.length 17 / 2), BlockOk b := fun b hb => ok_of_is (hblk b hb)
    have hbn9 : (blocksOf ns (min ns.length 17 / 2)).length ≤ 9 := by
      unfold blocksOf
      simp only [List.length_cons, List.length_map, List.length_range]
      omega
    have hbn : (blocksOf ns (min ns.length 17 / 2)).length ≤ 20 := by
      unfold blocksOf
      simp only [List.length_cons, List.length_map, List.length_range]
      omega
    have hsdok : DOk (saidD (ns.getD 0 0)) := dok_of (good_said _)
    have hq4 : ∀ p ∈ rest, p.1 ≠ s₁.heap.objs.size + 1 + 1 + 1 + 1 := hr2 (_, stepc) (.head _)
    have hq3 : ∀ p ∈ rest, p.1 ≠ s₁.heap.objs.size + 1 + 1 + 1 := hr2 (_, turnc) (.tail _ (.head _))
    have hq2 : ∀ p ∈ rest, p.1 ≠ s₁.heap.objs.size + 1 + 1 := hr2 (_, linesc) (.tail _ (.tail _ (.head _)))
    simp only [List.cons_append, List.nil_append] at N₂
    dsimp only
    k_steps
    unfold Stop
    have F₃ := ‹Fr s₁.heap s₁.heap.objs.size _ _›
    have N₃ := ‹News s₁.heap s₁.heap.objs.size _ _›
    refine' Assign_DictComp_R (h₀ := s₁.heap) (L := s₁.heap.objs.size) 4 4 saidK (saidV (ns.getD 0 0)) F₃ N₃ rfl T.nolimit ?sw rfl rfl rfl ?cl ?ce rfl ?na rfl (by decide) (by decide) (by decide) ?it ?key ?val ?fin (fun _ => rfl)
    case sw => with_unfolding_all rfl
    case cl => with_unfolding_all rfl
    case ce => decide
    case na => decide
    case it =>
      k_steps
      exact ⟨_, _, _, _, rfl, by assumption, _, _, rfl, by assumption, by assumption⟩
    case key =>
      intro C k t s₃ E' m₂ hk0 hk1 hns hmx F N
      clear F₃ N₃ F₂ N₂
      k_steps
      all_goals (
        rename_i kE _
        refine ⟨_, _, congrArg (fun z => Value.str z _) ?_, rfl⟩
        unfold saidK
        rw [kE]
        rfl)
    case val =>
      intro C k t s₃ E' m₂ hk0 hk1 hns hmx F N
      clear F₃ N₃ F₂ N₂
      k_steps
      all_goals (
        rename_i kE _
        refine ⟨_, _, congrArg (fun z => Value.str z _) ?_, rfl⟩
        unfold saidV
        rw [kE]
        rfl)
    case fin =>
      intro sd o kvs h₃ tk₃ F₄ N₄ nsd lo hdict hflat
      rw [saidD_eq] at hflat
      simp only [AllNeN] at nsd
      clear F₃ N₃ F₂ N₂
      k_steps
      unfold Stop
      rename_i ln vl el _ _ nln _ hvl zvl _ fL dL tk4 _ _ _ _ _ fT dT _ fS _ dS _
      have F₅ := ‹Fr s₁.heap s₁.heap.objs.size _ _›
      have N₅ := ‹News s₁.heap s₁.heap.objs.size _ _›
      refine' LCg.ListComp_U (F₀ := F₅) ?cl2 ?ce2 ?ki2 ?na2 ?hx2 ?it2 (fun _ => rfl)
      case cl2 => with_unfolding_all rfl
      case ce2 => decide
      case ki2 => rfl
      case na2 => decide
      case hx2 => rfl
      case it2 =>
        k_steps
        unfold Stop
        have F₆ := ‹Fr s₁.heap s₁.heap.objs.size _ _›
        have N₆ := ‹News s₁.heap s₁.heap.objs.size _ _›
        have hsm : ∀ x ∈ outS [] (blocksOf ns (min ns.length 17 / 2)) ++ [END], x.length ≤ 60 := out_small hbok ⟨fun x y e => nomatch e⟩
        refine LCg.CompSrc.range (n := vl.length) rfl F₆ N₆ (by assumption) (small_one (by omega) (by omega) (by omega) (by omega)) (by rw [rangeSize_nat]; omega) (by rw [PySem.sizeLine_eq]; omega) ?_
        intro g'
        refine kct_range (docLine (outS [] (blocksOf ns (min ns.length 17 / 2)) ++ [END]) (Int.fdiv (ns.getD 0 0) 3) (Int.fmod (Int.fdiv (ns.getD 0 0) 21) 2)) ?turn ?fin2
        case turn =>
          intro k t I oI C oC D m₂ ys h tk E' hlo hhi hC hx F N off ne mk
          clear F₆ N₆
          k_steps
          exact LCg.CompEnd.intro F N _ (fun p hp => hp) off trivial ⟨rfl, _, rfl⟩
        case fin2 =>
          clear F₆ N₆
          unfold KPfDone
          intro ys hc hl D h tk F N o1
          have hys := carried_strs (gs := (rangeKs 0 vl.length).map (docLine (outS [] (blocksOf ns (min ns.length 17 / 2)) ++ [END]) (Int.fdiv (ns.getD 0 0) 3) (Int.fmod (Int.fdiv (ns.getD 0 0) 21) 2))) (by rw [List.map_map]; exact hc)
          simp only [LCg.Off1] at o1
          have hvn : vl.length = (outS [] (blocksOf ns (min ns.length 17 / 2)) ++ [END]).length := hvl.len_eq
          have hgB : ∀ y ∈ (rangeKs 0 vl.length).map (docLine (outS [] (blocksOf ns (min ns.length 17 / 2)) ++ [END]) (Int.fdiv (ns.getD 0 0) 3) (Int.fmod (Int.fdiv (ns.getD 0 0) 21) 2)), y.length ≤ 100 := by
            intro y hy
            obtain ⟨k, _, rfl⟩ := List.mem_map.mp hy
            exact docLine_small hsm
          have hgL : ((rangeKs 0 vl.length).map (docLine (outS [] (blocksOf ns (min ns.length 17 / 2)) ++ [END]) (Int.fdiv (ns.getD 0 0) 3) (Int.fmod (Int.fdiv (ns.getD 0 0) 21) 2))).length ≤ 1000 := by
            rw [List.length_map, rangeKs_length]; omega
          have hWB : ∀ y ∈ outS (saidD (ns.getD 0 0)) (blocksOf ns (min ns.length 17 / 2)) ++ [END], y.length ≤ 100 := fun y hy => Nat.le_trans (out_small hbok hsdok y hy) (by decide)
          have hWL : (outS (saidD (ns.getD 0 0)) (blocksOf ns (min ns.length 17 / 2)) ++ [END]).length ≤ 1000 := by
            rw [List.length_append]
            have := outS_len (D := saidD (ns.getD 0 0)) hbok
            simp only [List.length_cons, List.length_nil]
            omega
          have hSB : ∀ y ∈ outS [] (blocksOf ns (min ns.length 17 / 2)) ++ [END], y.length ≤ 100 := fun y hy => Nat.le_trans (hsm y hy) (by decide)
          have hSL : (outS [] (blocksOf ns (min ns.length 17 / 2)) ++ [END]).length ≤ 1000 := by omega
          have hdoc := law_doc hblk hbn9 (Int.fdiv (ns.getD 0 0) 3) (Int.fmod (Int.fdiv (ns.getD 0 0) 21) 2) (doc := (Txt.join (Str.ofString "") ((rangeKs 0 vl.length).map (docLine (outS [] (blocksOf ns (min ns.length 17 / 2)) ++ [END]) (Int.fdiv (ns.getD 0 0) 3) (Int.fmod (Int.fdiv (ns.getD 0 0) 21) 2))))) (by rw [hvn]; rfl)
          have I1 : InjFact (saidD (ns.getD 0 0)) (Txt.join (Str.ofString "") ((rangeKs 0 vl.length).map (docLine (outS [] (blocksOf ns (min ns.length 17 / 2)) ++ [END]) (Int.fdiv (ns.getD 0 0) 3) (Int.fmod (Int.fdiv (ns.getD 0 0) 21) 2)))) (outS (saidD (ns.getD 0 0)) (blocksOf ns (min ns.length 17 / 2)) ++ [END]) := inj_fact good_nil (good_said _) (good_said _) (two_nil _) hblk hbn9 hdoc.1 hdoc.2
          have I2 : InjFact [] (Txt.join (Str.ofString "") ((rangeKs 0 vl.length).map (docLine (outS [] (blocksOf ns (min ns.length 17 / 2)) ++ [END]) (Int.fdiv (ns.getD 0 0) 3) (Int.fmod (Int.fdiv (ns.getD 0 0) 21) 2)))) (outS [] (blocksOf ns (min ns.length 17 / 2)) ++ [END]) := inj_fact good_nil good_nil good_nil (two_nil _) hblk hbn9 hdoc.1 hdoc.2
          have I3 : InjFact noD (Txt.join (Str.ofString "") ((rangeKs 0 vl.length).map (docLine (outS [] (blocksOf ns (min ns.length 17 / 2)) ++ [END]) (Int.fdiv (ns.getD 0 0) 3) (Int.fmod (Int.fdiv (ns.getD 0 0) 21) 2)))) (outS [] (blocksOf ns (min ns.length 17 / 2)) ++ [END]) := inj_fact good_nil good_no good_nil two_no hblk hbn9 hdoc.1 hdoc.2
          have I4 : InjFact (leftD (ns.getD 0 0)) (Txt.join (Str.ofString "") ((rangeKs 0 vl.length).map (docLine (outS [] (blocksOf ns (min ns.length 17 / 2)) ++ [END]) (Int.fdiv (ns.getD 0 0) 3) (Int.fmod (Int.fdiv (ns.getD 0 0) 21) 2)))) (outS (leftD (ns.getD 0 0)) (blocksOf ns (min ns.length 17 / 2)) ++ [END]) := inj_fact good_nil (good_left _) (good_left _) (two_nil _) hblk hbn9 hdoc.1 hdoc.2
          have I5 : InjFact (rightD (ns.getD 0 0)) (Txt.join NL (outS (leftD (ns.getD 0 0)) (blocksOf ns (min ns.length 17 / 2)) ++ [END])) (outS (saidD (ns.getD 0 0)) (blocksOf ns (min ns.length 17 / 2)) ++ [END]) := inj_fact (good_left _) (good_right _) (good_said _) (two_lr _) hblk hbn9 (law_join (good_left _) hblk hbn9).1 (law_join (good_left _) hblk hbn9).2
          have I6 : InjFact (rightD (ns.getD 0 0)) (Txt.join (Str.ofString "") ((rangeKs 0 vl.length).map (docLine (outS [] (blocksOf ns (min ns.length 17 / 2)) ++ [END]) (Int.fdiv (ns.getD 0 0) 3) (Int.fmod (Int.fdiv (ns.getD 0 0) 21) 2)))) (outS (rightD (ns.getD 0 0)) (blocksOf ns (min ns.length 17 / 2)) ++ [END]) := inj_fact good_nil (good_right _) (good_right _) (two_nil _) hblk hbn9 hdoc.1 hdoc.2
          have I7 : InjFact (leftD (ns.getD 0 0)) (Txt.join NL (outS (rightD (ns.getD 0 0)) (blocksOf ns (min ns.length 17 / 2)) ++ [END])) (outS (saidD (ns.getD 0 0)) (blocksOf ns (min ns.length 17 / 2)) ++ [END]) := inj_fact (good_right _) (good_left _) (good_said _) (two_rl _) hblk hbn9 (law_join (good_right _) hblk hbn9).1 (law_join (good_right _) hblk hbn9).2
          dsimp only
          k_steps)
end Mine
end
theorem PySem.Challenge.cw_ep5035_01_holds : PySem.Challenge.rw_ep5035_01.Holds :=
  Mine.law_holds
