import PyProof.Rows.All
import Wide.All
import OpenK.AllK
import Wide.FinOn
import Lean
import PySem.Challenge.RW_vs0022_03
set_option Elab.async false
namespace Mine
section -- Head03
open PySem PySem.W PyProof.Rows
set_option maxRecDepth 100000
set_option maxHeartbeats 8000000
open_top hd for PySem.Challenge.rw_vs0022_03

end
section -- Deq
open PySem PySem.W PyProof.Rows PySem.Calls
set_option maxRecDepth 100000
set_option maxHeartbeats 4000000
theorem owner_dq : Manifest.owners.lookup (String.ofList "collections.deque".toList.reverse.reverse) = some Manifest.sig_collections_deque := by kernel_rfl
theorem mro_dq : mroOf (.type "collections.deque") = pure [.type "collections.deque", .type "object"] := by rw [mroOf_type]; kernel_rfl
theorem lookup_dq_new : typeLookup (.type "collections.deque") "__new__" = pure (some (.builtin "collections.deque.__new__")) := by rw [typeLookup_type, builtinLookup_eq_fast]; kernel_rfl
theorem slot_dq_init : Slot "collections.deque" "__init__" "collections.deque.__init__" :=
  .of (owner := "collections.deque") (n := "__init__") (by rw [typeLookup_type, builtinLookup_eq_fast]; kernel_rfl) (by decide +kernel) (by decide +kernel) (by decide +kernel)
    (by first | exact .inl (by decide +kernel) | exact .inr (by decide +kernel)) (by rw [isSubtype_type]; kernel_rfl)
theorem sub_dq : isSubtype (.type "collections.deque") (.type "collections.deque") = pure true := by rw [isSubtype_type]; kernel_rfl
theorem called_dq : TypeCalled "collections.deque" "collections.deque.__new__" "collections.deque.__init__" :=
  ⟨by decide +kernel, by decide +kernel, ⟨_, _, mro_dq⟩, madeBy_type mro_dq lookup_dq_new (by decide +kernel), by decide +kernel, sub_dq, slot_dq_init⟩
theorem typeCall_dq_0 : checkTypeCall "collections.deque" ⟨[], []⟩ = pure () := by kernel_rfl
theorem newCall_dq_0 : checkBuiltinCall "collections.deque.__new__" ⟨[.type "collections.deque"], []⟩ = pure () := by kernel_rfl
theorem entry_dq_new : entryFor table "collections.deque.__new__" = some Builtin.«collections.deque.__new__» := entryFor_of_tree (by kernel_rfl)
theorem entry_dq_init : entryFor table "collections.deque.__init__" = some Builtin.«collections.deque.__init__» := entryFor_of_tree (by kernel_rfl)
theorem args_dq_init_1 (a : Value) : argsOk "collections.deque.__init__" ⟨[a], []⟩ := by
  unfold argsOk; rw [signature?_of (id := "collections.deque.__init__") (n := "__init__".toList.reverse) (o := "collections.deque".toList.reverse) (by kernel_rfl) owner_dq]; kernel_rfl
theorem plainAttrs_dq : PlainAttrs "collections.deque" :=
  ⟨⟨"collections.deque.__getattribute__", by rw [typeLookup_type, builtinLookup_eq_fast]; kernel_rfl, by decide +kernel⟩, by rw [typeLookup_type, builtinLookup_eq_fast]; kernel_rfl⟩
theorem slot_dq_append : Slot "collections.deque" "append" "collections.deque.append" :=
  .of (owner := "collections.deque") (n := "append") (by rw [typeLookup_type, builtinLookup_eq_fast]; kernel_rfl) (by decide +kernel) (by decide +kernel) (by decide +kernel)
    (by first | exact .inl (by decide +kernel) | exact .inr (by decide +kernel)) (by rw [isSubtype_type]; kernel_rfl)
theorem slot_dq_popleft : Slot "collections.deque" "popleft" "collections.deque.popleft" :=
  .of (owner := "collections.deque") (n := "popleft") (by rw [typeLookup_type, builtinLookup_eq_fast]; kernel_rfl) (by decide +kernel) (by decide +kernel) (by decide +kernel)
    (by first | exact .inl (by decide +kernel) | exact .inr (by decide +kernel)) (by rw [isSubtype_type]; kernel_rfl)
theorem slot_dq_len : Slot "collections.deque" "__len__" "collections.deque.__len__" :=
  .of (owner := "collections.deque") (n := "__len__") (by rw [typeLookup_type, builtinLookup_eq_fast]; kernel_rfl) (by decide +kernel) (by decide +kernel) (by decide +kernel)
    (by first | exact .inl (by decide +kernel) | exact .inr (by decide +kernel)) (by rw [isSubtype_type]; kernel_rfl)
theorem nobool_dq : typeLookup (.type "collections.deque") "__bool__" = pure none := by rw [typeLookup_type, builtinLookup_eq_fast]; kernel_rfl
theorem type_dq_append : typeOf (.builtin "collections.deque.append") = pure (.type "method_descriptor") := by show builtinType _ = _; rw [builtinType_eq_fast]; kernel_rfl
theorem type_dq_popleft : typeOf (.builtin "collections.deque.popleft") = pure (.type "method_descriptor") := by show builtinType _ = _; rw [builtinType_eq_fast]; kernel_rfl
theorem entry_dq_append : entryFor table "collections.deque.append" = some Builtin.«collections.deque.append» := entryFor_of_tree (by kernel_rfl)
theorem entry_dq_popleft : entryFor table "collections.deque.popleft" = some Builtin.«collections.deque.popleft» := entryFor_of_tree (by kernel_rfl)
theorem entry_dq_len : entryFor table "collections.deque.__len__" = some Builtin.«collections.deque.__len__» := entryFor_of_tree (by kernel_rfl)
theorem args_dq_append_2 (a b : Value) : argsOk "collections.deque.append" ⟨[a, b], []⟩ := by
  unfold argsOk; rw [signature?_of (id := "collections.deque.append") (n := "append".toList.reverse) (o := "collections.deque".toList.reverse) (by kernel_rfl) owner_dq]; kernel_rfl
theorem args_dq_popleft_1 (a : Value) : argsOk "collections.deque.popleft" ⟨[a], []⟩ := by
  unfold argsOk; rw [signature?_of (id := "collections.deque.popleft") (n := "popleft".toList.reverse) (o := "collections.deque".toList.reverse) (by kernel_rfl) owner_dq]; kernel_rfl
theorem args_dq_len_1 (a : Value) : argsOk "collections.deque.__len__" ⟨[a], []⟩ := by
  unfold argsOk; rw [signature?_of (id := "collections.deque.__len__") (n := "__len__".toList.reverse) (o := "collections.deque".toList.reverse) (by kernel_rfl) owner_dq]; kernel_rfl

/-- a deque of these items -/
@[reducible] def dqObj (st : Int) (xs : List Value) : Obj := { cls := .type "collections.deque", data := .fields (.none :: .int st 0 :: xs).toArray }

section
variable {prog : Program} {w : World} {A : Around} {E : Value → Shared → Prop} {s : Shared} {h₀ : Heap} {L q : Addr} {m : Str → Option Value} {news : List (Addr × Obj)} {st : Int} {xs : List Value}

theorem dq_items {M : Model} {Q : Array Value → Shared → Prop} (hq : s.heap.get? q = some (dqObj st xs)) (h : Q xs.toArray s) : wpAny M A (Builtin.Deque.items (.ref q)) Q E s := by
  unfold Builtin.Deque.items
  refine wpAny_bind (wpAny_fieldsOf hq rfl (wpAny_pure ?_))
  have : ((Value.none :: Value.int st 0 :: xs).toArray.extract 2 (Value.none :: Value.int st 0 :: xs).toArray.size) = xs.toArray := by
    apply Array.ext'; simp
  rw [this]; exact h
theorem dq_state {M : Model} {Q : Int → Shared → Prop} (hq : s.heap.get? q = some (dqObj st xs)) (h : Q st s) : wpAny M A (Builtin.Deque.state (.ref q)) Q E s := by
  unfold Builtin.Deque.state
  refine wpAny_bind (wpAny_field hq rfl (x := .int st 0) (by simp) (wpAny_pure h))
theorem dq_maxlen {M : Model} {Q : Option Nat → Shared → Prop} (hq : s.heap.get? q = some (dqObj st xs)) (h : Q none s) : wpAny M A (Builtin.Deque.maxlen (.ref q)) Q E s := by
  unfold Builtin.Deque.maxlen
  refine wpAny_bind (wpAny_field hq rfl (x := .none) (by simp) (wpAny_pure h))
theorem dq_change {M : Model} {f : Array Value → Array Value} {ys : List Value} {Q : Unit → Shared → Prop} (hq : s.heap.get? q = some (dqObj st xs)) (hf : f xs.toArray = ys.toArray) (hz : ys.length ≤ 16777216)
    (h : ∀ h', h'.get? q = some (dqObj (st + 1) ys) → Heap.SameBut q s.heap h' → Q () { s with heap := h' }) : wpAny M A (Builtin.Deque.change (.ref q) f true) Q E s := by
  unfold Builtin.Deque.change
  refine wpAny_bind (dq_state hq ?_)
  have e : (fun vs : Array Value => #[vs.getD 0 .none, rawInt (if true = true then st + 1 else st)] ++ f (vs.extract 2 vs.size)) (Value.none :: Value.int st 0 :: xs).toArray = (Value.none :: Value.int (st + 1) 0 :: ys).toArray := by
    have e2 : ((Value.none :: Value.int st 0 :: xs).toArray.extract 2 (Value.none :: Value.int st 0 :: xs).toArray.size) = xs.toArray := by
      apply Array.ext'; simp
    dsimp only
    rw [e2, hf]
    apply Array.ext'
    simp [rawInt]
  refine wpAny_updateFields hq rfl (h _ ?_ (Heap.SameBut.update ..)) ?_
  · have := Heap.get?_update_self (Obj.mapFields (fun vs : Array Value => #[vs.getD 0 .none, rawInt (if true = true then st + 1 else st)] ++ f (vs.extract 2 vs.size))) hq rfl
    rw [this]
    show some (Obj.mk _ _ (Data.fields _) _) = _
    rw [e]
  · have e3 := congrArg Array.size e
    dsimp only at e3
    rw [e3, sizeLine_eq]
    simp
    omega

theorem dq_type {s : Shared} (hq : s.heap.get? q = some (dqObj st xs)) : s.TypeIs (.ref q) "collections.deque" := ⟨_, hq, rfl⟩

theorem dq_append {v : Value} {Q : Value → Shared → Prop} (hq : s.heap.get? q = some (dqObj st xs)) (hz : xs.length + 1 ≤ 16777216)
    (h : ∀ h', h'.get? q = some (dqObj (st + 1) (xs ++ [v])) → Heap.SameBut q s.heap h' → Q .none { s with heap := h' }) : wpAny (model prog w) A (call (.builtin "collections.deque.append") [.ref q, v]) Q E s := by
  refine call_meetsIn (S := fun A R s' => s' = s ∧ R = wants Q E) slot_dq_append (dq_type hq) entry_dq_append (args_dq_append_2 _ _) (.of_wp fun A R s' hs => ?_) ⟨rfl, rfl⟩
  obtain ⟨rfl, rfl⟩ := hs
  unfold Builtin.«collections.deque.append»
  refine wpAny_bind (m := selfAndOne "deque.append" _) (wpAny_pure ?_)
  dsimp only
  unfold Builtin.Deque.pushRight
  refine wpAny_bind (wpAny_bind (dq_change (ys := xs ++ [v]) hq (by simp) (by simp; omega) fun h' h1 h2 => ?_))
  exact wpAny_bind (dq_maxlen h1 (wpAny_pure (wpAny_pure ⟨_, rfl, h h' h1 h2⟩)))

theorem dq_popleft {v : Value} {Q : Value → Shared → Prop} (hq : s.heap.get? q = some (dqObj st (v :: xs))) (hz : xs.length ≤ 16777216)
    (h : ∀ h', h'.get? q = some (dqObj (st + 1) xs) → Heap.SameBut q s.heap h' → Q v { s with heap := h' }) : wpAny (model prog w) A (call (.builtin "collections.deque.popleft") [.ref q]) Q E s := by
  refine call_meetsIn (S := fun A R s' => s' = s ∧ R = wants Q E) slot_dq_popleft (dq_type hq) entry_dq_popleft (args_dq_popleft_1 _) (.of_wp fun A R s' hs => ?_) ⟨rfl, rfl⟩
  obtain ⟨rfl, rfl⟩ := hs
  unfold Builtin.«collections.deque.popleft»
  refine wpAny_bind (m := selfOnly "deque.popleft" _) (wpAny_pure ?_)
  refine wpAny_bind (dq_items hq ?_)
  refine wpAny_bind (dq_change (ys := xs) hq (by simp [Array.eraseIdxIfInBounds]) hz fun h' h1 h2 => ?_)
  exact wpAny_pure ⟨_, rfl, h h' h1 h2⟩

theorem dq_len_body {Q : Value → Shared → Prop} (hq : s.heap.get? q = some (dqObj st xs)) (hfit : (xs.length : Int) < 2 ^ 63)
    (h : Q (.int xs.length (s.toks + 1)) { s with toks := s.toks + 1 + 1 }) : wpAny (model prog w) A (Builtin.«len» ⟨[.ref q], []⟩) (fun fin s' => ∃ r, fin = .done (.ret r) ∧ Q r s') E s := by
  unfold Builtin.«len»
  refine wpAny_bind (m := oneArg "len" _) (wpAny_pure ?_)
  refine wpAny_bind (m := callSpecial? (.ref q) (Str.ofString "__len__")) (wpAny_callSpecial?_slot (name := Str.ofString "__len__") (dq_type hq) slot_dq_len
    (call_meetsIn (S := fun A R s' => s' = s ∧ R (.ok (.ret (.int xs.length s.toks))) { s with toks := s.toks + 1 }) slot_dq_len (dq_type hq) entry_dq_len (args_dq_len_1 _) (.of_wp fun A R s' hs => ?_) ⟨rfl, ?_⟩))
  · obtain ⟨rfl, hr⟩ := hs
    unfold Builtin.«collections.deque.__len__»
    refine wpAny_bind (m := slotArgs "__len__" 0 _) (wpAny_pure ?_)
    unfold Builtin.Deque.size
    refine wpAny_bind (wpAny_bind (wpAny_fieldsOf hq rfl (wpAny_pure ?_)))
    have e : (Value.none :: Value.int st 0 :: xs).toArray.size - 2 = xs.length := by simp
    rw [e]
    exact wpAny_bind (wpAny_mkInt (wpAny_pure ⟨_, rfl, hr⟩))
  show wpAny _ _ _ _ _ { s with toks := s.toks + 1 }
  refine wpAny_bind (wpAny_holding (wpAny_pure ?_))
  refine wpAny_bind (wpAny_letGo ?_)
  show wpAny _ _ (if ((xs.length : Nat) : Int) < 0 then _ else _) _ _ _
  rw [if_neg (by omega)]
  show wpAny _ _ (if ((xs.length : Nat) : Int) ≥ 2 ^ 63 then _ else _) _ _ _
  rw [if_neg (by omega)]
  exact wpAny_bind (wpAny_mkInt (wpAny_pure ⟨_, rfl, h⟩))

theorem dq_truthy {Q : Bool → Shared → Prop} (hq : s.heap.get? q = some (dqObj st xs)) (hz : xs.length ≤ 16777216)
    (h : Q (!xs.isEmpty) { s with toks := s.toks + 1 + 1 }) : wpAny (model prog w) A (truthy (.ref q)) Q E s := by
  have hne : ((xs.length : Int) != 0) = !xs.isEmpty := by cases xs <;> simp <;> omega
  have key : wpAny (model prog w) A (runValue (.builtin "len" ⟨[.ref q], []⟩)) (fun r s' => r = .int xs.length (s.toks + 1) ∧ Q (!xs.isEmpty) s') E s := by
    refine wpAny_runValue (codeAny_builtin entry_len ?_)
    rw [Around.under_plainId plain_len _]
    exact wpAny_mono (dq_len_body (Q := fun r s' => r = .int xs.length (s.toks + 1) ∧ Q (!xs.isEmpty) s') hq (by omega) ⟨rfl, h⟩)
      (fun fin s' h' => by obtain ⟨r, rfl, hq⟩ := h'; exact hq) fun _ _ e => e
  unfold truthy
  first
    | refine wpAny_bind (wpAny_callSpecial?_none (name := Str.ofString "__bool__") (dq_type hq) nobool_dq ?_)
    | refine wpAny_bind (wpAny_pure (wpAny_bind (wpAny_callSpecial?_none (name := Str.ofString "__bool__") (dq_type hq) nobool_dq ?_)))
  first
    | refine wpAny_bind (wpAny_specialOf (name := Str.ofString "__len__") (dq_type hq) slot_dq_len.lookup ?_)
    | refine wpAny_bind (wpAny_pure (wpAny_bind (wpAny_specialOf (name := Str.ofString "__len__") (dq_type hq) slot_dq_len.lookup ?_)))
  first
    | exact wpAny_bind (wpAny_mono key (fun r s' h' => by obtain ⟨rfl, hq⟩ := h'; exact wpAny_pure (hne ▸ hq)) fun _ _ e => e)
    | exact wpAny_bind (wpAny_pure (wpAny_bind (wpAny_mono key (fun r s' h' => by obtain ⟨rfl, hq⟩ := h'; exact wpAny_pure (hne ▸ hq)) fun _ _ e => e)))

theorem dq_truthy_nil {Q : Bool → Shared → Prop} (hq : s.heap.get? q = some (dqObj st [])) (h : Q false { s with toks := s.toks + 1 + 1 }) : wpAny (model prog w) A (truthy (.ref q)) Q E s := dq_truthy hq (by simp) h
theorem dq_truthy_cons {v : Value} {Q : Bool → Shared → Prop} (hq : s.heap.get? q = some (dqObj st (v :: xs))) (hz : xs.length ≤ 16777215) (h : Q true { s with toks := s.toks + 1 + 1 }) : wpAny (model prog w) A (truthy (.ref q)) Q E s :=
  dq_truthy hq (by simp only [List.length_cons]; omega) h

theorem dq_new0 {Q : Value → Shared → Prop}
    (h : ∀ h', h'.get? s.heap.objs.size = some (dqObj 0 []) → Heap.SameBut s.heap.objs.size (s.heap.push (dqObj 0 [])) h' → Q (.ref s.heap.objs.size) { s with heap := h' }) :
    wpAny (model prog w) A (call (.type "collections.deque") []) Q E s := by
  refine callType_meets (S := fun A R s' => s' = s ∧ R (.ok (.ret (.ref s.heap.objs.size))) { s with heap := s.heap.push (dqObj 0 []) })
    (Q₁ := fun obj s₁ => obj = .ref s.heap.objs.size ∧ s₁ = { s with heap := s.heap.push (dqObj 0 []) })
    called_dq typeCall_dq_0 newCall_dq_0 entry_dq_new entry_dq_init (Meets.of_wp fun prog w A R s' hs => ?_) ⟨rfl, rfl, rfl⟩ ?_
  · obtain ⟨rfl, hr⟩ := hs
    unfold Builtin.«collections.deque.__new__»
    have hsub := sub_dq
    unfold Builtin.Deque.newArgs Builtin.Deque.ty
    obtain ⟨hp, g, d, tk, os⟩ := s'
    dsimp only at hr ⊢
    wp_walk
    exact ⟨_, rfl, hr⟩
  · rintro obj s₁ ⟨rfl, rfl⟩
    refine ⟨⟨_, Heap.get?_push_size _ rfl, rfl⟩, args_dq_init_1 _, fun A R s' => s' = { s with heap := s.heap.push (dqObj 0 []) } ∧ R = wants (fun r s₂ => r = .none ∧ Q (.ref s.heap.objs.size) s₂) E, Meets.of_wp fun prog w A R s' hs => ?_, rfl, rfl⟩
    obtain ⟨rfl, rfl⟩ := hs
    unfold Builtin.«collections.deque.__init__»
    obtain ⟨hp, g, d, tk, os⟩ := s
    dsimp only
    wp_walk
    exact ⟨_, rfl, rfl, h _ (Heap.get?_update_self (Obj.mapFields fun x => x.setIfInBounds 0 Value.none) (Heap.get?_push_size (o := dqObj 0 []) _ rfl) rfl) (Heap.SameBut.update ..)⟩

/- over the ledger -/
theorem dq_new_N {Q : Value → Shared → Prop} (F : Fr h₀ L s.heap m) (N : News h₀ L s.heap news)
    (h : ∀ x h', Fr h₀ L h' m → News h₀ L h' ((x, dqObj 0 []) :: news) → (∀ p ∈ news, p.1 < x) → Q (.ref x) { s with heap := h' }) :
    wpAny (model prog w) A (call (.type "collections.deque") []) Q E s := by
  refine dq_new0 fun h' h1 h2 => ?_
  have F1 := F.push (dqObj 0 [])
  have N1 := N.push F (dqObj 0 [])
  have D := N1 _ (.head _)
  exact h _ _ (F1.change h2 D.2.1 D.2.2) (N1.setHead (fun p hp => Nat.ne_of_lt (Heap.lt_size (N p hp).1)) h2 h1) fun p hp => Heap.lt_size (N p hp).1
theorem dq_append_K {v : Value} {Q : Value → Shared → Prop} {news' : List (Addr × Obj)} (F : Fr h₀ L s.heap m) (N : News h₀ L s.heap news) (U : Upd q (dqObj st xs) (dqObj (st + 1) (xs ++ [v])) news news') (hz : xs.length + 1 ≤ 16777216)
    (h : ∀ h', Fr h₀ L h' m → News h₀ L h' news' → Q .none { s with heap := h' }) : wpAny (model prog w) A (call (.builtin "collections.deque.append") [.ref q, v]) Q E s := by
  obtain ⟨pre, post, rfl, rfl, a, b⟩ := U.split
  have D := N (q, dqObj st xs) (List.mem_append_right _ (.head _))
  exact dq_append D.1 hz fun h' h1 h2 => h h' (F.change h2 D.2.1 D.2.2) (N.setIn a b h2 h1)
theorem dq_popleft_K {v : Value} {Q : Value → Shared → Prop} {news' : List (Addr × Obj)} (F : Fr h₀ L s.heap m) (N : News h₀ L s.heap news) (U : Upd q (dqObj st (v :: xs)) (dqObj (st + 1) xs) news news') (hz : xs.length ≤ 16777216)
    (h : ∀ h', Fr h₀ L h' m → News h₀ L h' news' → Q v { s with heap := h' }) : wpAny (model prog w) A (call (.builtin "collections.deque.popleft") [.ref q]) Q E s := by
  obtain ⟨pre, post, rfl, rfl, a, b⟩ := U.split
  have D := N (q, dqObj st (v :: xs)) (List.mem_append_right _ (.head _))
  exact dq_popleft D.1 hz fun h' h1 h2 => h h' (F.change h2 D.2.1 D.2.2) (N.setIn a b h2 h1)
theorem dq_method_append {pl : Sem Bool} {Q : Value × List Value → Shared → Prop} (hq : s.heap.get? q = some (dqObj st xs)) (h : Q (.builtin "collections.deque.append", [.ref q]) s) :
    wpAny (model prog w) A (getMethod (.ref q) "append" pl) Q E s :=
  getMethod_builtin (dq_type hq) plainAttrs_dq slot_dq_append type_dq_append (fun a e => by cases e; exact ⟨_, hq, rfl⟩) h
theorem dq_method_popleft {pl : Sem Bool} {Q : Value × List Value → Shared → Prop} (hq : s.heap.get? q = some (dqObj st xs)) (h : Q (.builtin "collections.deque.popleft", [.ref q]) s) :
    wpAny (model prog w) A (getMethod (.ref q) "popleft" pl) Q E s :=
  getMethod_builtin (dq_type hq) plainAttrs_dq slot_dq_popleft type_dq_popleft (fun a e => by cases e; exact ⟨_, hq, rfl⟩) h
end

end
section -- Inc
set_option autoImplicit false

/-- a list without repeats within another is no longer -/
theorem nodup_len : ∀ (a ks : List Int), a.Nodup → (∀ v ∈ a, v ∈ ks) → a.length ≤ ks.length
  | [], _, _, _ => Nat.zero_le _
  | v :: r, ks, hn, hs => by
    have hv := hs v (.head _)
    rw [List.nodup_cons] at hn
    have := nodup_len r (ks.erase v) hn.2 (fun z hz => (List.mem_erase_of_ne (fun (e : z = v) => hn.1 (by rw [← e]; exact hz))).mpr (hs z (.tail _ hz)))
    rw [List.length_erase_of_mem hv] at this
    have hp : 0 < ks.length := List.length_pos_of_mem hv
    simp only [List.length_cons]
    omega

def upd (D : Int → Int) (v a : Int) : Int → Int := fun z => if z = v then a else D z
theorem upd_same (D : Int → Int) (v a : Int) : upd D v a v = a := by simp [upd]
theorem upd_ne {D : Int → Int} {v a z : Int} (h : z ≠ v) : upd D v a z = D z := by simp [upd, h]

def Feas (G : Int → List (Int × Int)) (p : Int → Int) : Prop := ∀ u v w, (v, w) ∈ G u → p v ≤ p u + w

structure IncPre (ks : List Int) (G : Int → List (Int × Int)) (D0 : Int → Int) (x y b : Int) : Prop where
  nd : ks.Nodup
  six : ks.length ≤ 6
  xin : x ∈ ks
  yin : y ∈ ks
  src : ∀ u v w, (v, w) ∈ G u → u ∈ ks ∧ v ∈ ks
  new : (y, b) ∈ G x
  tight : ∀ u, (G u).Pairwise fun e f => e.1 = f.1 → e.2 < f.2
  old : ∀ u v w, (v, w) ∈ G u → (u = x ∧ v = y ∧ w = b) ∨ D0 v ≤ D0 u + w

def FeasOld (G : Int → List (Int × Int)) (x y b : Int) (p : Int → Int) : Prop := ∀ u v w, (v, w) ∈ G u → (u = x ∧ v = y ∧ w = b) ∨ p v ≤ p u + w
theorem Feas.old {G : Int → List (Int × Int)} {x y b : Int} {p : Int → Int} (h : Feas G p) : FeasOld G x y b p := fun u v w e => .inr (h u v w e)

/-- what the check says -/
def IncPost (ks : List Int) (G : Int → List (Int × Int)) (D0 : Int → Int) (r : Bool) (D : Int → Int) : Prop :=
  if r = true then Feas G D ∧ (∀ v, D v ≤ D0 v) ∧ ∀ p, Feas G p → (∀ v ∈ ks, p v ≤ D0 v) → ∀ v ∈ ks, p v ≤ D v
  else ¬ ∃ p, Feas G p

section
variable (ks : List Int) (G : Int → List (Int × Int)) (D0 : Int → Int) (x y b : Int)

def Up (D : Int → Int) (v : Int) : Prop := ∀ p, FeasOld G x y b p → p v - p y ≤ D v - (D0 x + b)
def HasT (D : Int → Int) (v : Int) (k : Nat) : Prop :=
  v ∈ ks ∧ Up G D0 x y b D v ∧ ∃ t : List (Int × Int), (t.map (·.1)).Nodup ∧ k < t.length ∧ (v, D v) ∈ t ∧
    ∀ e ∈ t, e.1 ∈ ks ∧ D e.1 ≤ e.2 ∧ ∀ p, FeasOld G x y b p → p v - p e.1 ≤ D v - e.2

def slack (D : Int → Int) : List Int → Nat
  | [] => 0
  | v :: r => (D v - D0 v + (D0 y - (D0 x + b))).toNat + slack D r

structure LC (D : Int → Int) (q1 q2 : List Int) (i : Nat) (c : Int) (rest : List (Int × Int)) : Prop where
  low : ∀ v, D v ≤ D0 v
  dy : D y = D0 x + b
  less : D0 x + b < D0 y
  sat : ∀ u v w, (v, w) ∈ G u → u ∈ q1 ∨ u ∈ q2 ∨ (u = c ∧ (v, w) ∈ rest) ∨ D v ≤ D u + w
  grt : ∀ p, Feas G p → (∀ v ∈ ks, p v ≤ D0 v) → ∀ v ∈ ks, p v ≤ D v
  up : ∀ v, D v = D0 v ∨ Up G D0 x y b D v
  h1 : ∀ v ∈ q1, HasT ks G D0 x y b D v i
  h2 : ∀ v ∈ q2, HasT ks G D0 x y b D v (i + 1)

/-- between two turns of the outer loop -/
structure LO (D : Int → Int) (q : List Int) (μ : Nat) : Prop where
  ex : ∃ q1 q2 i, q = q1 ++ q2 ∧ LC ks G D0 x y b D q1 q2 i 0 [] ∧ q1.length * ks.length + q2.length ≤ ks.length ^ (i + 1)
  meas : slack D0 x y b D ks + q.length = μ

/-- within a turn -/
structure LIn (D : Int → Int) (q : List Int) (c : Int) (rest : List (Int × Int)) (μ : Nat) : Prop where
  ex : ∃ q1 q0 ap i, q = q1 ++ (q0 ++ ap) ∧ LC ks G D0 x y b D q1 (q0 ++ ap) i c rest ∧ HasT ks G D0 x y b D c i ∧ q1.length * ks.length + q0.length + ks.length ≤ ks.length ^ (i + 1) ∧
    ap.Nodup ∧ (∀ v ∈ ap, v ∈ ks) ∧ ∀ v ∈ ap, ∀ w, (v, w) ∈ rest → D v ≤ D c + w
  suf : ∃ pre, G c = pre ++ rest
  meas : slack D0 x y b D ks + q.length < μ
end

section
variable {ks : List Int} {G : Int → List (Int × Int)} {D0 : Int → Int} {x y b : Int}

theorem HasT.len {D : Int → Int} {v : Int} {k : Nat} (h : HasT ks G D0 x y b D v k) : k + 1 ≤ ks.length := by
  obtain ⟨_, _, t, hn, hk, _, ht⟩ := h
  have := nodup_len (t.map (·.1)) ks hn (fun z hz => by obtain ⟨e, he, rfl⟩ := List.mem_map.mp hz; exact (ht e he).1)
  rw [List.length_map] at this
  omega

theorem HasT.mono {D D' : Int → Int} {v : Int} {k k' : Nat} (h : HasT ks G D0 x y b D v k) (hk : k' ≤ k) (hv : D' v = D v) (hle : ∀ z, D' z ≤ D z) : HasT ks G D0 x y b D' v k' := by
  obtain ⟨h1, h2, t, hn, hlt, hm, ht⟩ := h
  refine ⟨h1, fun p hp => by rw [hv]; exact h2 p hp, t, hn, by omega, by rw [hv]; exact hm, fun e he => ⟨(ht e he).1, ?_, fun p hp => by rw [hv]; exact (ht e he).2.2 p hp⟩⟩
  have := (ht e he).2.1
  have := hle e.1
  omega

theorem slack_upd_not {D : Int → Int} {v a : Int} : ∀ {l : List Int}, v ∉ l → slack D0 x y b (upd D v a) l = slack D0 x y b D l
  | [], _ => rfl
  | z :: r, h => by
    have hz : z ≠ v := fun e => h (e ▸ .head _)
    have hr : v ∉ r := fun e => h (.tail _ e)
    simp only [slack, upd_ne hz, slack_upd_not hr]
theorem slack_upd {D : Int → Int} {v a : Int} (h0 : 0 ≤ a - D0 v + (D0 y - (D0 x + b))) (hlt : a < D v) : ∀ {l : List Int}, l.Nodup → v ∈ l → slack D0 x y b (upd D v a) l + 1 ≤ slack D0 x y b D l
  | [], _, hm => nomatch hm
  | z :: r, hn, hm => by
    rw [List.nodup_cons] at hn
    by_cases e : z = v
    · subst e
      simp only [slack, upd_same, slack_upd_not hn.1]
      omega
    · have hm' : v ∈ r := by cases hm with | head => exact absurd rfl e | tail _ h => exact h
      have := slack_upd h0 hlt hn.2 hm'
      simp only [slack, upd_ne e]
      omega

theorem IncPre.feasOld (P : IncPre ks G D0 x y b) : FeasOld G x y b D0 := P.old

/-- no bound put in is broken: the check ends at once -/
theorem inc_still (P : IncPre ks G D0 x y b) (h : ¬ D0 x + b < D0 y) : IncPost ks G D0 true D0 := by
  unfold IncPost
  rw [if_pos rfl]
  refine ⟨fun u v w e => ?_, fun _ => Int.le_refl _, fun p _ hp v hv => hp v hv⟩
  rcases P.old u v w e with ⟨rfl, rfl, rfl⟩ | h
  · omega
  · exact h

theorem pow_six : ∀ (n i : Nat), n ≤ 6 → i ≤ n → n ^ i ≤ 46656
  | n, i, hn, hi => by
    have h1 : n ^ i ≤ n ^ n ∨ n = 0 := by
      rcases Nat.eq_zero_or_pos n with e | e
      · exact .inr e
      · exact .inl (Nat.pow_le_pow_right e hi)
    rcases h1 with h1 | h1
    · refine Nat.le_trans h1 ?_
      have : n = 0 ∨ n = 1 ∨ n = 2 ∨ n = 3 ∨ n = 4 ∨ n = 5 ∨ n = 6 := by omega
      rcases this with rfl | rfl | rfl | rfl | rfl | rfl | rfl <;> decide
    · subst h1
      have : i = 0 := by omega
      subst this; decide

/-- the start -/
theorem LO.start (P : IncPre ks G D0 x y b) (h : D0 x + b < D0 y) : ∃ μ, LO ks G D0 x y b (upd D0 y (D0 x + b)) [y] μ := by
  have hle : ∀ v, upd D0 y (D0 x + b) v ≤ D0 v := fun v => by
    unfold upd; split
    · rename_i e; subst e; omega
    · exact Int.le_refl _
  have upy : Up G D0 x y b (upd D0 y (D0 x + b)) y := fun p _ => by rw [upd_same]; omega
  refine ⟨_, ⟨[y], [], 0, rfl, ⟨hle, upd_same .., h, fun u v w e => ?_, fun p hp hl v hv => ?_, fun v => ?_, fun v hv => ?_, fun v hv => nomatch hv⟩, by simp⟩, rfl⟩
  · by_cases hu : u = y
    · exact .inl (by rw [hu]; exact .head _)
    · refine .inr (.inr (.inr ?_))
      rw [upd_ne hu]
      rcases P.old u v w e with ⟨rfl, rfl, rfl⟩ | h2
      · rw [upd_same]; exact Int.le_refl _
      · have := hle v; omega
  · by_cases hu : v = y
    · subst hu
      rw [upd_same]
      have := hp x v b P.new
      have := hl x P.xin
      omega
    · rw [upd_ne hu]; exact hl v hv
  · by_cases hu : v = y
    · subst hu; exact .inr upy
    · exact .inl (upd_ne hu)
  · cases hv with
    | head =>
      refine ⟨P.yin, upy, [(y, D0 x + b)], by simp, by simp, by rw [upd_same]; exact .head _, fun e he => ?_⟩
      have he := List.mem_singleton.mp he
      subst he
      exact ⟨P.yin, by simp [upd], fun p _ => by simp [upd]⟩
    | tail _ h => nomatch h

/-- the queue is never long -/
theorem LO.short {D : Int → Int} {q : List Int} {μ : Nat} (P : IncPre ks G D0 x y b) (h : LO ks G D0 x y b D q μ) : q.length ≤ 46656 := by
  obtain ⟨⟨q1, q2, i, rfl, C, hs⟩, _⟩ := h
  have hpos : 0 < ks.length := List.length_pos_of_mem P.xin
  have hle : (q1 ++ q2).length ≤ q1.length * ks.length + q2.length := by
    rw [List.length_append]
    have := Nat.le_mul_of_pos_right q1.length hpos
    omega
  cases hq : q1 ++ q2 with
  | nil => simp
  | cons v r =>
    have hv : v ∈ q1 ++ q2 := by rw [hq]; exact .head _
    have hi : i + 1 ≤ ks.length := by
      rcases List.mem_append.mp hv with hv | hv
      · exact (C.h1 v hv).len
      · have := (C.h2 v hv).len; omega
    have := pow_six ks.length (i + 1) P.six hi
    rw [← hq]
    omega

/-- a turn begins -/
theorem LO.pop {D : Int → Int} {c : Int} {q : List Int} {μ : Nat} (P : IncPre ks G D0 x y b) (h : LO ks G D0 x y b D (c :: q) μ) : c ∈ ks ∧ LIn ks G D0 x y b D q c (G c) μ := by
  obtain ⟨⟨q1, q2, i, hq, C, hs⟩, hm⟩ := h
  have main : ∀ (q1' q2' : List Int) (j : Nat), q = q1' ++ q2' → LC ks G D0 x y b D (c :: q1') q2' j 0 [] → (c :: q1').length * ks.length + q2'.length ≤ ks.length ^ (j + 1) → c ∈ ks ∧ LIn ks G D0 x y b D q c (G c) μ := by
    intro q1' q2' j hq' C' hs'
    have hc := C'.h1 c (.head _)
    refine ⟨hc.1, ⟨q1', q2', [], j, by rw [hq', List.append_nil], ?_, hc, ?_, List.nodup_nil, (fun _ h => nomatch h), (fun _ h => nomatch h)⟩, ⟨[], rfl⟩, ?_⟩
    · rw [List.append_nil]
      refine ⟨C'.low, C'.dy, C'.less, fun u v w e => ?_, C'.grt, C'.up, fun v hv => C'.h1 v (.tail _ hv), C'.h2⟩
      rcases C'.sat u v w e with h | h | ⟨_, h⟩ | h
      · cases h with
        | head => exact .inr (.inr (.inl ⟨rfl, e⟩))
        | tail _ h => exact .inl h
      · exact .inr (.inl h)
      · nomatch h
      · exact .inr (.inr (.inr h))
    · rw [List.length_cons, Nat.add_mul] at hs'
      omega
    · rw [← hm, List.length_cons]; omega
  cases q1 with
  | nil =>
    rw [List.nil_append] at hq
    subst hq
    refine main q [] (i + 1) (List.append_nil _).symm ⟨C.low, C.dy, C.less, fun u v w e => ?_, C.grt, C.up, C.h2, fun _ h => nomatch h⟩ ?_
    · rcases C.sat u v w e with h | h | ⟨_, h⟩ | h
      · nomatch h
      · exact .inl h
      · nomatch h
      · exact .inr (.inr (.inr h))
    · simp only [List.length_nil, Nat.zero_mul, Nat.zero_add, Nat.add_zero] at hs ⊢
      rw [Nat.pow_succ]
      exact Nat.mul_le_mul_right _ hs
  | cons v q1 =>
    rw [List.cons_append, List.cons.injEq] at hq
    obtain ⟨rfl, hq⟩ := hq
    exact main q1 q2 i hq C hs

theorem LIn.mem {D : Int → Int} {q : List Int} {c v w : Int} {rest : List (Int × Int)} {μ : Nat} (h : LIn ks G D0 x y b D q c ((v, w) :: rest) μ) : (v, w) ∈ G c := by
  obtain ⟨pre, e⟩ := h.suf
  rw [e]; exact List.mem_append_right _ (.head _)

/-- an edge that is kept -/
theorem LIn.skip {D : Int → Int} {q : List Int} {c v w : Int} {rest : List (Int × Int)} {μ : Nat} (h : LIn ks G D0 x y b D q c ((v, w) :: rest) μ) (hk : ¬ D c + w < D v) : LIn ks G D0 x y b D q c rest μ := by
  obtain ⟨⟨q1, q0, ap, i, hq, C, hc, hs, a1, a2, a3⟩, ⟨pre, hp⟩, hm⟩ := h
  refine ⟨⟨q1, q0, ap, i, hq, ⟨C.low, C.dy, C.less, fun u v' w' e => ?_, C.grt, C.up, C.h1, C.h2⟩, hc, hs, a1, a2, fun z hz w' e => a3 z hz w' (.tail _ e)⟩, ⟨pre ++ [(v, w)], by rw [hp]; simp⟩, hm⟩
  rcases C.sat u v' w' e with h | h | ⟨h, h'⟩ | h
  · exact .inl h
  · exact .inr (.inl h)
  · cases h' with
    | head => subst h; exact .inr (.inr (.inr (by omega)))
    | tail _ h' => exact .inr (.inr (.inl ⟨h, h'⟩))
  · exact .inr (.inr (.inr h))

/-- the new edge is met again: no potential is left -/
theorem LIn.found {D : Int → Int} {q : List Int} {c w : Int} {rest : List (Int × Int)} {μ : Nat} (P : IncPre ks G D0 x y b) (h : LIn ks G D0 x y b D q c ((y, w) :: rest) μ) (hk : D c + w < D y) : (w = b → ¬ ∃ p, Feas G p) ∧ w = b := by
  have hm := h.mem
  obtain ⟨⟨q1, q0, ap, i, hq, C, hc, hs, a1, a2, a3⟩, _, _⟩ := h
  have hy := C.dy
  constructor
  · rintro rfl ⟨p, hp⟩
    have h1 := hc.2.1 p hp.old
    have h2 := hp c y w hm
    omega
  · rcases P.old c y w hm with ⟨_, _, e⟩ | h3
    · exact e
    · have h1 := hc.2.1 D0 P.feasOld
      omega

/-- an edge that lowers its end -/
theorem LIn.lower {D : Int → Int} {q : List Int} {c v w : Int} {rest : List (Int × Int)} {μ : Nat} (P : IncPre ks G D0 x y b) (h : LIn ks G D0 x y b D q c ((v, w) :: rest) μ) (hk : D c + w < D v) (hv : v ≠ y) :
    LIn ks G D0 x y b (upd D v (D c + w)) (q ++ [v]) c rest μ := by
  have hm := h.mem
  obtain ⟨⟨q1, q0, ap, i, hq, C, hc, hs, a1, a2, a3⟩, ⟨pre, hp⟩, hme⟩ := h
  have hvk := (P.src c v w hm).2
  have edge : ∀ p, FeasOld G x y b p → p v ≤ p c + w := fun p fp => by
    rcases fp c v w hm with ⟨_, e, _⟩ | h
    · exact absurd e hv
    · exact h
  have hcv : c ≠ v := by
    rintro rfl
    have := edge D0 P.feasOld
    omega
  have hle : ∀ z, upd D v (D c + w) z ≤ D z := fun z => by
    unfold upd; split
    · rename_i e; subst e; omega
    · exact Int.le_refl _
  have upv : Up G D0 x y b (upd D v (D c + w)) v := fun p fp => by
    have h1 := hc.2.1 p fp
    have h2 := edge p fp
    rw [upd_same]; omega
  have hTc : HasT ks G D0 x y b (upd D v (D c + w)) c i := hc.mono (Nat.le_refl _) (upd_ne hcv) hle
  have hTv : HasT ks G D0 x y b (upd D v (D c + w)) v (i + 1) := by
    obtain ⟨_, _, t, hn, hlt, hmt, ht⟩ := hc
    have hvt : v ∉ t.map (·.1) := fun hin => by
      obtain ⟨e, he, rfl⟩ := List.mem_map.mp hin
      have h1 := (ht e he).2.1
      have h2 := (ht e he).2.2 D0 P.feasOld
      have h3 := edge D0 P.feasOld
      omega
    refine ⟨hvk, upv, (v, D c + w) :: t, ?_, by rw [List.length_cons]; omega, by rw [upd_same]; exact .head _, fun e he => ?_⟩
    · rw [List.map_cons, List.nodup_cons]; exact ⟨hvt, hn⟩
    · cases he with
      | head => exact ⟨hvk, by rw [upd_same]; exact Int.le_refl _, fun p _ => by rw [upd_same]; dsimp only; omega⟩
      | tail _ he =>
        have h1 := (ht e he).2.1
        have h2 := hle e.1
        refine ⟨(ht e he).1, by omega, fun p fp => ?_⟩
        have h3 := (ht e he).2.2 p fp
        have h4 := edge p fp
        rw [upd_same]; omega
  have hvap : v ∉ ap := fun hin => hk |> fun hk => absurd (a3 v hin w (.head _)) (by omega)
  have keepT : ∀ z k, k ≤ i + 1 → HasT ks G D0 x y b D z k → HasT ks G D0 x y b (upd D v (D c + w)) z k := fun z k hki hz => by
    by_cases e : z = v
    · subst e; exact hTv.mono hki rfl fun _ => Int.le_refl _
    · exact hz.mono (Nat.le_refl _) (upd_ne e) hle
  refine ⟨⟨q1, q0, ap ++ [v], i, by rw [hq]; simp, ⟨fun z => ?_, ?_, C.less, fun u v' w' e => ?_, fun p hf hl z hz => ?_, fun z => ?_, fun z hz => keepT z i (Nat.le_succ _) (C.h1 z hz), fun z hz => ?_⟩, hTc, hs, ?_, fun z hz => ?_, fun z hz w' e => ?_⟩, ⟨pre ++ [(v, w)], by rw [hp]; simp⟩, ?_⟩
  · have := C.low z; have := hle z; omega
  · rw [upd_ne (Ne.symm hv)]; exact C.dy
  · by_cases huv : u = v
    · subst huv
      exact .inr (.inl (by simp))
    · rw [upd_ne huv]
      rcases C.sat u v' w' e with h | h | ⟨h, h'⟩ | h
      · exact .inl h
      · refine .inr (.inl ?_)
        rcases List.mem_append.mp h with h | h
        · exact List.mem_append_left _ h
        · exact List.mem_append_right _ (List.mem_append_left _ h)
      · cases h' with
        | head => subst h; refine .inr (.inr (.inr ?_)); rw [upd_same]; exact Int.le_refl _
        | tail _ h' => exact .inr (.inr (.inl ⟨h, h'⟩))
      · have := hle v'
        exact .inr (.inr (.inr (by omega)))
  · by_cases e : z = v
    · subst e
      rw [upd_same]
      have h1 := hf c z w hm
      have h2 := C.grt p hf hl c hc.1
      omega
    · rw [upd_ne e]; exact C.grt p hf hl z hz
  · by_cases e : z = v
    · subst e; exact .inr upv
    · rcases C.up z with h | h
      · exact .inl (by rw [upd_ne e]; exact h)
      · exact .inr fun p fp => by rw [upd_ne e]; exact h p fp
  · rw [← List.append_assoc] at hz
    rcases List.mem_append.mp hz with hz | hz
    · exact keepT z (i + 1) (Nat.le_refl _) (C.h2 z hz)
    · rw [List.mem_singleton.mp hz]; exact hTv
  · refine List.nodup_append.mpr ⟨a1, by simp, fun z hz z' hz' e => ?_⟩
    rw [List.mem_singleton.mp hz'] at e
    subst e; exact hvap hz
  · rcases List.mem_append.mp hz with hz | hz
    · exact a2 z hz
    · rw [List.mem_singleton.mp hz]; exact hvk
  · rw [upd_ne hcv]
    have ha : z ∈ ap ∨ z = v := by
      rcases List.mem_append.mp hz with hz | hz
      · exact .inl hz
      · exact .inr (List.mem_singleton.mp hz)
    rcases ha with ha | rfl
    · have := a3 z ha w' (.tail _ e)
      have := hle z
      omega
    · rw [upd_same]
      have ht := P.tight c
      rw [hp] at ht
      have ht2 := (List.pairwise_append.mp ht).2.1
      rw [List.pairwise_cons] at ht2
      have := ht2.1 _ e rfl
      dsimp only at this
      omega
  · have hup := upv D0 P.feasOld
    rw [upd_same] at hup
    have := slack_upd (D0 := D0) (x := x) (y := y) (b := b) (D := D) (v := v) (a := D c + w) (by omega) hk P.nd hvk
    rw [List.length_append, List.length_singleton]
    omega

/-- room for one more -/
theorem LIn.short {D : Int → Int} {q : List Int} {c : Int} {rest : List (Int × Int)} {μ : Nat} (P : IncPre ks G D0 x y b) (h : LIn ks G D0 x y b D q c rest μ) : q.length ≤ 46656 := by
  obtain ⟨⟨q1, q0, ap, i, rfl, C, hc, hs, a1, a2, a3⟩, _, _⟩ := h
  have hpos : 0 < ks.length := List.length_pos_of_mem P.xin
  have h1 := Nat.le_mul_of_pos_right q1.length hpos
  have h2 := nodup_len ap ks a1 a2
  have h3 := pow_six ks.length (i + 1) P.six hc.len
  simp only [List.length_append]
  omega

/-- a turn ends -/
theorem LIn.ends {D : Int → Int} {q : List Int} {c : Int} {μ : Nat} (h : LIn ks G D0 x y b D q c [] μ) : ∃ μ', μ' < μ ∧ LO ks G D0 x y b D q μ' := by
  obtain ⟨⟨q1, q0, ap, i, hq, C, hc, hs, a1, a2, a3⟩, _, hm⟩ := h
  refine ⟨_, hm, ⟨q1, q0 ++ ap, i, hq, ⟨C.low, C.dy, C.less, fun u v w e => ?_, C.grt, C.up, C.h1, C.h2⟩, ?_⟩, rfl⟩
  · rcases C.sat u v w e with h | h | ⟨_, h⟩ | h
    · exact .inl h
    · exact .inr (.inl h)
    · nomatch h
    · exact .inr (.inr (.inr h))
  · have := nodup_len ap ks a1 a2
    rw [List.length_append]
    omega

/-- the queue is empty: done -/
theorem LO.done {D : Int → Int} {μ : Nat} (h : LO ks G D0 x y b D [] μ) : IncPost ks G D0 true D := by
  obtain ⟨⟨q1, q2, i, hq, C, _⟩, _⟩ := h
  have hq' := List.append_eq_nil_iff.mp hq.symm
  obtain ⟨rfl, rfl⟩ := hq'
  unfold IncPost
  rw [if_pos rfl]
  refine ⟨fun u v w e => ?_, C.low, C.grt⟩
  rcases C.sat u v w e with h | h | ⟨_, h⟩ | h
  · nomatch h
  · nomatch h
  · nomatch h
  · exact h
end

end
section -- Net
set_option autoImplicit false

/-- first bound put in for y -/
def firstOf (y : Int) : List (Int × Int) → Option Int
  | [] => none
  | (z, b) :: r => if z = y then some b else firstOf y r
def subsumed (y b : Int) (es : List (Int × Int)) : Bool := match firstOf y es with
  | some c => decide (c ≤ b)
  | none => false

theorem firstOf_mem {y c : Int} : ∀ {es : List (Int × Int)}, firstOf y es = some c → (y, c) ∈ es
  | [], h => nomatch h
  | (z, b) :: r, h => by
    unfold firstOf at h
    split at h
    · rename_i e; subst e; cases h; exact .head _
    · exact .tail _ (firstOf_mem h)
theorem firstOf_none {y c : Int} : ∀ {es : List (Int × Int)}, firstOf y es = none → (y, c) ∉ es
  | [], _, h => nomatch h
  | (z, b) :: r, h, hm => by
    unfold firstOf at h
    split at h
    · nomatch h
    · rename_i e
      cases hm with
      | head => exact e rfl
      | tail _ hm => exact firstOf_none h hm
theorem firstOf_least {y c d : Int} : ∀ {es : List (Int × Int)}, es.Pairwise (fun e f => e.1 = f.1 → e.2 < f.2) → firstOf y es = some c → (y, d) ∈ es → c ≤ d
  | [], _, h, _ => nomatch h
  | (z, b) :: r, ht, h, hm => by
    rw [List.pairwise_cons] at ht
    unfold firstOf at h
    split at h
    · rename_i e; subst e; cases h
      cases hm with
      | head => exact Int.le_refl _
      | tail _ hm => have := ht.1 _ hm rfl; dsimp only at this; omega
    · rename_i e
      cases hm with
      | head => exact absurd rfl e
      | tail _ hm => exact firstOf_least ht.2 h hm

abbrev Edges := List (Int × Int × Int)
def FeasE (E : Edges) (p : Int → Int) : Prop := ∀ u v w, (u, v, w) ∈ E → p v ≤ p u + w

structure NetOk (E : Edges) (ks kc : List Int) (D : Int → Int) (G : Int → List (Int × Int)) (sat : Bool) : Prop where
  nd : ks.Nodup
  keys : ∀ k, k ∈ ks ↔ k ∈ kc
  src : ∀ u v w, (v, w) ∈ G u → u ∈ ks ∧ v ∈ ks
  inE : ∀ u v w, (v, w) ∈ G u → (u, v, w) ∈ E
  tight : ∀ u, (G u).Pairwise fun e f => e.1 = f.1 → e.2 < f.2
  off : ∀ k, k ∉ kc → G k = []
  nodes : ∀ k ∈ ks, ∃ u v w, (u, v, w) ∈ E ∧ (k = u ∨ k = v)
  good : sat = true → Feas G D ∧ (∀ v ∈ ks, D v ≤ 0) ∧ (∀ p, Feas G p → (∀ v ∈ ks, p v ≤ 0) → ∀ v ∈ ks, p v ≤ D v) ∧ ∀ u v w, (u, v, w) ∈ E → u ∈ ks ∧ v ∈ ks ∧ ∃ c, firstOf v (G u) = some c ∧ c ≤ w
  bad : sat = false → ¬ ∃ p, FeasE E p

theorem NetOk.start : NetOk [] [] [] (fun _ => 0) (fun _ => []) true where
  nd := List.nodup_nil
  keys := fun _ => Iff.rfl
  src := fun _ _ _ h => nomatch h
  inE := fun _ _ _ h => nomatch h
  tight := fun _ => .nil
  off := fun _ _ => rfl
  nodes := fun _ h => nomatch h
  good := fun _ => ⟨(fun _ _ _ h => nomatch h), (fun _ h => nomatch h), (fun _ _ _ _ h => nomatch h), (fun _ _ _ h => nomatch h)⟩
  bad := fun h => nomatch h

def withKey (ks : List Int) (x : Int) : List Int := if x ∈ ks then ks else ks ++ [x]
theorem mem_withKey {ks : List Int} {x k : Int} : k ∈ withKey ks x ↔ k ∈ ks ∨ k = x := by
  unfold withKey
  split
  · rename_i h
    constructor
    · exact .inl
    · rintro (h' | rfl)
      · exact h'
      · exact h
  · rw [List.mem_append, List.mem_singleton]
theorem nodup_withKey {ks : List Int} {x : Int} (h : ks.Nodup) : (withKey ks x).Nodup := by
  unfold withKey
  split
  · exact h
  · rename_i hx
    refine List.nodup_append.mpr ⟨h, by simp, fun z hz z' hz' e => ?_⟩
    rw [List.mem_singleton.mp hz'] at e
    subst e; exact hx hz
def zeroAt (ks : List Int) (D : Int → Int) (x : Int) : Int → Int := if x ∈ ks then D else upd D x 0
theorem zeroAt_in {ks : List Int} {D : Int → Int} {x z : Int} (h : z ∈ ks) : zeroAt ks D x z = D z := by
  unfold zeroAt
  split
  · rfl
  · rename_i hx
    exact upd_ne fun e => hx (e ▸ h)
theorem zeroAt_new {ks : List Int} {D : Int → Int} {x : Int} (h : x ∉ ks) : zeroAt ks D x x = 0 := by
  unfold zeroAt
  rw [if_neg h, upd_same]

section
variable {E : Edges} {ks kc : List Int} {D : Int → Int} {G : Int → List (Int × Int)} {x y b : Int}

/-- both ends stand -/
def ks2 (ks : List Int) (x y : Int) : List Int := withKey (withKey ks x) y
def D2 (ks : List Int) (D : Int → Int) (x y : Int) : Int → Int := zeroAt (withKey ks x) (zeroAt ks D x) y
theorem mem_ks2 {k : Int} : k ∈ ks2 ks x y ↔ k ∈ ks ∨ k = x ∨ k = y := by
  unfold ks2; rw [mem_withKey, mem_withKey, or_assoc]
theorem D2_in {z : Int} (h : z ∈ ks) : D2 ks D x y z = D z := by
  unfold D2
  rw [zeroAt_in (mem_withKey.mpr (.inl h)), zeroAt_in h]
theorem D2_new {z : Int} (h : z ∉ ks) (hz : z = x ∨ z = y) : D2 ks D x y z = 0 := by
  unfold D2
  by_cases hx : z = x
  · subst hx
    rw [zeroAt_in (mem_withKey.mpr (.inr rfl)), zeroAt_new h]
  · obtain rfl : z = y := hz.resolve_left hx
    exact zeroAt_new fun e => (mem_withKey.mp e).elim h hx

theorem FeasE.mono {E E' : Edges} {p : Int → Int} (h : FeasE E' p) (hs : ∀ e ∈ E, e ∈ E') : FeasE E p := fun u v w e => h u v w (hs _ e)

/-- nothing is put into a network that fell -/
theorem NetOk.dead (O : NetOk E ks kc D G false) (x y b : Int) : NetOk (E ++ [(x, y, b)]) ks kc D G false where
  nd := O.nd
  keys := O.keys
  src := O.src
  inE := fun u v w e => List.mem_append_left _ (O.inE u v w e)
  tight := O.tight
  off := O.off
  nodes := fun k hk => by
    obtain ⟨u, v, w, h, h'⟩ := O.nodes k hk
    exact ⟨u, v, w, List.mem_append_left _ h, h'⟩
  good := fun h => nomatch h
  bad := fun _ ⟨p, hp⟩ => O.bad rfl ⟨p, hp.mono fun e he => List.mem_append_left _ he⟩

/-- a bound that says nothing new -/
theorem NetOk.same (O : NetOk E ks kc D G true) (hs : subsumed y b (G x) = true) : NetOk (E ++ [(x, y, b)]) ks kc D G true ∧ x ∈ ks ∧ y ∈ ks := by
  obtain ⟨g1, g2, g3, g4⟩ := O.good rfl
  unfold subsumed at hs
  split at hs
  · rename_i c hc
    have hcb : c ≤ b := of_decide_eq_true hs
    have hxy := O.src x y c (firstOf_mem hc)
    refine ⟨⟨O.nd, O.keys, O.src, fun u v w e => List.mem_append_left _ (O.inE u v w e), O.tight, O.off, fun k hk => ?_, fun _ => ⟨g1, g2, g3, fun u v w e => ?_⟩, fun h => nomatch h⟩, hxy.1, hxy.2⟩
    · obtain ⟨u, v, w, h, h'⟩ := O.nodes k hk
      exact ⟨u, v, w, List.mem_append_left _ h, h'⟩
    · rcases List.mem_append.mp e with e | e
      · exact g4 u v w e
      · have e := List.mem_singleton.mp e
        cases e
        exact ⟨hxy.1, hxy.2, c, hc, hcb⟩
  · nomatch hs

def putG (G : Int → List (Int × Int)) (x y b : Int) : Int → List (Int × Int) := fun u => if u = x then (y, b) :: G x else G u

theorem putG_mem {u v w : Int} (h : (v, w) ∈ putG G x y b u) : (u = x ∧ v = y ∧ w = b) ∨ (v, w) ∈ G u := by
  unfold putG at h
  split at h
  · rename_i e
    subst e
    cases h with
    | head => exact .inl ⟨rfl, rfl, rfl⟩
    | tail _ h => exact .inr h
  · exact .inr h
theorem mem_putG {u v w : Int} (h : (v, w) ∈ G u) : (v, w) ∈ putG G x y b u := by
  unfold putG
  split
  · rename_i e; subst e; exact .tail _ h
  · exact h

theorem NetOk.pre (O : NetOk E ks kc D G true) (hs : subsumed y b (G x) = false) (h6 : (ks2 ks x y).length ≤ 6) : IncPre (ks2 ks x y) (putG G x y b) (D2 ks D x y) x y b := by
  obtain ⟨g1, g2, g3, g4⟩ := O.good rfl
  refine ⟨nodup_withKey (nodup_withKey O.nd), h6, mem_ks2.mpr (.inr (.inl rfl)), mem_ks2.mpr (.inr (.inr rfl)), fun u v w e => ?_, ?_, fun u => ?_, fun u v w e => ?_⟩
  · rcases putG_mem e with ⟨rfl, rfl, rfl⟩ | e
    · exact ⟨mem_ks2.mpr (.inr (.inl rfl)), mem_ks2.mpr (.inr (.inr rfl))⟩
    · have := O.src u v w e
      exact ⟨mem_ks2.mpr (.inl this.1), mem_ks2.mpr (.inl this.2)⟩
  · simp [putG]
  · unfold putG
    split
    · rename_i e; subst e
      rw [List.pairwise_cons]
      refine ⟨fun f hf e => ?_, O.tight u⟩
      obtain ⟨v, w⟩ := f
      dsimp only at e ⊢
      subst e
      unfold subsumed at hs
      cases hc : firstOf y (G u) with
      | none => exact absurd hf (firstOf_none hc)
      | some c =>
        rw [hc] at hs
        have h1 : ¬ c ≤ b := of_decide_eq_false hs
        have h2 := firstOf_least (O.tight u) hc hf
        omega
    · exact O.tight u
  · rcases putG_mem e with h | e
    · exact .inl h
    · have := O.src u v w e
      rw [D2_in this.1, D2_in this.2]
      exact .inr (g1 u v w e)

/-- a bound that is new, checked -/
theorem NetOk.step {D' : Int → Int} {kc' : List Int} {r : Bool} (O : NetOk E ks kc D G true) (hs : subsumed y b (G x) = false) (hk : ∀ k, k ∈ ks2 ks x y ↔ k ∈ kc')
    (h : IncPost (ks2 ks x y) (putG G x y b) (D2 ks D x y) r D') : NetOk (E ++ [(x, y, b)]) (ks2 ks x y) kc' D' (putG G x y b) r := by
  obtain ⟨g1, g2, g3, g4⟩ := O.good rfl
  have hin : ∀ u v w, (v, w) ∈ putG G x y b u → (u, v, w) ∈ E ++ [(x, y, b)] := fun u v w e => by
    rcases putG_mem e with ⟨rfl, rfl, rfl⟩ | e
    · simp
    · exact List.mem_append_left _ (O.inE u v w e)
  have hsrc : ∀ u v w, (v, w) ∈ putG G x y b u → u ∈ ks2 ks x y ∧ v ∈ ks2 ks x y := fun u v w e => by
    rcases putG_mem e with ⟨rfl, rfl, rfl⟩ | e
    · exact ⟨mem_ks2.mpr (.inr (.inl rfl)), mem_ks2.mpr (.inr (.inr rfl))⟩
    · have := O.src u v w e
      exact ⟨mem_ks2.mpr (.inl this.1), mem_ks2.mpr (.inl this.2)⟩
  have hti : ∀ u, (putG G x y b u).Pairwise fun e f => e.1 = f.1 → e.2 < f.2 := fun u => by
    unfold putG
    split
    · rename_i e; subst e
      rw [List.pairwise_cons]
      refine ⟨fun f hf e => ?_, O.tight u⟩
      obtain ⟨v, w⟩ := f
      dsimp only at e ⊢
      subst e
      unfold subsumed at hs
      cases hc : firstOf y (G u) with
      | none => exact absurd hf (firstOf_none hc)
      | some c =>
        rw [hc] at hs
        have h1 : ¬ c ≤ b := of_decide_eq_false hs
        have h2 := firstOf_least (O.tight u) hc hf
        omega
    · exact O.tight u
  refine ⟨nodup_withKey (nodup_withKey O.nd), hk, hsrc, hin, hti, fun k hn => ?_, fun k hk' => ?_, fun hr => ?_, fun hr => ?_⟩
  · have hn' : k ∉ ks2 ks x y := fun e => hn ((hk k).mp e)
    have hkx : k ≠ x := fun e => hn' (mem_ks2.mpr (.inr (.inl e)))
    unfold putG
    rw [if_neg hkx]
    exact O.off k fun e => hn' (mem_ks2.mpr (.inl ((O.keys k).mpr e)))
  · rcases mem_ks2.mp hk' with hk' | e
    · obtain ⟨u, v, w, h1, h2⟩ := O.nodes k hk'
      exact ⟨u, v, w, List.mem_append_left _ h1, h2⟩
    · exact ⟨x, y, b, by simp, e⟩
  · subst hr
    unfold IncPost at h
    rw [if_pos rfl] at h
    obtain ⟨i1, i2, i3⟩ := h
    have d0 : ∀ v ∈ ks2 ks x y, D2 ks D x y v ≤ 0 := fun v hv => by
      by_cases hvk : v ∈ ks
      · rw [D2_in hvk]; exact g2 v hvk
      · rw [D2_new hvk ((mem_ks2.mp hv).resolve_left hvk)]; exact Int.le_refl _
    refine ⟨i1, fun v hv => Int.le_trans (i2 v) (d0 v hv), fun p hp hp0 v hv => i3 p hp (fun z hz => ?_) v hv, fun u v w e => ?_⟩
    · by_cases hzk : z ∈ ks
      · rw [D2_in hzk]
        exact g3 p (fun u v w e => hp u v w (mem_putG e)) (fun v' hv' => hp0 v' (mem_ks2.mpr (.inl hv'))) z hzk
      · rw [D2_new hzk ((mem_ks2.mp hz).resolve_left hzk)]; exact hp0 z hz
    · rcases List.mem_append.mp e with e | e
      · obtain ⟨h1, h2, c, h3, h4⟩ := g4 u v w e
        refine ⟨mem_ks2.mpr (.inl h1), mem_ks2.mpr (.inl h2), ?_⟩
        unfold putG
        split
        · rename_i e'; subst e'
          unfold firstOf
          split
          · rename_i e2; subst e2
            refine ⟨b, rfl, ?_⟩
            unfold subsumed at hs
            rw [h3] at hs
            have : ¬ c ≤ b := of_decide_eq_false hs
            omega
          · exact ⟨c, h3, h4⟩
        · exact ⟨c, h3, h4⟩
      · have e := List.mem_singleton.mp e
        cases e
        exact ⟨mem_ks2.mpr (.inr (.inl rfl)), mem_ks2.mpr (.inr (.inr rfl)), b, by simp [putG, firstOf], Int.le_refl _⟩
  · subst hr
    unfold IncPost at h
    rw [if_neg Bool.false_ne_true] at h
    exact fun ⟨p, hp⟩ => h ⟨p, fun u v w e => hp u v w (hin u v w e)⟩
end

end
section -- Defs03
open PySem PySem.W PyProof.Rows PySem.Calls
set_option maxRecDepth 100000
set_option maxHeartbeats 8000000
abbrev CN : Addr := 96
abbrev CS : Addr := 203
abbrev PR : Program := PySem.Challenge.rw_vs0022_03.row.prog

@[reducible] def nodeEs (w : World) (t1 t2 t3 : Tok) (y b : Int) (ty tb : Tok) (nx : Value) : List DictEntry :=
  [⟨PyData.keyHash w.params "dst", .str "dst" t1, .int y ty⟩, ⟨PyData.keyHash w.params "bound", .str "bound" t2, .int b tb⟩, ⟨PyData.keyHash w.params "next", .str "next" t3, nx⟩]

inductive ChainIn (w : World) (led : List (Addr × Obj)) : Value → List (Int × Int) → Prop
  | nil : ChainIn w led .none []
  | cons {a d : Addr} {t1 t2 t3 ty tb : Tok} {y b : Int} {nx : Value} {es : List (Int × Int)} :
      (a, instObj CN d) ∈ led → (d, dictOf (nodeEs w t1 t2 t3 y b ty tb nx) 3) ∈ led → ChainIn w led nx es →
      ChainIn w led (.ref a) ((y, b) :: es)

@[reducible] def netEs (w : World) (t1 t2 t3 t4 t5 : Tok) (cA dA : Addr) (sat : Bool) : List DictEntry :=
  [⟨PyData.keyHash w.params "_constraints", .str "_constraints" t1, .ref cA⟩, ⟨PyData.keyHash w.params "_distances", .str "_distances" t2, .ref dA⟩,
   ⟨PyData.keyHash w.params "_is_sat", .str "_is_sat" t3, .bool sat⟩, ⟨PyData.keyHash w.params "_epsilon", .str "_epsilon" t4, .int 0 t5⟩]

theorem dget2 {w : World} {A : Around} {E : Value → Shared → Prop} {s : Shared} {h₀ : Heap} {L d : Addr} {news : List (Addr × Obj)} {o : Obj} {kvs : List (Int × Value)} {i : Int} {t : Tok} {dflt : Value} {Q : Value → Shared → Prop}
    (N : News h₀ L s.heap news) (hp : (d, o) ∈ news) (hd : o.IsDictOf (intKind PR w) kvs) (lo : (d == sysModules) = false) (h : Q ((valueAt kvs i).getD dflt) { s with toks := s.toks + 1 }) :
    wpAny (model PR w) A (call (.builtin "dict.get") [.ref d, .int i t, dflt]) Q E s :=
  have hD := kda_dict N hp hd
  call_meetsIn PySem.F.slot_dict_get hD.typeIs PySem.F.entry_dict_get (PySem.F.args_dict_get_3 _ _ _) (meets_dict_get_default (intKind PR w) d (intKind_is _ _ _ _) lo dflt) ⟨_, hD.mapOf, h⟩

def DistIs (dv : List (Int × Value)) (ks : List Int) (D : Int → Int) : Prop := dv.map (·.1) = ks ∧ ∀ k ∈ ks, ∃ t, valueAt dv k = some (.int (D k) t)
def ConsIs (w : World) (led : List (Addr × Obj)) (cv : List (Int × Value)) (kc : List Int) (G : Int → List (Int × Int)) : Prop :=
  cv.map (·.1) = kc ∧ (∀ k ∈ kc, ∃ v, valueAt cv k = some v ∧ ChainIn w led v (G k)) ∧ ∀ k, k ∉ kc → G k = []

theorem valueAt_stored_same (kvs : List (Int × Value)) (k : Int) (v : Value) : valueAt (stored kvs k v) k = some v := by
  unfold valueAt stored
  split
  · rename_i h
    induction kvs with
    | nil => simp at h
    | cons e r ih =>
      by_cases he : e.1 = k
      · simp [he]
      · simp only [List.any_cons, he, decide_false, Bool.false_or] at h
        have := ih h
        simp only [List.map_cons, he, if_false, List.find?_cons, decide_false]
        exact this
  · rename_i h
    rw [List.find?_append]
    have : kvs.find? (fun kv => decide (kv.1 = k)) = none := by
      rw [List.find?_eq_none]
      intro e he hk
      exact h (List.any_eq_true.mpr ⟨e, he, hk⟩)
    rw [this]; simp
theorem valueAt_stored_ne (kvs : List (Int × Value)) {k z : Int} (v : Value) (hz : z ≠ k) : valueAt (stored kvs k v) z = valueAt kvs z := by
  unfold valueAt stored
  split
  · rename_i h
    clear h
    induction kvs with
    | nil => rfl
    | cons e r ih =>
      by_cases he : e.1 = k
      · have hkz : ¬ k = z := fun q => hz q.symm
        simp only [List.map_cons, he, if_true, List.find?_cons, hkz, decide_false]
        exact ih
      · simp only [List.map_cons, he, if_false, List.find?_cons]
        by_cases hez : e.1 = z
        · simp [hez]
        · simp only [hez, decide_false]; exact ih
  · rw [List.find?_append]
    have hkz : ¬ k = z := fun q => hz q.symm
    cases h : kvs.find? (fun kv => decide (kv.1 = z)) with
    | none => simp [hkz]
    | some e => simp
theorem keys_stored_mem (kvs : List (Int × Value)) {k : Int} (v : Value) (hk : k ∈ kvs.map (·.1)) : (stored kvs k v).map (·.1) = kvs.map (·.1) := by
  unfold stored
  rw [if_pos]
  · rw [List.map_map]
    refine List.map_congr_left fun e _ => ?_
    dsimp only [Function.comp]
    split <;> rfl
  · obtain ⟨e, he, rfl⟩ := List.mem_map.mp hk
    exact List.any_eq_true.mpr ⟨e, he, by simp⟩
theorem DistIs.store {dv : List (Int × Value)} {ks : List Int} {D : Int → Int} (h : DistIs dv ks D) {k : Int} (hk : k ∈ ks) (a : Int) (t : Tok) : DistIs (stored dv k (.int a t)) ks (upd D k a) := by
  obtain ⟨h1, h2⟩ := h
  refine ⟨by rw [keys_stored_mem _ _ (h1 ▸ hk), h1], fun z hz => ?_⟩
  by_cases e : z = k
  · subst e; exact ⟨t, by rw [valueAt_stored_same, upd_same]⟩
  · obtain ⟨t', ht⟩ := h2 z hz
    exact ⟨t', by rw [valueAt_stored_ne _ _ e, ht, upd_ne e]⟩
theorem DistIs.len {dv : List (Int × Value)} {ks : List Int} {D : Int → Int} (h : DistIs dv ks D) : dv.length = ks.length := by rw [← h.1, List.length_map]

/- a halt of the walk -/
def Stop (P : Prop) : Prop := P
theorem stop_here {P : Prop} (h : Stop P) : P := h
theorem ne_of_allLt {d : Addr} : ∀ {l : List (Addr × Obj)}, AllLt d l → ∀ p ∈ l, p.1 ≠ d
  | [], _, _, hp => nomatch hp
  | _ :: _, h, _, hp => by
    cases hp with
    | head => exact Nat.ne_of_lt h.1
    | tail _ hp => exact ne_of_allLt h.2 _ hp
theorem getItem_N {w : World} {A : Around} {E : Value → Shared → Prop} {s : Shared} {h₀ : Heap} {L d : Addr} {news : List (Addr × Obj)} {o : Obj} {kvs : List (Int × Value)} {i : Int} {t : Tok} {v : Value} {Q : Value → Shared → Prop}
    (N : News h₀ L s.heap news) (hp : (d, o) ∈ news) (hd : o.IsDictOf (intKind PR w) kvs) (hl : valueAt kvs i = some v) (h : Q v { s with toks := s.toks + 1 }) :
    wpAny (model PR w) A (getItem (.ref d) (.int i t)) Q E s := wpAny_getItem_of (intKind_is _ _ _ _) (kda_dict N hp hd).mapOf hl h
/- an int dict's item at an int key that a fact names -/

/- the addresses of a ledger, all unlike -/
@[reducible] def ND (l : List (Addr × Obj)) : Prop := (l.map (·.1)).Nodup
theorem not_in_rest {a : Addr} {l : List (Addr × Obj)} (h : a ∉ l.map (·.1)) : ∀ p ∈ l, p.1 ≠ a := fun _ hp e => h (e ▸ List.mem_map_of_mem hp)
theorem nd4 {a b c d : Addr} {oa ob oc od : Obj} {l : List (Addr × Obj)} (h : ND ((a, oa) :: (b, ob) :: (c, oc) :: (d, od) :: l)) :
    @Ne Nat a b ∧ @Ne Nat a c ∧ @Ne Nat a d ∧ @Ne Nat b c ∧ @Ne Nat b d ∧ @Ne Nat c d ∧ (∀ p ∈ l, p.1 ≠ a) ∧ (∀ p ∈ l, p.1 ≠ b) ∧ (∀ p ∈ l, p.1 ≠ c) ∧ (∀ p ∈ l, p.1 ≠ d) := by
  simp only [ND, List.map_cons, List.nodup_cons, List.mem_cons, not_or] at h
  obtain ⟨⟨h1, h2, h3, h4⟩, ⟨h5, h6, h7⟩, ⟨h8, h9⟩, h10, _⟩ := h
  exact ⟨h1, h2, h3, h5, h6, h8, not_in_rest h4, not_in_rest h7, not_in_rest h9, not_in_rest h10⟩
theorem nd_same {l l' : List (Addr × Obj)} (h : ND l) (e : l'.map (·.1) = l.map (·.1)) : ND l' := by unfold ND; rw [e]; exact h
theorem allLt_not {a : Addr} : ∀ {l : List (Addr × Obj)}, AllLt a l → a ∉ l.map (·.1)
  | [], _, h => nomatch h
  | _ :: _, h, hm => by
    rw [List.map_cons] at hm
    cases hm with
    | head => exact absurd h.1 (Nat.lt_irrefl _)
    | tail _ hm => exact allLt_not h.2 hm
theorem nd_two {a b c d x y : Addr} {oa ob oc od oa' ob' oc' od' ox oy : Obj} {l : List (Addr × Obj)} (h : ND ((a, oa) :: (b, ob) :: (c, oc) :: (d, od) :: l)) (h1 : a < y) (h2 : b < y) (h3 : c < y) (h4 : d < y) (h5 : AllLt y l) (hyx : y < x) :
    ND ((a, oa') :: (b, ob') :: (c, oc') :: (d, od') :: (x, ox) :: (y, oy) :: l) := by
  have hy := allLt_not h5
  have hx : x ∉ l.map (·.1) := fun e => by
    obtain ⟨p, hp, rfl⟩ := List.mem_map.mp e
    have : ∀ {l : List (Addr × Obj)}, AllLt y l → p ∈ l → p.1 < y := by
      intro l
      induction l with
      | nil => intro _ h; nomatch h
      | cons q r ih =>
        intro h hp
        cases hp with
        | head => exact h.1
        | tail _ hp => exact ih h.2 hp
    have := this h5 hp
    exact absurd (Nat.lt_trans this hyx) (Nat.lt_irrefl _)
  simp only [ND, List.map_cons, List.nodup_cons, List.mem_cons, not_or] at h ⊢
  obtain ⟨⟨k1, k2, k3, k4⟩, ⟨k5, k6, k7⟩, ⟨k8, k9⟩, k10, k11⟩ := h
  have n (u v : Addr) (e : u < v) : u ≠ v := Nat.ne_of_lt e
  exact ⟨⟨k1, k2, k3, n _ _ (Nat.lt_trans h1 hyx), n _ _ h1, k4⟩, ⟨k5, k6, n _ _ (Nat.lt_trans h2 hyx), n _ _ h2, k7⟩, ⟨k8, n _ _ (Nat.lt_trans h3 hyx), n _ _ h3, k9⟩, ⟨n _ _ (Nat.lt_trans h4 hyx), n _ _ h4, k10⟩, ⟨(n _ _ hyx).symm, hx⟩, hy, k11⟩

theorem isdict_nodup {w : World} {o : Obj} {kvs : List (Int × Value)} (h : o.IsDictOf (intKind PR w) kvs) : (kvs.map (·.1)).Nodup := by
  obtain ⟨_, _, _, _, _, _, hn⟩ := h; exact hn
/-- the network's parts -/
@[reducible] def netLed (w : World) (self sd cA dA : Addr) (t1 t2 t3 t4 t5 : Tok) (sat : Bool) (od oc : Obj) (rest : List (Addr × Obj)) : List (Addr × Obj) :=
  (self, instObj CS sd) :: (sd, dictOf (netEs w t1 t2 t3 t4 t5 cA dA sat) 4) :: (dA, od) :: (cA, oc) :: rest
/- setdefault -/
def setd (kvs : List (Int × Value)) (k : Int) (d : Value) : List (Int × Value) := match valueAt kvs k with
  | some _ => kvs
  | none => stored kvs k d
theorem setd_len (kvs : List (Int × Value)) (k : Int) (d : Value) : (setd kvs k d).length ≤ kvs.length + 1 := by
  unfold setd
  split
  · omega
  · exact stored_length_le _ _ _
theorem setd_len2 {kvs : List (Int × Value)} {k : Int} {d : Value} {n n' : Nat} (h : kvs.length ≤ n) (hn : n + 1 ≤ n') : (setd kvs k d).length ≤ n' := Nat.le_trans (setd_len _ _ _) (by omega)
theorem setdef_N {w : World} {A : Around} {E : Value → Shared → Prop} {s : Shared} {h₀ : Heap} {L d : Addr} {m : Str → Option Value} {news : List (Addr × Obj)} {g : Obj → List (Addr × Obj)} {o : Obj} {kvs : List (Int × Value)} {i : Int} {t : Tok} {dflt : Value} {Q : Value → Shared → Prop}
    (F : Fr h₀ L s.heap m) (N : News h₀ L s.heap news) (U : UpdF d o news g) (hd : o.IsDictOf (intKind PR w) kvs) (lo : (d == sysModules) = false) (hz : kvs.length ≤ 16777216)
    (h : ∀ h' o' v, Fr h₀ L h' m → News h₀ L h' (g o') → o'.IsDictOf (intKind PR w) (setd kvs i dflt) → Q v { s with heap := h', toks := s.toks + 1 }) :
    wpAny (model PR w) A (call (.builtin "dict.setdefault") [.ref d, .int i t, dflt]) Q E s := by
  have hg : g o = news := by obtain ⟨pre, post, rfl, hg, a, b⟩ := U.split; exact hg o
  have hm : (d, o) ∈ news := by obtain ⟨pre, post, rfl, _, _, _⟩ := U.split; exact List.mem_append_right _ (.head _)
  cases hv : valueAt kvs i with
  | some v =>
    refine kob_setdef_there (knd := PySem.intKind PR w) N hm hd lo (intKind_is _ _ _ _) (PySem.F.args_dict_setdefault_3 _ _ _) hv (by rw [sizeLine_eq]; exact hz) ?_
    exact h _ o v F (by rw [hg]; exact N) (by unfold setd; rw [hv]; exact hd)
  | none =>
    refine kob_setdef_new (knd := PySem.intKind PR w) F N U hd lo (intKind_is _ _ _ _) (PySem.F.args_dict_setdefault_3 _ _ _) hv (by rw [sizeLine_eq]; exact hz) fun h' o' F' N' hd' => ?_
    exact h _ o' dflt F' N' (by unfold setd; rw [hv]; exact hd')
theorem valueAt_none {kvs : List (Int × Value)} {k : Int} : valueAt kvs k = none ↔ k ∉ kvs.map (·.1) := by
  unfold valueAt
  rw [Option.map_eq_none_iff, List.find?_eq_none]
  constructor
  · intro h hm
    obtain ⟨e, he, rfl⟩ := List.mem_map.mp hm
    exact h e he (by simp)
  · intro h e he hk
    exact h (List.mem_map.mpr ⟨e, he, of_decide_eq_true hk⟩)
theorem keys_stored_new {kvs : List (Int × Value)} {k : Int} (v : Value) (hk : k ∉ kvs.map (·.1)) : (stored kvs k v).map (·.1) = kvs.map (·.1) ++ [k] := by
  unfold stored
  rw [if_neg]
  · simp
  · intro h
    obtain ⟨e, he, h2⟩ := List.any_eq_true.mp h
    exact hk (List.mem_map.mpr ⟨e, he, of_decide_eq_true h2⟩)
theorem keys_setd (kvs : List (Int × Value)) (k : Int) (d : Value) : (setd kvs k d).map (·.1) = withKey (kvs.map (·.1)) k := by
  unfold setd withKey
  cases hv : valueAt kvs k with
  | some v =>
    rw [if_pos]
    exact Decidable.by_contra fun h => by rw [valueAt_none.mpr h] at hv; cases hv
  | none =>
    have := valueAt_none.mp hv
    rw [if_neg this]
    exact keys_stored_new d this
theorem valueAt_setd_ne (kvs : List (Int × Value)) {k z : Int} (d : Value) (hz : z ≠ k) : valueAt (setd kvs k d) z = valueAt kvs z := by
  unfold setd
  split
  · rfl
  · exact valueAt_stored_ne _ _ hz
theorem valueAt_setd_there {kvs : List (Int × Value)} {k : Int} (d : Value) (h : k ∈ kvs.map (·.1)) : valueAt (setd kvs k d) k = valueAt kvs k := by
  unfold setd
  cases hv : valueAt kvs k with
  | some v => simp only; exact hv
  | none => exact absurd h (valueAt_none.mp hv)
theorem valueAt_setd_new {kvs : List (Int × Value)} {k : Int} (d : Value) (h : k ∉ kvs.map (·.1)) : valueAt (setd kvs k d) k = some d := by
  unfold setd
  rw [valueAt_none.mpr h]
  exact valueAt_stored_same _ _ _
theorem DistIs.setd {dv : List (Int × Value)} {ks : List Int} {D : Int → Int} (h : DistIs dv ks D) (x : Int) (t : Tok) : DistIs (setd dv x (.int 0 t)) (withKey ks x) (zeroAt ks D x) := by
  obtain ⟨h1, h2⟩ := h
  refine ⟨by rw [keys_setd, h1], fun z hz => ?_⟩
  by_cases hx : x ∈ ks
  · have hz' : z ∈ ks := (mem_withKey.mp hz).elim id (fun e => e ▸ hx)
    obtain ⟨t', ht⟩ := h2 z hz'
    refine ⟨t', ?_⟩
    rw [zeroAt_in hz', ← ht]
    by_cases e : z = x
    · subst e; exact valueAt_setd_there _ (h1 ▸ hx)
    · exact valueAt_setd_ne _ _ e
  · by_cases e : z = x
    · subst e
      exact ⟨t, by rw [valueAt_setd_new _ (h1 ▸ hx), zeroAt_new hx]⟩
    · have hz' : z ∈ ks := (mem_withKey.mp hz).resolve_right e
      obtain ⟨t', ht⟩ := h2 z hz'
      exact ⟨t', by rw [valueAt_setd_ne _ _ e, ht, zeroAt_in hz']⟩
theorem ChainIn.mono {w : World} {led led' : List (Addr × Obj)} {v : Value} {es : List (Int × Int)} (h : ChainIn w led v es) (hs : ∀ p ∈ led, p ∈ led') : ChainIn w led' v es := by
  induction h with
  | nil => exact .nil
  | cons a b _ ih => exact .cons (hs _ a) (hs _ b) ih
theorem ConsIs.mono {w : World} {led led' : List (Addr × Obj)} {cv : List (Int × Value)} {kc : List Int} {G : Int → List (Int × Int)} (h : ConsIs w led cv kc G) (hs : ∀ p ∈ led, p ∈ led') : ConsIs w led' cv kc G :=
  ⟨h.1, fun k hk => let ⟨v, a, b⟩ := h.2.1 k hk; ⟨v, a, b.mono hs⟩, h.2.2⟩
theorem ConsIs.head {w : World} {led : List (Addr × Obj)} {cv : List (Int × Value)} {kc : List Int} {G : Int → List (Int × Int)} (h : ConsIs w led cv kc G) (x : Int) : ChainIn w led ((valueAt cv x).getD .none) (G x) := by
  by_cases hx : x ∈ kc
  · obtain ⟨v, a, b⟩ := h.2.1 x hx
    rw [a]; exact b
  · rw [valueAt_none.mpr (h.1 ▸ hx), h.2.2 x hx]; exact .nil
theorem ConsIs.setd {w : World} {led : List (Addr × Obj)} {cv : List (Int × Value)} {kc : List Int} {G : Int → List (Int × Int)} (h : ConsIs w led cv kc G) (y : Int) : ConsIs w led (setd cv y .none) (withKey kc y) G := by
  refine ⟨by rw [keys_setd, h.1], fun k hk => ?_, fun k hk => h.2.2 k fun e => hk (mem_withKey.mpr (.inl e))⟩
  by_cases e : k = y
  · subst e
    by_cases hy : k ∈ kc
    · obtain ⟨v, a, b⟩ := h.2.1 k hy
      exact ⟨v, by rw [valueAt_setd_there _ (h.1 ▸ hy)]; exact a, b⟩
    · exact ⟨_, valueAt_setd_new _ (h.1 ▸ hy), by rw [h.2.2 k hy]; exact .nil⟩
  · obtain ⟨v, a, b⟩ := h.2.1 k ((mem_withKey.mp hk).resolve_right e)
    exact ⟨v, by rw [valueAt_setd_ne _ _ e]; exact a, b⟩
theorem keys_stored (kvs : List (Int × Value)) (k : Int) (v : Value) : (stored kvs k v).map (·.1) = withKey (kvs.map (·.1)) k := by
  unfold withKey
  split
  · rename_i h; exact keys_stored_mem _ _ h
  · rename_i h; exact keys_stored_new _ h
theorem ConsIs.put {w : World} {led : List (Addr × Obj)} {cv : List (Int × Value)} {kc : List Int} {G : Int → List (Int × Int)} (h : ConsIs w led cv kc G) {x y b : Int} {v : Value} (hv : ChainIn w led v ((y, b) :: G x)) :
    ConsIs w led (stored cv x v) (withKey kc x) (putG G x y b) := by
  refine ⟨by rw [keys_stored, h.1], fun k hk => ?_, fun k hk => ?_⟩
  · by_cases e : k = x
    · subst e; exact ⟨v, valueAt_stored_same _ _ _, by unfold putG; rw [if_pos rfl]; exact hv⟩
    · obtain ⟨v', a, b'⟩ := h.2.1 k ((mem_withKey.mp hk).resolve_right e)
      exact ⟨v', by rw [valueAt_stored_ne _ _ e]; exact a, by unfold putG; rw [if_neg e]; exact b'⟩
  · have e : k ≠ x := fun e => hk (mem_withKey.mpr (.inr e))
    unfold putG
    rw [if_neg e]
    exact h.2.2 k fun e' => hk (mem_withKey.mpr (.inl e'))
theorem room_of {n : Nat} (h : n < 950) : n < recursionLimit := Nat.lt_of_lt_of_le h (by decide)
/- calls of the network's own methods stop the walk -/
/- a dict's copy -/
theorem dcopy_N {w : World} {A : Around} {E : Value → Shared → Prop} {s : Shared} {h₀ : Heap} {L d : Addr} {m : Str → Option Value} {news : List (Addr × Obj)} {o : Obj} {kvs : List (Int × Value)} {Q : Value → Shared → Prop}
    (F : Fr h₀ L s.heap m) (N : News h₀ L s.heap news) (hbig : h₀.NoLimit) (hp : (d, o) ∈ news) (hd : o.IsDictOf (intKind PR w) kvs) (lo : (d == sysModules) = false) (hz : kvs.length ≤ 16777216)
    (h : ∀ a h' o', Fr h₀ L h' m → News h₀ L h' ((a, o') :: news) → (∀ p ∈ news, p.1 < a) → (a == sysModules) = false → o'.IsDictOf (intKind PR w) kvs → Q (.ref a) { s with heap := h' }) :
    wpAny (model PR w) A (call (.builtin "dict.copy") [.ref d]) Q E s := by
  have hD := kda_dict N hp hd
  refine call_meetsIn PySem.F.slot_dict_copy hD.typeIs PySem.F.entry_dict_copy (PySem.F.args_dict_copy_1 _) (meets_dict_copy (intKind PR w) d lo) ⟨kvs, hD, by rw [sizeLine_eq]; exact hz, fun h' h1 h2 h3 => ?_⟩
  obtain ⟨o', ho', hd'⟩ := Heap.dictOf_iff.mp h1
  have N1 := N.push F (dictOf [] 0)
  have D := N1 _ (.head _)
  refine h _ h' o' (F.keeps h3) (fun p hp => ?_) (fun p hp => Heap.lt_size (N p hp).1) (F.notModules (modules_low hbig)) hd'
  cases hp with
  | head => exact ⟨ho', D.2.1, D.2.2⟩
  | tail _ hp => exact ⟨h3 _ _ (N p hp).1, (N p hp).2⟩
theorem nd_front4 {x dx d c : Addr} {ox odx od oc : Obj} {l : List (Addr × Obj)} (h : ND l) (hc : ∀ p ∈ l, p.1 < c) (h1 : c < d) (h2 : d < dx) (h3 : dx < x) : ND ((x, ox) :: (dx, odx) :: (d, od) :: (c, oc) :: l) := by
  have nin : ∀ a, c ≤ a → a ∉ l.map (·.1) := fun a ha e => by
    obtain ⟨p, hp, rfl⟩ := List.mem_map.mp e
    exact absurd (Nat.lt_of_lt_of_le (hc p hp) ha) (Nat.lt_irrefl _)
  have n (u v : Addr) (e : u < v) : v ≠ u := Nat.ne_of_gt e
  have k1 := Nat.lt_trans h1 h2
  have k2 := Nat.lt_trans h2 h3
  have k3 := Nat.lt_trans k1 h3
  simp only [ND, List.map_cons, List.nodup_cons, List.mem_cons, not_or] at h ⊢
  exact ⟨⟨n _ _ h3, n _ _ k2, n _ _ k3, nin _ (Nat.le_of_lt k3)⟩, ⟨n _ _ h2, n _ _ k1, nin _ (Nat.le_of_lt k1)⟩, ⟨n _ _ h1, nin _ (Nat.le_of_lt h1)⟩, nin _ (Nat.le_refl _), h⟩

end
open PySem PySem.W PyProof.Rows PySem.Calls
local macro_rules | `(tactic| k_mem) => `(tactic| assumption)
local macro_rules | `(tactic| walk_at "getMethod ref") => `(tactic| (k_here; (with_reducible show wpAny _ _ (getMethod (Value.ref _) (Str.ofString "get") _) _ _ _); k_dflt (refine kob_method (knd := PySem.intKind _ _) PySem.F.slot_dict_get PySem.F.type_dict_get (by k_asm) (by k_mem) (by assumption) ?_)))
local macro_rules | `(tactic| walk_at "call builtin:dict.get") => `(tactic| (k_here; (with_reducible show wpAny _ _ (call (Value.builtin "dict.get") [Value.ref _, Value.int _ _, _]) _ _ _); k_dflt (refine dget2 (by k_asm) (by k_mem) (by assumption) (by assumption) ?_)))
local macro_rules | `(tactic| walk_at "exec While Name cons nil") => `(tactic| refine stop_here ?_)
local macro_rules | `(tactic| walk_at "exec While Compare cons nil") => `(tactic| refine stop_here ?_)
local macro_rules | `(tactic| k_all) => `(tactic| first | assumption | exact ne_of_allLt (by assumption))
local macro_rules | `(tactic| walk_at "call type:collections.deque nil nil") => `(tactic| (k_here; k_dflt (refine dq_new_N (by k_asm) (by k_asm) ?_); intro d' h' F' N' l1; (try k_lt l1); (repeat (obtain ⟨_, l1⟩ := l1)); (try k_sweep)))
local macro_rules | `(tactic| walk_at "getMethod ref") => `(tactic| (k_here; (with_reducible show wpAny _ _ (getMethod (Value.ref _) (Str.ofString "append") _) _ _ _); k_dflt (refine dq_method_append (News.get (by k_asm) (by k_mem)) ?_)))
local macro_rules | `(tactic| walk_at "getMethod ref") => `(tactic| (k_here; (with_reducible show wpAny _ _ (getMethod (Value.ref _) (Str.ofString "popleft") _) _ _ _); k_dflt (refine dq_method_popleft (News.get (by k_asm) (by k_mem)) ?_)))
local macro_rules | `(tactic| walk_at "call builtin:collections.deque.append") => `(tactic| (k_here; k_dflt (refine' dq_append_K ?F ?N ?U ?z ?_; (case F => k_asm); (case N => k_asm); (case U => k_upd); (case z => first | (simp only [List.length_nil, List.length_cons, List.length_append]; done) | omega | (simp only [List.length_nil, List.length_cons, List.length_append]; omega)); k_whole); intro h' F' N'; (try k_sweep)))
local macro_rules | `(tactic| walk_at "call builtin:collections.deque.popleft") => `(tactic| (k_here; k_dflt (refine' dq_popleft_K ?F ?N ?U ?z ?_; (case F => k_asm); (case N => k_asm); (case U => k_upd); (case z => omega); k_whole); intro h' F' N'; (try k_sweep)))
local macro_rules | `(tactic| walk_at "getItem ref int") => `(tactic| (k_here; k_dflt (refine getItem_N (by k_asm) (by k_mem) (by assumption) (by assumption) ?_)))
local macro_rules | `(tactic| walk_at "truthy ref") => `(tactic| (k_here; k_dflt (first | (refine dq_truthy_nil (News.get (by k_asm) (by k_mem)) ?_) | (refine dq_truthy_cons (News.get (by k_asm) (by k_mem)) (by omega) ?_))))
local macro_rules | `(tactic| walk_at "subscriptTail") => `(tactic| (k_here; (with_reducible show wpAny _ _ (subscriptTail _ _ (Value.ref _) (Value.int _ _)) _ _ _); k_dflt (refine kda_item (knd := PySem.intKind _ _) (by k_asm) (by k_mem) (by assumption) (intKind_is _ _ _ _) (by assumption) ?_)))
local macro_rules | `(tactic| walk_at "setItem ref int") => `(tactic| (k_here; k_dflt (refine' kda_set (knd := PySem.intKind _ _) ?F ?N ?U ?d (intKind_is _ _ _ _) ?z ?_; (case F => k_asm); (case N => k_asm); (case U => k_updF); (case d => assumption); (case z => (rw [sizeLine_eq]; first | omega | exact setd_len2 (by assumption) (by decide)))); intro h' o' F' N' hd'; (try dsimp only at N'); (try k_sweep)))
local macro_rules | `(tactic| walk_at "getMethod ref") => `(tactic| (k_here; (with_reducible show wpAny _ _ (getMethod (Value.ref _) (Str.ofString "setdefault") _) _ _ _); k_dflt (refine kob_method (knd := PySem.intKind _ _) PySem.F.slot_dict_setdefault PySem.F.type_dict_setdefault (by k_asm) (by k_mem) (by assumption) ?_)))
local macro_rules | `(tactic| walk_at "call builtin:dict.setdefault") => `(tactic| (k_here; (with_reducible show wpAny _ _ (call (Value.builtin "dict.setdefault") [Value.ref _, Value.int _ _, _]) _ _ _); k_dflt (refine' setdef_N ?F ?N ?U ?d ?o ?z ?_; (case F => k_asm); (case N => k_asm); (case U => k_updF); (case d => assumption); (case o => assumption); (case z => first | omega | exact setd_len2 (by assumption) (by decide)); intro h' o' v' F' N' hd'; (try dsimp only at N'); (try k_sweep))))
local macro_rules | `(tactic| k_room) => `(tactic| (refine room_of ?_; (try simp only [depth_under_make, depth_under_kw, depth_in1, depth_deeper]); omega))
local macro_rules | `(tactic| walk_at "call ref") => `(tactic| ((first | (with_reducible show wpAny _ _ (call (Value.ref 173) _ _) _ _ _) | (with_reducible show wpAny _ _ (call (Value.ref 180) _ _) _ _ _)); (refine stop_here ?_)))
local macro_rules | `(tactic| walk_at "getMethod ref") => `(tactic| (k_here; (with_reducible show wpAny _ _ (getMethod (Value.ref _) (Str.ofString "copy") _) _ _ _); k_dflt (refine kob_method (knd := PySem.intKind _ _) PySem.F.slot_dict_copy PySem.F.type_dict_copy (by k_asm) (by k_mem) (by assumption) ?_)))
local macro_rules | `(tactic| walk_at "call builtin:dict.copy") => `(tactic| (k_here; (with_reducible show wpAny _ _ (call (Value.builtin "dict.copy") [Value.ref _]) _ _ _); k_dflt (refine' dcopy_N ?F ?N (Top.nolimit (by k_asm)) ?p ?d ?o ?z ?_; (case F => k_asm); (case N => k_asm); (case p => k_mem); (case d => assumption); (case o => assumption); (case z => omega); intro a' h' o' F' N' l1 lo' hd'; (try k_lt l1); (try k_sweep))))
section -- Help03
open PySem PySem.W PyProof.Rows PySem.Calls
set_option maxRecDepth 100000
set_option maxHeartbeats 8000000
local macro_rules | `(tactic| walk_at "no such line") => `(tactic| skip)
theorem kfill_Help03 : (PySem.Challenge.rw_vs0022_03 = PySem.Challenge.rw_vs0022_03) ∧ (hd.heap_39 = hd.heap_39) := by
  w_top off
  k_fill
  exact ⟨rfl, rfl⟩
/-- a step: its clock, its window, which clocks it sets back -/
structure Stp where
  clock : Int
  low : Int
  high : Option Int
  fst : Int
  snd : Int
structure StpOk (d : Stp) : Prop where
  c : d.clock = 0 ∨ d.clock = 1
  l0 : 0 ≤ d.low
  l2 : d.low ≤ 2
  h : ∀ x, d.high = some x → d.low ≤ x ∧ x ≤ 2
  f : d.fst = 0 ∨ d.fst = 1
  s : d.snd = 0 ∨ d.snd = 1
theorem stp_ok {c : Int} (h0 : 0 ≤ c) (h1 : c < 96) {h : Option Int} (hh : ∀ x, h = some x → (c.fdiv 2).fmod 3 ≤ x ∧ x ≤ 2) : StpOk ⟨c.fmod 2, (c.fdiv 2).fmod 3, h, (c.fdiv 24).fmod 2, (c.fdiv 48).fmod 2⟩ := by
  have e3 (a : Int) : a.fmod 3 = a % 3 := Int.fmod_eq_emod_of_nonneg _ (by decide)
  have e2 (a : Int) : a.fmod 2 = a % 2 := Int.fmod_eq_emod_of_nonneg _ (by decide)
  refine ⟨?_, ?_, ?_, hh, ?_, ?_⟩ <;> dsimp only <;> (first | rw [e3] | rw [e2]) <;> omega
@[reducible] def optV (h : Option Int) (t : Tok) : Value := match h with
  | none => .none
  | some x => .int x t
@[reducible] def stpT (d : Stp) (t1 t2 t3 t4 t5 : Tok) : Obj := { cls := .type "tuple", data := .seq [.int d.clock t1, .int d.low t2, optV d.high t3, .int d.fst t4, .int d.snd t5].toArray 0 }
theorem code_spec {w : World} {A₀ A : Around} {base h₀ : Heap} {outer : List Env} {env : Env} {L : Addr} {m mg mb : Str → Option Value} {p : Program} {loose : List Str} {mean : ExcName → Option Value}
    {s : Shared} {news : List (Addr × Obj)} {R : Result → Shared → Prop} {sa : Addr} {vs : List Value} {ns : List Int} {i : Int} {ti tm : Tok}
    (B : Below A₀ base outer h₀) (F : Fr h₀ L s.heap m) (X₀ : (hd.heap_39 w.params).In h₀) (N : News h₀ L s.heap news) (T : Top p loose mean mg mb h₀)
    (hA : A.frames = some (env :: outer)) (hf : env.frame = some L) (hke : env.scope.kind = .function) (hroom : A.depth < 800)
    (hS : h₀.IsList sa vs.toArray) (hI : IntsAre vs ns) (hl : ns.length ≤ 63) (h0 : 0 ≤ i) (h3 : i < 5)
    (k : ∀ h' tk t c, Fr h₀ L h' m → News h₀ L h' news → 0 ≤ c → c < 96 → R (.ok (.ret (.int c t))) { s with heap := h', toks := tk }) :
    codeAny (model PR w) A (.call (.ref 227) ⟨[.ref sa, .int i ti, .int 96 tm], []⟩) R s := by
  obtain ⟨aH, aD, aF, aG, aU⟩ := A
  dsimp only at hA hroom
  subst hA
  refine' code_def B F X₀ N T rfl hf hke ?k6 ?k7 (Nat.lt_of_lt_of_le hroom (by decide)) ?k9 ?kB ?_ ?c2 ?c3 ?c4 ?c5
  case k6 => k_is
  case k7 => k_is
  case k9 => exact BindsTo.of_eq rfl
  case kB => exact locs rfl
  case c2 => exact rfl
  case c3 => exact rfl
  case c4 => exact rfl
  case c5 => decide
  intro g L' h₁ FG F' N' B' X' T'
  have hS' := FG.lst hS
  clear B F X₀ N T FG hS
  k_unmd
  k_fold
  have hlen := IntsAre.length hI
  k_steps
  all_goals (try dsimp only)
  all_goals (try k_unfold)
  all_goals (try dsimp only)
  all_goals (refine' leaveK_ ?k1 ?k2 ?_; (case k1 => k_asm); (case k2 => k_asm))
  all_goals intro qF qN
  all_goals (refine k _ _ _ _ qF (News.perm qN fun p hp => by first | exact hp | exact .tail _ hp) ?_ ?_ <;> rw [Int.fmod_eq_emod_of_nonneg _ (by decide)] <;> omega)
theorem step_spec {w : World} {A₀ A : Around} {base h₀ : Heap} {outer : List Env} {env : Env} {L : Addr} {m mg mb : Str → Option Value} {p : Program} {loose : List Str} {mean : ExcName → Option Value}
    {s : Shared} {news : List (Addr × Obj)} {R : Result → Shared → Prop} {c : Int} {tc : Tok}
    (B : Below A₀ base outer h₀) (F : Fr h₀ L s.heap m) (X₀ : (hd.heap_39 w.params).In h₀) (N : News h₀ L s.heap news) (T : Top p loose mean mg mb h₀)
    (hA : A.frames = some (env :: outer)) (hf : env.frame = some L) (hke : env.scope.kind = .function) (hroom : A.depth < 800) (h0 : 0 ≤ c) (h1 : c < 96)
    (k : ∀ h' tk a t1 t2 t3 t4 t5 d, StpOk d → Fr h₀ L h' m → News h₀ L h' ((a, stpT d t1 t2 t3 t4 t5) :: news) → (∀ p ∈ news, p.1 < a) → R (.ok (.ret (.ref a))) { s with heap := h', toks := tk }) :
    codeAny (model PR w) A (.call (.ref 234) ⟨[.int c tc], []⟩) R s := by
  obtain ⟨aH, aD, aF, aG, aU⟩ := A
  dsimp only at hA hroom
  subst hA
  refine' code_def B F X₀ N T rfl hf hke ?k6 ?k7 (Nat.lt_of_lt_of_le hroom (by decide)) ?k9 ?kB ?_ ?c2 ?c3 ?c4 ?c5
  case k6 => k_is
  case k7 => k_is
  case k9 => exact BindsTo.of_eq rfl
  case kB => exact locs rfl
  case c2 => exact rfl
  case c3 => exact rfl
  case c4 => exact rfl
  case c5 => decide
  intro g L' h₁ FG F' N' B' X' T'
  clear B F X₀ N T FG
  k_unmd
  k_fold
  k_steps
  all_goals (refine' leaveK_ ?k1 ?k2 ?_; (case k1 => k_asm); (case k2 => k_asm))
  all_goals intro qF qN
  · rename ((_ : Int) ≤ 2) => hle
    exact k _ _ _ _ _ _ _ _ ⟨c.fmod 2, (c.fdiv 2).fmod 3, some ((c.fdiv 2).fmod 3 + (c.fdiv 6).fmod 4), (c.fdiv 24).fmod 2, (c.fdiv 48).fmod 2⟩ (stp_ok h0 h1 fun x e => by cases e; exact ⟨by rw [Int.fmod_eq_emod_of_nonneg (c.fdiv 6) (by decide)]; omega, hle⟩) qF qN (by assumption)
  · exact k _ _ _ _ _ 0 _ _ ⟨c.fmod 2, (c.fdiv 2).fmod 3, none, (c.fdiv 24).fmod 2, (c.fdiv 48).fmod 2⟩ (stp_ok h0 h1 fun x e => by cases e) qF qN (by assumption)

end
section -- Law03
open PySem PySem.W PyProof.Rows PySem.Calls
set_option maxRecDepth 100000
set_option maxHeartbeats 8000000
structure Got {α : Type} (o : Option α) where
  val : α
  eq : o = some val
structure Uncons (l : List Stmt) where
  hd : Stmt
  tl : List Stmt
  eq : l = hd :: tl
@[reducible] def lastDef (b : List Stmt) : Option (List Stmt × Scope) := match b.getLast? with
  | some (.FunctionDef _ _ b _ _ _ sc _ _ _) => some (b, sc)
  | _ => none
def lawG : Got (lastDef PySem.Challenge.pw_vs0022_03.main.body) := ⟨(_, _), rfl⟩
def b0 : Uncons lawG.val.1 := ⟨_, _, rfl⟩
def b1 : Uncons b0.tl := ⟨_, _, rfl⟩
def b2 : Uncons b1.tl := ⟨_, _, rfl⟩
def b3 : Uncons b2.tl := ⟨_, _, rfl⟩
def b4 : Uncons b3.tl := ⟨_, _, rfl⟩
def b5 : Uncons b4.tl := ⟨_, _, rfl⟩
def b6 : Uncons b5.tl := ⟨_, _, rfl⟩
def b7 : Uncons b6.tl := ⟨_, _, rfl⟩
def b8 : Uncons b7.tl := ⟨_, _, rfl⟩
theorem b_end : b8.tl = [] := rfl
def scG : Got (some lawG.val.2) := ⟨_, rfl⟩
/-- the law's frame -/
@[reducible] def lawEnv (L fa : Addr) (cd : Value) : Env := envOfC (Str.ofString "law") (lawG.val.2) L fa cd
@[reducible] def lawA (L fa : Addr) (cd : Value) : Around := callerA.deeper (lawEnv L fa cd)
/-- the def that stands k-th from the end -/
@[reducible] def defBack (k : Nat) (b : List Stmt) : Option (List Stmt × Scope) := match b.reverse[k]? with
  | some (.FunctionDef _ _ b _ _ _ sc _ _ _) => some (b, sc)
  | _ => none
def goneG : Got (defBack 1 PySem.Challenge.pw_vs0022_03.main.body) := ⟨(_, _), rfl⟩
/-- the pieces of the gone-table's body -/
@[reducible] def forBody : Stmt → Option (List Stmt)
  | .For _ _ b _ _ => some b
  | _ => none
def gFor : Got ((goneG.val.1[2]?).bind forBody) := ⟨_, rfl⟩
def gIn : Got ((gFor.val[0]?).bind forBody) := ⟨_, rfl⟩
@[reducible] def ifeOf : Stmt → Option Expr
  | .Assign _ (.BinOp e _ _ _) _ => some e
  | _ => none
def gRead : Got ((gIn.val[0]?).bind ifeOf) := ⟨_, rfl⟩
@[reducible] def ifOf : Stmt → Option (Expr × List Stmt)
  | .If t b _ _ => some (t, b)
  | _ => none
def gIf : Got ((gIn.val[1]?).bind ifOf) := ⟨(_, _), rfl⟩
@[reducible] def tupOf : Stmt → Option (Expr × Expr)
  | .Assign _ (.Tuple [a, b] _ _) _ => some (a, b)
  | _ => none
def gKey : Got ((gIf.val.2[0]?).bind tupOf) := ⟨(_, _), rfl⟩

end
section -- Sub03
open PySem PySem.W PyProof.Rows PySem.Calls
set_option maxRecDepth 100000
set_option maxHeartbeats 8000000
local macro_rules | `(tactic| walk_at "no such line") => `(tactic| skip)
local macro_rules | `(tactic| walk_at "no such line") => `(tactic| skip)
theorem kfill_Sub02 : (PySem.Challenge.rw_vs0022_03 = PySem.Challenge.rw_vs0022_03) ∧ (hd.heap_39 = hd.heap_39) := by
  w_top off
  k_fill
  exact ⟨rfl, rfl⟩
theorem sub_nil {y b : Int} {es : List (Int × Int)} (h : subsumed y b es = subsumed y b []) : subsumed y b es = false := h
theorem sub_hit {y b c : Int} {es r : List (Int × Int)} (h : subsumed y b es = subsumed y b ((y, c) :: r)) : subsumed y b es = decide (c ≤ b) := by
  rw [h]; simp [subsumed, firstOf]
theorem sub_miss {y b c z : Int} {es r : List (Int × Int)} (h : subsumed y b es = subsumed y b ((z, c) :: r)) (hz : ¬ z = y) : subsumed y b es = subsumed y b r := by
  rw [h]; simp [subsumed, firstOf, hz]

theorem sub_spec {w : World} {A₀ A : Around} {base h₀ : Heap} {outer : List Env} {env : Env} {L : Addr} {m mg mb : Str → Option Value} {p : Program} {loose : List Str} {mean : ExcName → Option Value}
    {s : Shared} {news : List (Addr × Obj)} {R : Result → Shared → Prop}
    {self sd cA dA : Addr} {t1 t2 t3 t4 t5 : Tok} {sat : Bool} {oc : Obj} {cs : List (Int × Value)} {x y b : Int} {tx ty tb : Tok} {hv : Value} {es : List (Int × Int)}
    (B : Below A₀ base outer h₀) (F : Fr h₀ L s.heap m) (X₀ : (hd.heap_39 w.params).In h₀) (N : News h₀ L s.heap news) (T : Top p loose mean mg mb h₀)
    (hA : A.frames = some (env :: outer)) (hf : env.frame = some L) (hke : env.scope.kind = .function) (hroom : A.depth < 900)
    (n1 : (self, instObj CS sd) ∈ news) (n2 : (sd, dictOf (netEs w t1 t2 t3 t4 t5 cA dA sat) 4) ∈ news) (n3 : (cA, oc) ∈ news)
    (hoc : oc.IsDictOf (intKind PR w) cs) (lo : (cA == sysModules) = false) (hget : (valueAt cs x).getD .none = hv) (hch : ChainIn w news hv es) {res : Bool} (hres : subsumed y b es = res)
    (k : ∀ h' tk, Fr h₀ L h' m → News h₀ L h' news → R (.ok (.ret (.bool res))) { s with heap := h', toks := tk }) :
    codeAny (model PR w) A (.call (.ref 173) ⟨[.ref self, .int x tx, .int y ty, .int b tb], []⟩) R s := by
  refine' code_def B F X₀ N T hA hf hke ?k6 ?k7 (Nat.lt_of_lt_of_le hroom (by decide)) ?k9 ?kB ?_ ?c2 ?c3 ?c4 ?c5
  case k6 => k_is
  case k7 => k_is
  case k9 => exact BindsTo.of_eq rfl
  case kB => exact locs rfl
  case c2 => exact rfl
  case c3 => exact rfl
  case c4 => exact rfl
  case c5 => decide
  subst hres
  intro g L' h₁ FG F' N' B' X' T'
  clear B F X₀ N T FG
  k_fold
  subst hget
  k_steps
  unfold Stop
  k_whileD (ChainIn w) List.length (fun d₀ d => subsumed y b d₀ = subsumed y b d) "neighbor"
  all_goals k_steps
  all_goals (try dsimp only)
  all_goals (try k_unfold)
  all_goals (try dsimp only)
  · refine' leaveK_ ?k1 ?k2 ?_; (case k1 => k_asm); (case k2 => k_asm)
    intro kF kN
    rw [sub_nil (by assumption)] at k
    exact k _ _ kF kN
  · subst_vars
    refine' leaveK_ ?k1 ?k2 ?_; (case k1 => k_asm); (case k2 => k_asm)
    intro kF kN
    rw [sub_hit (by assumption)] at k
    exact k _ _ kF kN
  · refine KwdEnd0.intro (by assumption) (by assumption) (by k_sub) (by with_unfolding_all rfl) (by assumption) (sub_miss (by assumption) (by assumption)) (by kwd_less) (by kwd_same0)

end
section -- Inc03
open PySem PySem.W PyProof.Rows PySem.Calls
set_option maxRecDepth 100000
set_option maxHeartbeats 8000000
local macro_rules | `(tactic| walk_at "no such line") => `(tactic| skip)
local macro_rules | `(tactic| walk_at "no such line") => `(tactic| skip)
local macro_rules | `(tactic| walk_at "no such line") => `(tactic| skip)
theorem kfill_Inc02 : (PySem.Challenge.rw_vs0022_03 = PySem.Challenge.rw_vs0022_03) ∧ (hd.heap_39 = hd.heap_39) := by
  w_top off
  k_fill
  exact ⟨rfl, rfl⟩
theorem ints_snoc {vs : List Value} {ns : List Int} (h : IntsAre vs ns) (n : Int) (t : Tok) : IntsAre (vs ++ [.int n t]) (ns ++ [n]) := by
  induction h with
  | nil => exact .cons _ _ .nil
  | cons a u _ ih => exact .cons _ _ ih
/-- the outer loop's state -/
structure OS where
  od : Obj
  dv : List (Int × Value)
  D : Int → Int
  st : Int
  qv : List Value
  q : List Int
  μ : Nat
structure NS where
  od : Obj
  dv : List (Int × Value)
  D : Int → Int
  st : Int
  qv : List Value
  q : List Int
  nv : Value
  rest : List (Int × Int)

theorem inc_spec {w : World} {A₀ A : Around} {base h₀ : Heap} {outer : List Env} {env : Env} {L : Addr} {m mg mb : Str → Option Value} {p : Program} {loose : List Str} {mean : ExcName → Option Value}
    {s : Shared} {rest : List (Addr × Obj)} {R : Result → Shared → Prop}
    {self sd cA dA : Addr} {t1 t2 t3 t4 t5 : Tok} {sat : Bool} {oc od : Obj} {cv dv : List (Int × Value)} {ks kc : List Int} {D : Int → Int} {G : Int → List (Int × Int)} {x y b : Int} {tx ty tb : Tok}
    (B : Below A₀ base outer h₀) (F : Fr h₀ L s.heap m) (X₀ : (hd.heap_39 w.params).In h₀) 
    (N : News h₀ L s.heap ((self, instObj CS sd) :: (sd, dictOf (netEs w t1 t2 t3 t4 t5 cA dA sat) 4) :: (dA, od) :: (cA, oc) :: rest)) (T : Top p loose mean mg mb h₀)
    (hA : A.frames = some (env :: outer)) (hf : env.frame = some L) (hke : env.scope.kind = .function) (hroom : A.depth < 900)
    (e1 : self ≠ dA) (e2 : sd ≠ dA) (e3 : cA ≠ dA) (e4 : ∀ p ∈ rest, p.1 ≠ dA)
    (hoc : oc.IsDictOf (intKind PR w) cv) (hod : od.IsDictOf (intKind PR w) dv) (hD : DistIs dv ks D) (hC : ConsIs w rest cv kc G) (hkk : ∀ k ∈ ks, k ∈ kc) (P : IncPre ks G D x y b)
    (k : ∀ h' tk od' dv' D' r, Fr h₀ L h' m → News h₀ L h' ((self, instObj CS sd) :: (sd, dictOf (netEs w t1 t2 t3 t4 t5 cA dA sat) 4) :: (dA, od') :: (cA, oc) :: rest) →
      od'.IsDictOf (intKind PR w) dv' → DistIs dv' ks D' → IncPost ks G D r D' → R (.ok (.ret (.bool r))) { s with heap := h', toks := tk }) :
    codeAny (model PR w) A (.call (.ref 180) ⟨[.ref self, .int x tx, .int y ty, .int b tb], []⟩) R s := by
  refine' code_def B F X₀ N T hA hf hke ?k6 ?k7 (Nat.lt_of_lt_of_le hroom (by decide)) ?k9 ?kB ?_ ?c2 ?c3 ?c4 ?c5
  case k6 => k_is
  case k7 => k_is
  case k9 => exact BindsTo.of_eq rfl
  case kB => exact locs rfl
  case c2 => exact rfl
  case c3 => exact rfl
  case c4 => exact rfl
  case c5 => decide
  intro g L' h₁ FG F' N' B' X' T'
  clear B F X₀ N T FG
  k_fold
  obtain ⟨ux, hx⟩ := hD.2 x P.xin
  obtain ⟨uy, hy⟩ := hD.2 y P.yin
  have hlen := hD.len
  have hsix := P.six
  k_steps
  · -- the check's loop
    unfold Stop
    rename Obj.IsDictOf _ _ (stored _ _ _) => hd1
    rename ((_ : Int) < _) => hless
    rename News _ _ _ _ => lN
    rename Fr _ _ _ _ => lF
    rename AllLt _ _ => lq5
    rename cA < _ => lq4
    rename dA < _ => lq3
    rename sd < _ => lq2
    rename self < _ => lq1
    obtain ⟨μ0, hLO⟩ := LO.start P hless
    refine' ksw_while (σ := OS) (fun c => (_, dqObj c.st c.qv) :: (self, instObj CS sd) :: (sd, dictOf (netEs w t1 t2 t3 t4 t5 cA dA sat) 4) :: (dA, c.od) :: (cA, oc) :: rest) (fun _ => [])
      (fun c => c.od.IsDictOf (intKind PR w) c.dv ∧ DistIs c.dv ks c.D ∧ IntsAre c.qv c.q) [Str.ofString "c", Str.ofString "n"] (fun c => LO ks G D x y b c.D c.q c.μ) (fun c => c.μ)
      ⟨_, _, _, 1, [.int y ty], [y], μ0⟩ lF lN ⟨hd1, DistIs.store hD P.yin _ _, .cons _ _ .nil⟩ (fun _ h => nomatch h) hLO ?_
    clear lF lN hd1
    rintro ⟨od2, dv2, D2, st2, qv2, q2, μ2⟩ u2 h2 tk2 ⟨hd2, hD2, hq2⟩ hP2 lF lN
    dsimp only at hd2 hD2 hq2 hP2 lN
    have hsh := hP2.short P
    have hqe := IntsAre.length hq2
    (try dsimp only)
    change wpAny _ _ _ _ _ _
    k_fold
    cases hq2 with
    | nil =>
      k_steps
      dsimp only
      k_unfold
      dsimp only
      refine' leaveK_ ?k1 ?k2 ?_; (case k1 => k_asm); (case k2 => k_asm)
      intro kF kN
      exact k _ _ _ _ _ _ kF (News.perm kN fun p hp => .tail _ hp) hd2 hD2 hP2.done
    | cons c tc hq2 =>
      obtain ⟨hck, hP3⟩ := hP2.pop P
      obtain ⟨nv, hnv, hch⟩ := hC.2.1 c (hkk c hck)
      simp only [List.length_cons] at hqe hsh
      k_steps
      unfold Stop
      rename News _ _ _ _ => lN
      rename Fr _ _ _ _ => lF
      refine' ksw_while (σ := NS) (fun c => (_, dqObj c.st c.qv) :: (self, instObj CS sd) :: (sd, dictOf (netEs w t1 t2 t3 t4 t5 cA dA sat) 4) :: (dA, c.od) :: (cA, oc) :: rest) (fun c => [(Str.ofString "n", c.nv)])
        (fun z => z.od.IsDictOf (intKind PR w) z.dv ∧ DistIs z.dv ks z.D ∧ IntsAre z.qv z.q ∧ ChainIn w rest z.nv z.rest) [] (fun z => LIn ks G D x y b z.D z.q c z.rest μ2) (fun z => z.rest.length)
        ⟨od2, dv2, D2, st2 + 1, _, _, nv, G c⟩ lF lN ⟨hd2, hD2, hq2, hch⟩ (fun p h => by cases h with | head => rfl | tail _ h => nomatch h) hP3 ?_
      clear lF lN hd2 hq2 hch hnv hP2 hP3 hD2
      rintro ⟨od3, dv3, D3, st3, qv3, q3, nv3, rest3⟩ u3 h3 tk3 ⟨hd3, hD3, hq3, hc3⟩ hP3 lF lN
      dsimp only at hd3 hD3 hq3 hc3 hP3 lN lF
      have hsh := hP3.short P
      have hqe := IntsAre.length hq3
      (try dsimp only)
      change wpAny _ _ _ _ _ _
      k_fold
      cases hc3 with
      | nil =>
        k_steps
        obtain ⟨μ', hμ, hLO'⟩ := hP3.ends
        refine ksw_end (⟨od3, dv3, D3, st3, qv3, q3, μ'⟩ : OS) (by assumption) lN (fun p h => h) ⟨hd3, hD3, hq3⟩ (fun _ h => nomatch h) ?_ hLO' hμ
        intro z _ h3
        have hz1 : z ≠ Str.ofString "c" := by rintro rfl; exact absurd h3 (by decide)
        have hz2 : z ≠ Str.ofString "n" := by rintro rfl; exact absurd h3 (by decide)
        simp [kstB, hz1, hz2]
      | @cons a d n1 n2 n3 nt nu v wv nx r3 hm1 hm2 hc3 =>
        obtain ⟨tc3, htc⟩ := hD3.2 c hck
        obtain ⟨tv3, htv⟩ := hD3.2 v (P.src c v wv hP3.mem).2
        have hlen3 := hD3.len
        by_cases hlt : D3 c + wv < D3 v
        · by_cases hvy : v = y
          · subst hvy
            obtain ⟨hno, rfl⟩ := hP3.found P hlt
            k_steps
            · refine' leaveK_ ?k1 ?k2 ?_; (case k1 => k_asm); (case k2 => k_asm)
              intro kF kN
              exact k _ _ _ _ _ _ kF (News.perm kN fun p hp => .tail _ hp) hd3 hD3 (by unfold IncPost; simpa using hno rfl)
            · exact absurd rfl (by assumption)
          · k_steps
            · exact absurd (by assumption) hvy
            · rename Obj.IsDictOf _ _ (stored _ _ _) => hd4
              rename News _ _ _ _ => lN4
              refine ksw_end (⟨_, _, _, _, _, _, _, _⟩ : NS) (by assumption) lN4 (fun p h => h) ⟨hd4, hD3.store (P.src c v wv hP3.mem).2 _ _, ints_snoc hq3 v nt, hc3⟩ (fun p h => by cases h with | head => rfl | tail _ h => nomatch h) ?_ (hP3.lower P hlt hvy) (Nat.lt_succ_self _)
              intro z h2 h3
              have hz : z ≠ Str.ofString "n" := h2 _ (.head _)
              simp [kstB, hz]
        · k_steps
          rename News _ _ _ _ => lN4
          refine ksw_end (⟨od3, dv3, D3, st3, qv3, q3, nx, r3⟩ : NS) (by assumption) lN4 (fun p h => h) ⟨hd3, hD3, hq3, hc3⟩ (fun p h => by cases h with | head => rfl | tail _ h => nomatch h) ?_ (hP3.skip hlt) (Nat.lt_succ_self _)
          intro z h2 h3
          have hz : z ≠ Str.ofString "n" := h2 _ (.head _)
          simp [kstB, hz]
  · dsimp only
    k_unfold
    dsimp only
    refine' leaveK_ ?k1 ?k2 ?_; (case k1 => k_asm); (case k2 => k_asm)
    intro kF kN
    exact k _ _ _ _ _ _ kF kN hod hD (inc_still P (by assumption))

end
section -- Add03
open PySem PySem.W PyProof.Rows PySem.Calls
set_option maxRecDepth 100000
set_option maxHeartbeats 8000000
local macro_rules | `(tactic| walk_at "no such line") => `(tactic| skip)
local macro_rules | `(tactic| walk_at "no such line") => `(tactic| skip)
local macro_rules | `(tactic| walk_at "no such line") => `(tactic| skip)
local macro_rules | `(tactic| walk_at "no such line") => `(tactic| skip)
theorem kfill_Add02 : (PySem.Challenge.rw_vs0022_03 = PySem.Challenge.rw_vs0022_03) ∧ (hd.heap_39 = hd.heap_39) := by
  w_top off
  k_fill
  exact ⟨rfl, rfl⟩

theorem add_spec {w : World} {A₀ A : Around} {base h₀ : Heap} {outer : List Env} {env : Env} {L : Addr} {m mg mb : Str → Option Value} {p : Program} {loose : List Str} {mean : ExcName → Option Value}
    {s : Shared} {rest cl : List (Addr × Obj)} {R : Result → Shared → Prop}
    {self sd cA dA : Addr} {t1 t2 t3 t4 t5 : Tok} {sat : Bool} {oc od : Obj} {cv dv : List (Int × Value)} {E : Edges} {ks kc : List Int} {D : Int → Int} {G : Int → List (Int × Int)} {x y b : Int} {tx ty tb : Tok}
    (B : Below A₀ base outer h₀) (F : Fr h₀ L s.heap m) (X₀ : (hd.heap_39 w.params).In h₀) 
    (N : News h₀ L s.heap (netLed w self sd cA dA t1 t2 t3 t4 t5 sat od oc rest)) (T : Top p loose mean mg mb h₀)
    (hA : A.frames = some (env :: outer)) (hf : env.frame = some L) (hke : env.scope.kind = .function) (hroom : A.depth < 800)
    (nd : ND (netLed w self sd cA dA t1 t2 t3 t4 t5 sat od oc rest)) (lo1 : (dA == sysModules) = false) (lo2 : (cA == sysModules) = false)
    (hoc : oc.IsDictOf (intKind PR w) cv) (hod : od.IsDictOf (intKind PR w) dv) (hD : DistIs dv ks D) (hC : ConsIs w cl cv kc G) (hcl : ∀ p ∈ cl, p ∈ rest) (O : NetOk E ks kc D G sat) (h6 : (ks2 ks x y).length ≤ 6)
    (k : ∀ h' tk od' oc' dv' cv' ks' kc' D' G' sat' new, Fr h₀ L h' m → News h₀ L h' (netLed w self sd cA dA t1 t2 t3 t4 t5 sat' od' oc' (new ++ rest)) →
      ND (netLed w self sd cA dA t1 t2 t3 t4 t5 sat' od' oc' (new ++ rest)) →
      od'.IsDictOf (intKind PR w) dv' → oc'.IsDictOf (intKind PR w) cv' → DistIs dv' ks' D' → ConsIs w (new ++ cl) cv' kc' G' → NetOk (E ++ [(x, y, b)]) ks' kc' D' G' sat' → (∀ z ∈ ks, z ∈ ks') → R (.ok (.ret .none)) { s with heap := h', toks := tk }) :
    codeAny (model PR w) A (.call (.ref 152) ⟨[.ref self, .int x tx, .int y ty, .int b tb], []⟩) R s := by
  obtain ⟨aH, aD, aF, aG, aU⟩ := A
  dsimp only at hA hroom
  subst hA
  obtain ⟨e1, e2, e3, e4, e5, e6, a1, a2, a3, a4⟩ := nd4 nd
  have hlk : dv.length ≤ 6 := by
    rw [hD.len]
    exact Nat.le_trans (nodup_len ks (ks2 ks x y) O.nd fun v hv => mem_ks2.mpr (.inl hv)) h6
  have hlc : cv.length ≤ 6 := by
    rw [← List.length_map (f := (·.1)) (as := cv)]
    exact Nat.le_trans (nodup_len _ (ks2 ks x y) (isdict_nodup hoc) fun v hv => mem_ks2.mpr (.inl ((O.keys v).mpr (hC.1 ▸ hv)))) h6
  refine' code_def B F X₀ N T rfl hf hke ?k6 ?k7 (Nat.lt_of_lt_of_le hroom (by decide)) ?k9 ?kB ?_ ?c2 ?c3 ?c4 ?c5
  case k6 => k_is
  case k7 => k_is
  case k9 => exact BindsTo.of_eq rfl
  case kB => exact locs rfl
  case c2 => exact rfl
  case c3 => exact rfl
  case c4 => exact rfl
  case c5 => decide
  intro g L' h₁ FG F' N' B' X' T'
  clear B F X₀ N T FG
  k_fold
  dsimp only [netLed] at N'
  cases sat with
  | false =>
    k_steps
    refine' leaveK_ ?k1 ?k2 ?_; (case k1 => k_asm); (case k2 => k_asm)
    intro kF kN
    exact k _ _ _ _ _ _ _ _ _ _ _ [] kF kN nd hod hoc hD hC (O.dead x y b) (fun _ h => h)
  | true =>
    k_steps
    unfold Stop
    rename News _ _ _ _ => lN
    rename Fr _ _ _ _ => lF
    rename Obj.IsDictOf _ _ (setd cv _ _) => hc1
    rename Obj.IsDictOf _ _ (setd (setd dv _ _) _ _) => hd2
    have hC1 := hC.setd y
    cases hs : subsumed y b (G x) with
    | true =>
      refine' wpAny_call (sub_spec (by assumption) lF (by assumption) lN (by assumption) ?hA ?hf ?hke ?hr (.head _) (.tail _ (.head _)) (.tail _ (.tail _ (.tail _ (.head _)))) hc1 lo2 rfl ((hC1.mono fun p hp => .tail _ (.tail _ (.tail _ (.tail _ (hcl p hp))))).head x) hs fun h3 tk3 F' N' => ?_)
      case hA => exact rfl
      case hf => exact rfl
      case hke => exact rfl
      case hr => simp only [depth_deeper]; omega
      clear lF lN
      (try dsimp only)
      k_steps
      refine' leaveK_ ?k1 ?k2 ?_; (case k1 => k_asm); (case k2 => k_asm)
      intro kF kN
      obtain ⟨O', hx', hy'⟩ := O.same (x := x) (y := y) (b := b) hs
      have hxc := (O.keys x).mp hx'
      have hyc := (O.keys y).mp hy'
      have e1 : withKey ks x = ks := if_pos hx'
      have e2 : withKey kc y = kc := if_pos hyc
      have e3 : withKey ks y = ks := if_pos hy'
      have e4 : zeroAt ks D x = D := if_pos hx'
      have e5 : zeroAt ks D y = D := if_pos hy'
      rw [e2] at hC1
      refine k _ _ _ _ _ _ _ _ _ _ _ [] kF kN (nd_same nd rfl) hd2 hc1 ((hD.setd x _).setd y _) hC1 ?_ (fun _ h => mem_withKey.mpr (.inl (mem_withKey.mpr (.inl h))))
      rw [e1, e4, e3, e5]
      exact O'
    | false =>
      refine' wpAny_call (sub_spec (by assumption) lF (by assumption) lN (by assumption) ?hA ?hf ?hke ?hr (.head _) (.tail _ (.head _)) (.tail _ (.tail _ (.tail _ (.head _)))) hc1 lo2 rfl ((hC1.mono fun p hp => .tail _ (.tail _ (.tail _ (.tail _ (hcl p hp))))).head x) hs fun h3 tk3 F' N' => ?_)
      case hA => exact rfl
      case hf => exact rfl
      case hke => exact rfl
      case hr => simp only [depth_deeper]; omega
      clear lF lN
      (try dsimp only)
      k_steps
      unfold Stop
      rename News _ _ _ _ => lN
      rename Fr _ _ _ _ => lF
      rename Obj.IsDictOf _ _ (stored (setd cv _ _) _ _) => hc3
      rename (_ < _) => l2
      rename (self < _ ∧ _) => l1
      obtain ⟨q1, q2, q3, q4, q5⟩ := l1
      have lN5 := lN.perm (news' := (self, _) :: (sd, _) :: (dA, _) :: (cA, _) :: (_, _) :: (_, _) :: rest) (by
        intro p hp
        simp only [List.mem_cons] at hp ⊢
        rcases hp with h | h | h | h | h | h | h
        · exact .inr (.inr (.inl h))
        · exact .inr (.inr (.inr (.inl h)))
        · exact .inr (.inr (.inr (.inr (.inl h))))
        · exact .inr (.inr (.inr (.inr (.inr (.inl h)))))
        · exact .inl h
        · exact .inr (.inl h)
        · exact .inr (.inr (.inr (.inr (.inr (.inr h))))))
      have hkk : ∀ z, z ∈ ks2 ks x y ↔ z ∈ withKey (withKey kc y) x := fun z => by
        rw [mem_ks2, mem_withKey, mem_withKey, O.keys z, or_assoc, or_comm (a := z = y)]
      refine' wpAny_call (inc_spec (by assumption) lF (by assumption) lN5 (by assumption) ?hA ?hf ?hke ?hr e2 e4 e6.symm ?ap hc3 hd2 ((hD.setd x _).setd y _ : DistIs _ (ks2 ks x y) (D2 ks D x y)) 
        ((hC1.mono fun p hp => .tail _ (.tail _ (hcl p hp))).put (.cons (.head _) (.tail _ (.head _)) ((hC.head x).mono fun p hp => .tail _ (.tail _ (hcl p hp))))) (fun z hz => (hkk z).mp hz) (O.pre hs h6) fun h4 tk4 od4 dv4 D4 r F4 N4 hd4 hD4 hpost => ?_)
      case hA => exact rfl
      case hf => exact rfl
      case hke => exact rfl
      case hr => simp only [depth_deeper]; omega
      case ap =>
        intro p hp
        simp only [List.mem_cons] at hp
        rcases hp with rfl | rfl | hp
        · dsimp only; exact Nat.ne_of_gt (Nat.lt_trans q3 l2)
        · dsimp only; exact Nat.ne_of_gt q3
        · exact a3 p hp
      clear lF lN lN5
      (try dsimp only)
      k_steps
      refine' leaveK_ ?k1 ?k2 ?_; (case k1 => k_asm); (case k2 => k_asm)
      intro kF kN
      refine k _ _ _ _ _ _ _ _ _ _ _ [(_, _), (_, _)] kF kN (nd_two nd q1 q2 q3 q4 q5 l2) hd4 hc3 hD4 ?_ (O.step hs hkk hpost) (fun _ h => mem_ks2.mpr (.inl h))
      exact (hC1.mono fun p hp => .tail _ (.tail _ hp)).put (.cons (.head _) (.tail _ (.head _)) ((hC.head x).mono fun p hp => .tail _ (.tail _ hp)))

end
section -- Copy03
open PySem PySem.W PyProof.Rows PySem.Calls
set_option maxRecDepth 100000
set_option maxHeartbeats 8000000
local macro_rules | `(tactic| walk_at "no such line") => `(tactic| skip)
local macro_rules | `(tactic| walk_at "no such line") => `(tactic| skip)
local macro_rules | `(tactic| walk_at "no such line") => `(tactic| skip)
local macro_rules | `(tactic| walk_at "no such line") => `(tactic| skip)
local macro_rules | `(tactic| walk_at "no such line") => `(tactic| skip)
theorem kfill_Copy02 : (PySem.Challenge.rw_vs0022_03 = PySem.Challenge.rw_vs0022_03) ∧ (hd.heap_39 = hd.heap_39) := by
  w_top off
  k_fill
  exact ⟨rfl, rfl⟩

theorem copy_spec {w : World} {A₀ A : Around} {base h₀ : Heap} {outer : List Env} {env : Env} {L : Addr} {m mg mb : Str → Option Value} {p : Program} {loose : List Str} {mean : ExcName → Option Value}
    {s : Shared} {news : List (Addr × Obj)} {R : Result → Shared → Prop}
    {self sd cA dA : Addr} {t1 t2 t3 t4 t5 : Tok} {sat : Bool} {oc od : Obj} {cv dv : List (Int × Value)}
    (B : Below A₀ base outer h₀) (F : Fr h₀ L s.heap m) (X₀ : (hd.heap_39 w.params).In h₀) (N : News h₀ L s.heap news) (T : Top p loose mean mg mb h₀)
    (hA : A.frames = some (env :: outer)) (hf : env.frame = some L) (hke : env.scope.kind = .function) (hroom : A.depth < 800) (nd : ND news)
    (n1 : (self, instObj CS sd) ∈ news) (n2 : (sd, dictOf (netEs w t1 t2 t3 t4 t5 cA dA sat) 4) ∈ news) (n3 : (dA, od) ∈ news) (n4 : (cA, oc) ∈ news)
    (lo1 : (dA == sysModules) = false) (lo2 : (cA == sysModules) = false) (hoc : oc.IsDictOf (intKind PR w) cv) (hod : od.IsDictOf (intKind PR w) dv) (h1 : dv.length ≤ 6) (h2 : cv.length ≤ 6)
    (k : ∀ h' tk self' sd' dA' cA' u1 u2 u3 u4 od' oc', Fr h₀ L h' m → News h₀ L h' (netLed w self' sd' cA' dA' u1 u2 u3 u4 t5 sat od' oc' news) → ND (netLed w self' sd' cA' dA' u1 u2 u3 u4 t5 sat od' oc' news) →
      (dA' == sysModules) = false → (cA' == sysModules) = false → od'.IsDictOf (intKind PR w) dv → oc'.IsDictOf (intKind PR w) cv → R (.ok (.ret (.ref self'))) { s with heap := h', toks := tk }) :
    codeAny (model PR w) A (.call (.ref 145) ⟨[.ref self], []⟩) R s := by
  obtain ⟨aH, aD, aF, aG, aU⟩ := A
  dsimp only at hA hroom
  subst hA
  refine' code_def B F X₀ N T rfl hf hke ?k6 ?k7 (Nat.lt_of_lt_of_le hroom (by decide)) ?k9 ?kB ?_ ?c2 ?c3 ?c4 ?c5
  case k6 => k_is
  case k7 => k_is
  case k9 => exact BindsTo.of_eq rfl
  case kB => exact locs rfl
  case c2 => exact rfl
  case c3 => exact rfl
  case c4 => exact rfl
  case c5 => decide
  intro g L' h₁ FG F' N' B' X' T'
  clear B F X₀ N T FG
  k_fold
  k_steps
  refine' leaveK_ ?k1 ?k2 ?_; (case k1 => k_asm); (case k2 => k_asm)
  intro qF qN
  rename (∀ p ∈ news, p.1 < _) => r1
  rename (_ < _) => r4
  rename (_ < _ ∧ _ < _ ∧ _) => r3
  rename (_ < _ ∧ AllLt _ _) => r2
  exact k _ _ _ _ _ _ _ _ _ _ _ _ qF qN (nd_front4 nd r1 r2.1 r3.1 r4) (by assumption) (by assumption) (by assumption) (by assumption)

end
section -- Get03
open PySem PySem.W PyProof.Rows PySem.Calls
set_option maxRecDepth 100000
set_option maxHeartbeats 8000000
local macro_rules | `(tactic| walk_at "no such line") => `(tactic| skip)
local macro_rules | `(tactic| walk_at "no such line") => `(tactic| skip)
local macro_rules | `(tactic| walk_at "no such line") => `(tactic| skip)
local macro_rules | `(tactic| walk_at "no such line") => `(tactic| skip)
local macro_rules | `(tactic| walk_at "no such line") => `(tactic| skip)
local macro_rules | `(tactic| walk_at "no such line") => `(tactic| skip)
theorem kfill_Get02 : (PySem.Challenge.rw_vs0022_03 = PySem.Challenge.rw_vs0022_03) ∧ (hd.heap_39 = hd.heap_39) := by
  w_top off
  k_fill
  exact ⟨rfl, rfl⟩

theorem get_spec {w : World} {A₀ A : Around} {base h₀ : Heap} {outer : List Env} {env : Env} {L : Addr} {m mg mb : Str → Option Value} {p : Program} {loose : List Str} {mean : ExcName → Option Value}
    {s : Shared} {news : List (Addr × Obj)} {R : Result → Shared → Prop}
    {self sd cA dA : Addr} {t1 t2 t3 t4 t5 tx : Tok} {sat : Bool} {od : Obj} {dv : List (Int × Value)} {ks : List Int} {D : Int → Int} {x : Int}
    (B : Below A₀ base outer h₀) (F : Fr h₀ L s.heap m) (X₀ : (hd.heap_39 w.params).In h₀) (N : News h₀ L s.heap news) (T : Top p loose mean mg mb h₀)
    (hA : A.frames = some (env :: outer)) (hf : env.frame = some L) (hke : env.scope.kind = .function) (hroom : A.depth < 800)
    (n1 : (self, instObj CS sd) ∈ news) (n2 : (sd, dictOf (netEs w t1 t2 t3 t4 t5 cA dA sat) 4) ∈ news) (n3 : (dA, od) ∈ news)
    (hod : od.IsDictOf (intKind PR w) dv) (hD : DistIs dv ks D) (hx : x ∈ ks)
    (k : ∀ h' tk t, Fr h₀ L h' m → News h₀ L h' news → R (.ok (.ret (.int (-(D x)) t))) { s with heap := h', toks := tk }) :
    codeAny (model PR w) A (.call (.ref 166) ⟨[.ref self, .int x tx], []⟩) R s := by
  obtain ⟨aH, aD, aF, aG, aU⟩ := A
  dsimp only at hA hroom
  subst hA
  obtain ⟨t, ht⟩ := hD.2 x hx
  refine' code_def B F X₀ N T rfl hf hke ?k6 ?k7 (Nat.lt_of_lt_of_le hroom (by decide)) ?k9 ?kB ?_ ?c2 ?c3 ?c4 ?c5
  case k6 => k_is
  case k7 => k_is
  case k9 => exact BindsTo.of_eq rfl
  case kB => exact locs rfl
  case c2 => exact rfl
  case c3 => exact rfl
  case c4 => exact rfl
  case c5 => decide
  intro g L' h₁ FG F' N' B' X' T'
  clear B F X₀ N T FG
  k_fold
  k_steps
  dsimp only
  k_unfold
  dsimp only
  refine' leaveK_ ?k1 ?k2 ?_; (case k1 => k_asm); (case k2 => k_asm)
  intro qF qN
  rw [show -(D x) = -1 * D x by omega] at k
  exact k _ _ _ qF qN

theorem check_spec {w : World} {A₀ A : Around} {base h₀ : Heap} {outer : List Env} {env : Env} {L : Addr} {m mg mb : Str → Option Value} {p : Program} {loose : List Str} {mean : ExcName → Option Value}
    {s : Shared} {news : List (Addr × Obj)} {R : Result → Shared → Prop}
    {self sd cA dA : Addr} {t1 t2 t3 t4 t5 : Tok} {sat : Bool}
    (B : Below A₀ base outer h₀) (F : Fr h₀ L s.heap m) (X₀ : (hd.heap_39 w.params).In h₀) (N : News h₀ L s.heap news) (T : Top p loose mean mg mb h₀)
    (hA : A.frames = some (env :: outer)) (hf : env.frame = some L) (hke : env.scope.kind = .function) (hroom : A.depth < 800)
    (n1 : (self, instObj CS sd) ∈ news) (n2 : (sd, dictOf (netEs w t1 t2 t3 t4 t5 cA dA sat) 4) ∈ news)
    (k : ∀ h' tk, Fr h₀ L h' m → News h₀ L h' news → R (.ok (.ret (.bool sat))) { s with heap := h', toks := tk }) :
    codeAny (model PR w) A (.call (.ref 159) ⟨[.ref self], []⟩) R s := by
  obtain ⟨aH, aD, aF, aG, aU⟩ := A
  dsimp only at hA hroom
  subst hA
  refine' code_def B F X₀ N T rfl hf hke ?k6 ?k7 (Nat.lt_of_lt_of_le hroom (by decide)) ?k9 ?kB ?_ ?c2 ?c3 ?c4 ?c5
  case k6 => k_is
  case k7 => k_is
  case k9 => exact BindsTo.of_eq rfl
  case kB => exact locs rfl
  case c2 => exact rfl
  case c3 => exact rfl
  case c4 => exact rfl
  case c5 => decide
  intro g L' h₁ FG F' N' B' X' T'
  clear B F X₀ N T FG
  k_fold
  k_steps
  refine' leaveK_ ?k1 ?k2 ?_; (case k1 => k_asm); (case k2 => k_asm)
  intro qF qN
  exact k _ _ qF qN

end
section -- Loops
open PySem PySem.W PyProof.Rows PySem.Calls
set_option maxRecDepth 100000
theorem fr_with {h₀ h : Heap} {L : Addr} {m : Str → Option Value} {x : Str} {v : Value} (F : Fr h₀ L h m) (e : m x = some v) : Fr h₀ L h (fun y => if y = x then some v else m y) := by
  have q : (fun y => if y = x then some v else m y) = m := by
    funext y
    split
    · rename_i h; subst h; exact e.symm
    · rfl
  rw [q]; exact F
theorem kst_all {m : Str → Option Value} {ps : List (Str × Value)} (h : ∀ p ∈ ps, m p.1 = some p.2) : ∃ m' : Str → Option Value, m = kstB m' ps := ⟨m, funext fun z => by
  induction ps with
  | nil => rfl
  | cons p r ih =>
    show m z = if z = p.1 then some p.2 else kstB m r z
    split
    · rename_i e; rw [e]; exact h p (.head _)
    · exact ih fun q hq => h q (.tail _ hq)⟩
theorem m_with {m : Str → Option Value} {x : Str} {v : Value} (e : m x = some v) : ∃ m' : Str → Option Value, m = fun y => if y = x then some v else m' y := ⟨m, by
  funext y
  split
  · rename_i h; subst h; exact e
  · rfl⟩
section
variable {prog : Program} {w : World} {A : Around} {E : Value → Shared → Prop} {s : Shared} {env : Env} {h₀ : Heap} {x : Str} {body : List Stmt} {Q : Flow → Shared → Prop} {target : Expr}

theorem rangeRest_inv {I : Addr} {a : Int} {n : Nat} (J : Nat → (Str → Option Value) → List (Addr × Obj) → Prop)
    (turn : ∀ i m news t h tk it, i < n → J i m news → (∀ p ∈ news, p.1 ≠ I) → Fr h₀ env.locals h (fun y => if y = x then some (.int (a + (i : Int)) t) else m y) → News h₀ env.locals h ((I, it) :: news) →
      wpAny (model prog w) A (execs body env) (UnrPost h₀ env.locals { s with heap := h, toks := tk } I it (J (i + 1)) Q) E { s with heap := h, toks := tk })
    (done : ∀ m news h tk, J n m news → Fr h₀ env.locals h m → News h₀ env.locals h news → Q .next { s with heap := h, toks := tk }) :
    ∀ k i m news, i + k = n → (∀ p ∈ news, p.1 ≠ I) → J i m news → RangeRest prog w A E h₀ env x body Q s I a n k i m news
  | 0, i, m, news, e, _, hJ => fun h tk F N => done m news h tk (by rw [Nat.add_zero] at e; rw [← e]; exact hJ) F N
  | k + 1, i, m, news, e, ho, hJ => fun t h tk F N => by
    refine wpAny_mono (turn i m news t h tk _ (by omega) hJ ho F N) (fun f s₂ p => ?_) fun _ _ e => e
    have fin : UnrEnd h₀ env.locals { s with heap := h, toks := tk } I (itR (a + ((i + 1 : Nat) : Int)) ((n : Int) - ((i + 1 : Nat) : Int))) (J (i + 1)) s₂ → UnrEnd h₀ env.locals { s with heap := h, toks := tk } I (itR (a + ((i + 1 : Nat) : Int)) ((n : Int) - ((i + 1 : Nat) : Int))) (RangeRest prog w A E h₀ env x body Q s I a n k (i + 1)) s₂ := by
      rintro ⟨h', tk', m', news', e', F', N', ho', r⟩
      exact ⟨h', tk', m', news', e', F', N', ho', rangeRest_inv J turn done k (i + 1) m' news' (by omega) ho' r⟩
    cases f with
    | ret v => exact p
    | brk => exact p
    | next => exact fin p
    | cont => exact fin p

theorem pyIter_range_inv {r : Addr} {a₀ b₀ : Int} {t₀ u₀ v₀ : Tok} {n : Nat} {m₀ : Str → Option Value} {news : List (Addr × Obj)} (J : Nat → (Str → Option Value) → List (Addr × Obj) → Prop)
    (hh : A.handled = none) (hr : IsRange s.heap r a₀ b₀ 1 t₀ u₀ v₀) (hsmall : Builtin.Range.small a₀ b₀ 1 = true) (hn : Builtin.Range.rangeSize a₀ b₀ 1 = (n : Int)) (F : Fr h₀ env.locals s.heap m₀) (N : News h₀ env.locals s.heap news) (h0 : J 0 m₀ news)
    (turn : ∀ I i m news t h tk it, i < n → J i m news → (∀ p ∈ news, p.1 ≠ I) → Fr h₀ env.locals h (fun y => if y = x then some (.int (a₀ + (i : Int)) t) else m y) → News h₀ env.locals h ((I, it) :: news) →
      wpAny (model prog w) A (execs body env) (UnrPost h₀ env.locals { s with heap := h, toks := tk } I it (J (i + 1)) Q) E { s with heap := h, toks := tk })
    (done : ∀ m news h tk, J n m news → Fr h₀ env.locals h m → News h₀ env.locals h news → Q .next { s with heap := h, toks := tk }) :
    wpAny (model prog w) A (pyIter (.ref r)) (fun it s₂ => LoopAtV prog w A h₀ env x body Q E it s₂) E s :=
  iter_rangeUnr hh hr hsmall hn F N fun I hI => rangeRest_inv J (turn I) done n 0 m₀ news (Nat.zero_add n) (fun p hp => Nat.ne_of_lt (hI p hp)) h0

theorem itemsRest_inv {I ax : Addr} {lo : Obj} {nm : String} (vs : List Value) (J : Nat → (Str → Option Value) → List (Addr × Obj) → Prop) (keep : ∀ i m news, J i m news → (ax, lo) ∈ news)
    (turn : ∀ i v m news h tk it, vs[i]? = some v → J i m news → (∀ p ∈ news, p.1 ≠ I) → Fr h₀ env.locals h m → News h₀ env.locals h ((I, it) :: news) →
      wpAny (model prog w) A (assign target env v) (fun _ s₂ => wpAny (model prog w) A (execs body env) (UnrPost h₀ env.locals { s with heap := h, toks := tk } I it (J (i + 1)) Q) E s₂) E { s with heap := h, toks := tk })
    (done : ∀ m news h tk, J vs.length m news → Fr h₀ env.locals h m → News h₀ env.locals h news → Q .next { s with heap := h, toks := tk }) :
    ∀ r i m news, vs.drop i = r → i ≤ vs.length → (∀ p ∈ news, p.1 ≠ I) → J i m news → ItemsRest prog w A E h₀ env target body Q s [(I, nm)] [(ax, lo)] (r.map .val) m news
  | [], i, m, news, e, hi, _, hJ => fun h tk F N => by
    have e2 : i = vs.length := by
      have := congrArg List.length e
      simp only [List.length_drop, List.length_nil] at this
      omega
    subst e2
    exact done m news h tk hJ F N
  | v :: r, i, m, news, e, hi, ho, hJ => ItemsRest.val fun h tk F => by
    refine AllObj.cons fun o hc => AllObj.nil fun N => ?_
    have hv : vs[i]? = some v := by
      have := congrArg List.head? e
      rw [List.head?_drop] at this
      exact this
    have hlt : i < vs.length := by
      have := List.getElem?_eq_some_iff.mp hv
      exact this.1
    refine wpAny_mono (turn i v m news h tk o hv hJ ho F N) (fun _ s₂ q => wpAny_mono q (fun f s₃ p => ?_) fun _ _ e => e) fun _ _ e => e
    have fin : UnrEnd h₀ env.locals { s with heap := h, toks := tk } I o (J (i + 1)) s₃ → UnrEndW h₀ env.locals { s with heap := h, toks := tk } [(I, o)] (fun m' n' => SubL [(ax, lo)] n' ∧ ItemsRest prog w A E h₀ env target body Q s [(I, nm)] [(ax, lo)] (r.map .val) m' n') s₃ := by
      rintro ⟨h', tk', m', news', e', F', N', ho', q⟩
      refine ⟨h', tk', m', news', e', F', N', fun p hp q hq => ?_, ⟨keep _ _ _ q, trivial⟩, itemsRest_inv vs J keep turn done r (i + 1) m' news' ?_ hlt ho' q⟩
      · rw [List.mem_singleton.mp hq]; exact ho' p hp
      · rw [← List.tail_drop, e]; rfl
    cases f with
    | ret v => exact p
    | brk => exact p
    | next => exact fin p
    | cont => exact fin p

theorem pyIter_list_inv {ax : Addr} {lo : Obj} {vs : List Value} {n : Nat} {m₀ : Str → Option Value} {news : List (Addr × Obj)} (J : Nat → (Str → Option Value) → List (Addr × Obj) → Prop)
    (hh : A.handled = none) (F : Fr h₀ env.locals s.heap m₀) (N : News h₀ env.locals s.heap news) (hm : (ax, lo) ∈ news) (hc : lo.cls = .type "list") (hd : lo.data = .seq vs.toArray n) (h0 : J 0 m₀ news) (keep : ∀ i m news, J i m news → (ax, lo) ∈ news)
    (turn : ∀ I i v m news h tk it, vs[i]? = some v → J i m news → (∀ p ∈ news, p.1 ≠ I) → Fr h₀ env.locals h m → News h₀ env.locals h ((I, it) :: news) →
      wpAny (model prog w) A (assign target env v) (fun _ s₂ => wpAny (model prog w) A (execs body env) (UnrPost h₀ env.locals { s with heap := h, toks := tk } I it (J (i + 1)) Q) E s₂) E { s with heap := h, toks := tk })
    (done : ∀ m news h tk, J vs.length m news → Fr h₀ env.locals h m → News h₀ env.locals h news → Q .next { s with heap := h, toks := tk }) :
    wpAny (model prog w) A (pyIter (.ref ax)) (fun it s₂ => TurnsAt prog w A h₀ env target body Q E it s₂) E s :=
  iter_listTurns hh F N hm hc hd fun I hI => itemsRest_inv vs J keep (turn I) done vs 0 m₀ news (by rw [List.drop_zero]) (Nat.zero_le _) (fun p hp => Nat.ne_of_lt (hI p hp)) h0
end

theorem item_at {prog : Program} {w : World} {A : Around} {E : Value → Shared → Prop} {s : Shared} {value slice : Expr} {Q : Value → Shared → Prop} {h₀ : Heap} {L l : Addr} {news : List (Addr × Obj)} {vs : List Value} {x : Value} {k : Int} {i n : Nat} {t : Tok} (N : News h₀ L s.heap news) (hm : (l, listOf vs.toArray n) ∈ news) (hk : k = (i : Int)) (hi : i < 100) (hx : vs[i]? = some x) (h : Q x s)
    (hs : subscripted slice false (.ref l) (.int k t) = operate [.ref l, .int k t] (getItem (.ref l) (.int k t)) := by with_unfolding_all rfl) :
    wpAny (model prog w) A (subscriptTail value slice (.ref l) (.int k t)) Q E s := by
  have hl : s.heap.IsList l vs.toArray := News.isList N hm
  have hi' : (i : Int) < 100 := by omega
  exact tail_any hl.typeIs slot_list_getitem.lookup (wpAny_getItem_list hl (by omega) (by omega) (x := x) (by rw [hk]; simpa using hx) h) hs
/- what stands apart, by pairs -/
theorem nd_cons {p : Addr × Obj} {l : List (Addr × Obj)} : ((p :: l).map (·.1)).Nodup ↔ (∀ q ∈ l, q.1 ≠ p.1) ∧ (l.map (·.1)).Nodup := by
  rw [List.map_cons, List.nodup_cons]
  constructor
  · exact fun h => ⟨fun q hq e => h.1 (e ▸ List.mem_map_of_mem hq), h.2⟩
  · exact fun h => ⟨fun e => by obtain ⟨q, hq, e⟩ := List.mem_map.mp e; exact h.1 q hq e, h.2⟩
theorem all_cons {p : Addr × Obj} {l : List (Addr × Obj)} {a : Addr} : (∀ q ∈ p :: l, q.1 ≠ a) ↔ @Ne Nat p.1 a ∧ ∀ q ∈ l, q.1 ≠ a := List.forall_mem_cons
theorem all_nil {a : Addr} : (∀ q ∈ ([] : List (Addr × Obj)), q.1 ≠ a) ↔ True := ⟨fun _ => trivial, fun _ _ h => nomatch h⟩

end
section -- LawDefs3
open PySem PySem.W PyProof.Rows PySem.Calls
set_option maxRecDepth 100000
set_option maxHeartbeats 8000000
@[reducible] def tup3 (x y b : Int) (t1 t2 t3 : Tok) : Obj := { cls := .type "tuple", data := .seq [.int x t1, .int y t2, .int b t3].toArray 0 }
inductive TupsIn (led : List (Addr × Obj)) : List Value → Edges → Prop
  | nil : TupsIn led [] []
  | snoc {vs : List Value} {es : Edges} {a : Addr} {x y b : Int} {t1 t2 t3 : Tok} : TupsIn led vs es → (a, tup3 x y b t1 t2 t3) ∈ led → TupsIn led (vs ++ [.ref a]) (es ++ [(x, y, b)])
theorem TupsIn.mono {led led' : List (Addr × Obj)} (hs : ∀ p ∈ led, p ∈ led') {vs : List Value} {es : Edges} (h : TupsIn led vs es) : TupsIn led' vs es := by
  induction h with
  | nil => exact .nil
  | snoc _ m ih => exact .snoc ih (hs _ m)
/- a ledger's addresses all unlike, in omega's words -/
theorem nd_c {p : Addr × Obj} {l : List (Addr × Obj)} : ND (p :: l) ↔ (∀ q ∈ l, q.1 ≠ p.1) ∧ ND l := nd_cons
theorem nd_nil : ND [] := List.nodup_nil
theorem nd_new {a : Addr} {o : Obj} {l : List (Addr × Obj)} (h : ND l) (ha : ∀ p ∈ l, p.1 < a) : ND ((a, o) :: l) := nd_c.mpr ⟨fun q hq => Nat.ne_of_lt (ha q hq), h⟩
theorem nd_comm (l1 l2 : List (Addr × Obj)) {r : List (Addr × Obj)} (h : ND (l1 ++ l2 ++ r)) : ND (l2 ++ l1 ++ r) :=
  ((List.Perm.append_right r (List.perm_append_comm (l₁ := l1) (l₂ := l2))).map (·.1)).nodup_iff.mp h
theorem news_comm (l1 l2 : List (Addr × Obj)) {r : List (Addr × Obj)} {h₀ h : Heap} {L : Addr} (N : News h₀ L h (l1 ++ l2 ++ r)) : News h₀ L h (l2 ++ l1 ++ r) :=
  N.perm fun p hp => ((List.Perm.append_right r (List.perm_append_comm (l₁ := l2) (l₂ := l1))).mem_iff).mp hp
theorem lt_cons {p : Addr × Obj} {l : List (Addr × Obj)} {a : Addr} (h : p.1 < a) (h' : ∀ q ∈ l, q.1 < a) : ∀ q ∈ p :: l, q.1 < a := List.forall_mem_cons.mpr ⟨h, h'⟩
theorem lt_all {a : Addr} : ∀ {l : List (Addr × Obj)}, AllLt a l → ∀ p ∈ l, p.1 < a
  | [], _, _, hp => nomatch hp
  | _ :: _, h, _, hp => by
    cases hp with
    | head => exact h.1
    | tail _ hp => exact lt_all h.2 _ hp

end
section -- NetV3
open PySem PySem.W PyProof.Rows PySem.Calls
set_option maxRecDepth 100000
set_option maxHeartbeats 4000000
/-- what is known of a network that stands in the heap -/
structure NetV where
  self : Addr
  sd : Addr
  cA : Addr
  dA : Addr
  t1 : Tok
  t2 : Tok
  t3 : Tok
  t4 : Tok
  t5 : Tok
  sat : Bool
  od : Obj
  oc : Obj
  dv : List (Int × Value)
  cv : List (Int × Value)
  ks : List Int
  kc : List Int
  D : Int → Int
  G : Int → List (Int × Int)
@[reducible] def NetV.led (w : World) (v : NetV) (rest : List (Addr × Obj)) : List (Addr × Obj) := netLed w v.self v.sd v.cA v.dA v.t1 v.t2 v.t3 v.t4 v.t5 v.sat v.od v.oc rest
structure NetV.Ok (w : World) (v : NetV) (rest : List (Addr × Obj)) (E : Edges) : Prop where
  lo1 : (v.dA == sysModules) = false
  lo2 : (v.cA == sysModules) = false
  hoc : v.oc.IsDictOf (intKind PR w) v.cv
  hod : v.od.IsDictOf (intKind PR w) v.dv
  hD : DistIs v.dv v.ks v.D
  hC : ConsIs w rest v.cv v.kc v.G
  O : NetOk E v.ks v.kc v.D v.G v.sat
structure NetV.In (w : World) (v : NetV) (news : List (Addr × Obj)) : Prop where
  i1 : (v.self, instObj CS v.sd) ∈ news
  i2 : (v.sd, dictOf (netEs w v.t1 v.t2 v.t3 v.t4 v.t5 v.cA v.dA v.sat) 4) ∈ news
  i3 : (v.dA, v.od) ∈ news
  i4 : (v.cA, v.oc) ∈ news
theorem NetV.here (w : World) (v : NetV) (rest : List (Addr × Obj)) : v.In w (v.led w rest) := ⟨.head _, .tail _ (.head _), .tail _ (.tail _ (.head _)), .tail _ (.tail _ (.tail _ (.head _)))⟩
theorem NetV.In.mono {w : World} {v : NetV} {news news' : List (Addr × Obj)} (h : v.In w news) (hs : ∀ p ∈ news, p ∈ news') : v.In w news' := ⟨hs _ h.i1, hs _ h.i2, hs _ h.i3, hs _ h.i4⟩
theorem NetV.Ok.mono {w : World} {v : NetV} {r r' : List (Addr × Obj)} {E : Edges} (h : v.Ok w r E) (hs : ∀ p ∈ r, p ∈ r') : v.Ok w r' E := ⟨h.lo1, h.lo2, h.hoc, h.hod, h.hD, h.hC.mono hs, h.O⟩
/-- events are 0 to 5 -/
def Six (E : Edges) : Prop := ∀ u v w, (u, v, w) ∈ E → (0 ≤ u ∧ u ≤ 5) ∧ 0 ≤ v ∧ v ≤ 5
theorem Six.append {E E' : Edges} (h : Six E) (h' : Six E') : Six (E ++ E') := fun u v w m => (List.mem_append.mp m).elim (h u v w) (h' u v w)
theorem Six.one {x y b : Int} (hx : 0 ≤ x ∧ x ≤ 5) (hy : 0 ≤ y ∧ y ≤ 5) : Six [(x, y, b)] := fun u v w m => by
  have e := List.mem_singleton.mp m
  cases e
  exact ⟨hx, hy⟩
theorem six_in {k : Int} (h : 0 ≤ k ∧ k ≤ 5) : k ∈ ([0, 1, 2, 3, 4, 5] : List Int) := by
  have : k = 0 ∨ k = 1 ∨ k = 2 ∨ k = 3 ∨ k = 4 ∨ k = 5 := by omega
  rcases this with rfl | rfl | rfl | rfl | rfl | rfl <;> simp
theorem NetOk.within {E : Edges} {ks kc : List Int} {D : Int → Int} {G : Int → List (Int × Int)} {sat : Bool} (O : NetOk E ks kc D G sat) (h : Six E) : ∀ k ∈ ks, 0 ≤ k ∧ k ≤ 5 := fun k hk => by
  obtain ⟨u, v, w, m, e⟩ := O.nodes k hk
  have := h u v w m
  rcases e with rfl | rfl
  · exact this.1
  · exact this.2
theorem NetOk.six {E : Edges} {ks kc : List Int} {D : Int → Int} {G : Int → List (Int × Int)} {sat : Bool} (O : NetOk E ks kc D G sat) (h : Six E) {x y : Int} (hx : 0 ≤ x ∧ x ≤ 5) (hy : 0 ≤ y ∧ y ≤ 5) : (ks2 ks x y).length ≤ 6 :=
  nodup_len _ [0, 1, 2, 3, 4, 5] (nodup_withKey (nodup_withKey O.nd)) fun k hk => by
    rcases mem_ks2.mp hk with hk | rfl | rfl
    · exact six_in (O.within h k hk)
    · exact six_in hx
    · exact six_in hy
def Six6 (v : NetV) : Prop := ∀ e, 0 ≤ e → e ≤ 5 → e ∈ v.ks
theorem Six6.at {v : NetV} {e : Int} (h : Six6 v) (h0 : 0 ≤ e) (h5 : e ≤ 5) : e ∈ v.ks := h e h0 h5
section
variable {w : World} {A₀ A : Around} {base h₀ : Heap} {outer : List Env} {env : Env} {L : Addr} {m mg mb : Str → Option Value} {p : Program} {loose : List Str} {mean : ExcName → Option Value} {s : Shared} {rest news cl : List (Addr × Obj)} {R : Result → Shared → Prop} {v : NetV} {E : Edges} {x y b : Int} {tx ty tb : Tok}
theorem addV (B : Below A₀ base outer h₀) (F : Fr h₀ L s.heap m) (X₀ : (hd.heap_39 w.params).In h₀) (N : News h₀ L s.heap (v.led w rest)) (T : Top p loose mean mg mb h₀)
    (hA : A.frames = some (env :: outer)) (hf : env.frame = some L) (hke : env.scope.kind = .function) (hroom : A.depth < 800)
    (nd : ND (v.led w rest)) (O : v.Ok w cl E) (hcl : ∀ p ∈ cl, p ∈ rest) (h6 : Six E) (hx : 0 ≤ x ∧ x ≤ 5) (hy : 0 ≤ y ∧ y ≤ 5)
    (k : ∀ h' tk (v' : NetV) (new : List (Addr × Obj)), v'.self = v.self → Fr h₀ L h' m → News h₀ L h' (v'.led w (new ++ rest)) → ND (v'.led w (new ++ rest)) → v'.Ok w (new ++ cl) (E ++ [(x, y, b)]) → R (.ok (.ret .none)) { s with heap := h', toks := tk }) :
    codeAny (model PR w) A (.call (.ref 152) ⟨[.ref v.self, .int x tx, .int y ty, .int b tb], []⟩) R s :=
  add_spec B F X₀ N T hA hf hke hroom nd O.lo1 O.lo2 O.hoc O.hod O.hD O.hC hcl O.O (O.O.six h6 hx hy) fun h' tk od' oc' dv' cv' ks' kc' D' G' sat' new F' N' nd' a1 a2 a3 a4 a5 _ =>
    k h' tk { v with sat := sat', od := od', oc := oc', dv := dv', cv := cv', ks := ks', kc := kc', D := D', G := G' } new rfl F' N' nd' ⟨O.lo1, O.lo2, a2, a1, a3, a4, a5⟩
theorem NetV.Ok.lens (O : v.Ok w rest E) (h6 : Six E) : v.dv.length ≤ 6 ∧ v.cv.length ≤ 6 := by
  have h1 : v.ks.length ≤ 6 := nodup_len _ [0, 1, 2, 3, 4, 5] O.O.nd fun k hk => six_in (O.O.within h6 k hk)
  refine ⟨by rw [O.hD.len]; exact h1, ?_⟩
  rw [← List.length_map (f := (·.1)) (as := v.cv)]
  exact Nat.le_trans (nodup_len _ v.ks (isdict_nodup O.hoc) fun v hv => (O.O.keys v).mpr (O.hC.1 ▸ hv)) h1
theorem copyV (B : Below A₀ base outer h₀) (F : Fr h₀ L s.heap m) (X₀ : (hd.heap_39 w.params).In h₀) (N : News h₀ L s.heap news) (T : Top p loose mean mg mb h₀)
    (hA : A.frames = some (env :: outer)) (hf : env.frame = some L) (hke : env.scope.kind = .function) (hroom : A.depth < 800) (nd : ND news) (I : v.In w news) (O : v.Ok w cl E) (h6 : Six E)
    (k : ∀ h' tk (v' : NetV), Fr h₀ L h' m → News h₀ L h' (v'.led w news) → ND (v'.led w news) → v'.Ok w cl E → v'.sat = v.sat → R (.ok (.ret (.ref v'.self))) { s with heap := h', toks := tk }) :
    codeAny (model PR w) A (.call (.ref 145) ⟨[.ref v.self], []⟩) R s :=
  copy_spec B F X₀ N T hA hf hke hroom nd I.i1 I.i2 I.i3 I.i4 O.lo1 O.lo2 O.hoc O.hod (O.lens h6).1 (O.lens h6).2 fun h' tk self' sd' dA' cA' u1 u2 u3 u4 od' oc' F' N' nd' l1 l2 a1 a2 =>
    k h' tk ⟨self', sd', cA', dA', u1, u2, u3, u4, v.t5, v.sat, od', oc', v.dv, v.cv, v.ks, v.kc, v.D, v.G⟩ F' N' nd' ⟨l1, l2, a2, a1, O.hD, O.hC, O.O⟩ rfl
theorem getV (B : Below A₀ base outer h₀) (F : Fr h₀ L s.heap m) (X₀ : (hd.heap_39 w.params).In h₀) (N : News h₀ L s.heap news) (T : Top p loose mean mg mb h₀)
    (hA : A.frames = some (env :: outer)) (hf : env.frame = some L) (hke : env.scope.kind = .function) (hroom : A.depth < 800) (I : v.In w news) (O : v.Ok w rest E) (hx : x ∈ v.ks)
    (k : ∀ h' tk t, Fr h₀ L h' m → News h₀ L h' news → R (.ok (.ret (.int (-(v.D x)) t))) { s with heap := h', toks := tk }) :
    codeAny (model PR w) A (.call (.ref 166) ⟨[.ref v.self, .int x tx], []⟩) R s :=
  get_spec B F X₀ N T hA hf hke hroom I.i1 I.i2 I.i3 O.hod O.hD hx k
theorem checkV (B : Below A₀ base outer h₀) (F : Fr h₀ L s.heap m) (X₀ : (hd.heap_39 w.params).In h₀) (N : News h₀ L s.heap news) (T : Top p loose mean mg mb h₀)
    (hA : A.frames = some (env :: outer)) (hf : env.frame = some L) (hke : env.scope.kind = .function) (hroom : A.depth < 800) (I : v.In w news)
    (k : ∀ h' tk, Fr h₀ L h' m → News h₀ L h' news → R (.ok (.ret (.bool v.sat))) { s with heap := h', toks := tk }) :
    codeAny (model PR w) A (.call (.ref 159) ⟨[.ref v.self], []⟩) R s :=
  check_spec B F X₀ N T hA hf hke hroom I.i1 I.i2 k
theorem checkVb {b : Bool} (hb : v.sat = b) (B : Below A₀ base outer h₀) (F : Fr h₀ L s.heap m) (X₀ : (hd.heap_39 w.params).In h₀) (N : News h₀ L s.heap news) (T : Top p loose mean mg mb h₀)
    (hA : A.frames = some (env :: outer)) (hf : env.frame = some L) (hke : env.scope.kind = .function) (hroom : A.depth < 800) (I : v.In w news)
    (k : ∀ h' tk, Fr h₀ L h' m → News h₀ L h' news → R (.ok (.ret (.bool b))) { s with heap := h', toks := tk }) :
    codeAny (model PR w) A (.call (.ref 159) ⟨[.ref v.self], []⟩) R s :=
  checkV B F X₀ N T hA hf hke hroom I (hb ▸ k)
theorem copyVb {b : Bool} (hb : v.sat = b) (B : Below A₀ base outer h₀) (F : Fr h₀ L s.heap m) (X₀ : (hd.heap_39 w.params).In h₀) (N : News h₀ L s.heap news) (T : Top p loose mean mg mb h₀)
    (hA : A.frames = some (env :: outer)) (hf : env.frame = some L) (hke : env.scope.kind = .function) (hroom : A.depth < 800) (nd : ND news) (I : v.In w news) (O : v.Ok w cl E) (h6 : Six E)
    (k : ∀ h' tk (v' : NetV), Fr h₀ L h' m → News h₀ L h' (v'.led w news) → ND (v'.led w news) → v'.Ok w cl E → v'.sat = b → R (.ok (.ret (.ref v'.self))) { s with heap := h', toks := tk }) :
    codeAny (model PR w) A (.call (.ref 145) ⟨[.ref v.self], []⟩) R s :=
  copyV B F X₀ N T hA hf hke hroom nd I O h6 (hb ▸ k)
theorem checkA {a : Addr} (ha : v.self = a) (B : Below A₀ base outer h₀) (F : Fr h₀ L s.heap m) (X₀ : (hd.heap_39 w.params).In h₀) (N : News h₀ L s.heap news) (T : Top p loose mean mg mb h₀)
    (hA : A.frames = some (env :: outer)) (hf : env.frame = some L) (hke : env.scope.kind = .function) (hroom : A.depth < 800) (I : v.In w news)
    (k : ∀ h' tk, Fr h₀ L h' m → News h₀ L h' news → R (.ok (.ret (.bool v.sat))) { s with heap := h', toks := tk }) :
    codeAny (model PR w) A (.call (.ref 159) ⟨[.ref a], []⟩) R s := ha ▸ checkV B F X₀ N T hA hf hke hroom I k
theorem addA {a : Addr} (ha : v.self = a) (B : Below A₀ base outer h₀) (F : Fr h₀ L s.heap m) (X₀ : (hd.heap_39 w.params).In h₀) (N : News h₀ L s.heap (v.led w rest)) (T : Top p loose mean mg mb h₀)
    (hA : A.frames = some (env :: outer)) (hf : env.frame = some L) (hke : env.scope.kind = .function) (hroom : A.depth < 800)
    (nd : ND (v.led w rest)) (O : v.Ok w cl E) (hcl : ∀ p ∈ cl, p ∈ rest) (h6 : Six E) (hx : 0 ≤ x ∧ x ≤ 5) (hy : 0 ≤ y ∧ y ≤ 5)
    (k : ∀ h' tk (v' : NetV) (new : List (Addr × Obj)), v'.self = a → Fr h₀ L h' m → News h₀ L h' (v'.led w (new ++ rest)) → ND (v'.led w (new ++ rest)) → v'.Ok w (new ++ cl) (E ++ [(x, y, b)]) → R (.ok (.ret .none)) { s with heap := h', toks := tk }) :
    codeAny (model PR w) A (.call (.ref 152) ⟨[.ref a, .int x tx, .int y ty, .int b tb], []⟩) R s := by
  subst ha
  exact addV B F X₀ N T hA hf hke hroom nd O hcl h6 hx hy k
theorem copyA {a : Addr} (ha : v.self = a) (B : Below A₀ base outer h₀) (F : Fr h₀ L s.heap m) (X₀ : (hd.heap_39 w.params).In h₀) (N : News h₀ L s.heap news) (T : Top p loose mean mg mb h₀)
    (hA : A.frames = some (env :: outer)) (hf : env.frame = some L) (hke : env.scope.kind = .function) (hroom : A.depth < 800) (nd : ND news) (I : v.In w news) (O : v.Ok w cl E) (h6 : Six E)
    (k : ∀ h' tk (v' : NetV), Fr h₀ L h' m → News h₀ L h' (v'.led w news) → ND (v'.led w news) → v'.Ok w cl E → v'.sat = v.sat → R (.ok (.ret (.ref v'.self))) { s with heap := h', toks := tk }) :
    codeAny (model PR w) A (.call (.ref 145) ⟨[.ref a], []⟩) R s := ha ▸ copyV B F X₀ N T hA hf hke hroom nd I O h6 k
theorem getA {a : Addr} (ha : v.self = a) (B : Below A₀ base outer h₀) (F : Fr h₀ L s.heap m) (X₀ : (hd.heap_39 w.params).In h₀) (N : News h₀ L s.heap news) (T : Top p loose mean mg mb h₀)
    (hA : A.frames = some (env :: outer)) (hf : env.frame = some L) (hke : env.scope.kind = .function) (hroom : A.depth < 800) (I : v.In w news) (O : v.Ok w cl E) (hx : x ∈ v.ks)
    (k : ∀ h' tk t, Fr h₀ L h' m → News h₀ L h' news → R (.ok (.ret (.int (-(v.D x)) t))) { s with heap := h', toks := tk }) :
    codeAny (model PR w) A (.call (.ref 166) ⟨[.ref a, .int x tx], []⟩) R s := ha ▸ getV B F X₀ N T hA hf hke hroom I O hx k
def Sat (E : Edges) : Prop := ∃ p, FeasE E p
theorem NetV.Ok.feas (O : v.Ok w cl E) (h : v.sat = true) : FeasE E v.D := by
  obtain ⟨g1, _, _, g4⟩ := O.O.good h
  intro a b c hm
  obtain ⟨_, _, c', hc, hle⟩ := g4 a b c hm
  have := g1 a b c' (firstOf_mem hc)
  omega
theorem NetV.Ok.sat_iff (O : v.Ok w cl E) : v.sat = true ↔ Sat E := by
  have K := O.O
  constructor
  · intro h
    obtain ⟨g1, _, _, g4⟩ := K.good h
    refine ⟨v.D, fun a b c hm => ?_⟩
    obtain ⟨_, _, c', hc, hle⟩ := g4 a b c hm
    have := g1 a b c' (firstOf_mem hc)
    omega
  · intro h
    cases hs : v.sat with
    | true => rfl
    | false => exact absurd h (K.bad hs)
theorem addK {a : Addr} (ha : v.self = a) (B : Below A₀ base outer h₀) (F : Fr h₀ L s.heap m) (X₀ : (hd.heap_39 w.params).In h₀) (N : News h₀ L s.heap (v.led w rest)) (T : Top p loose mean mg mb h₀)
    (hA : A.frames = some (env :: outer)) (hf : env.frame = some L) (hke : env.scope.kind = .function) (hroom : A.depth < 800)
    (nd : ND (v.led w rest)) (O : v.Ok w cl E) (hcl : ∀ p ∈ cl, p ∈ rest) (h6 : Six E) (hx : 0 ≤ x ∧ x ≤ 5) (hy : 0 ≤ y ∧ y ≤ 5)
    (k : ∀ h' tk (v' : NetV) (new : List (Addr × Obj)), v'.self = a → Fr h₀ L h' m → News h₀ L h' (v'.led w (new ++ rest)) → ND (v'.led w (new ++ rest)) → v'.Ok w (new ++ cl) (E ++ [(x, y, b)]) → (Six6 v → Six6 v') → R (.ok (.ret .none)) { s with heap := h', toks := tk }) :
    codeAny (model PR w) A (.call (.ref 152) ⟨[.ref a, .int x tx, .int y ty, .int b tb], []⟩) R s := by
  subst ha
  exact add_spec B F X₀ N T hA hf hke hroom nd O.lo1 O.lo2 O.hoc O.hod O.hD O.hC hcl O.O (O.O.six h6 hx hy) fun h' tk od' oc' dv' cv' ks' kc' D' G' sat' new F' N' nd' a1 a2 a3 a4 a5 a6 =>
    k h' tk { v with sat := sat', od := od', oc := oc', dv := dv', cv := cv', ks := ks', kc := kc', D := D', G := G' } new rfl F' N' nd' ⟨O.lo1, O.lo2, a2, a1, a3, a4, a5⟩ fun h e h0 h5 => a6 _ (h e h0 h5)
theorem copyK {a : Addr} (ha : v.self = a) (B : Below A₀ base outer h₀) (F : Fr h₀ L s.heap m) (X₀ : (hd.heap_39 w.params).In h₀) (N : News h₀ L s.heap news) (T : Top p loose mean mg mb h₀)
    (hA : A.frames = some (env :: outer)) (hf : env.frame = some L) (hke : env.scope.kind = .function) (hroom : A.depth < 800) (nd : ND news) (I : v.In w news) (O : v.Ok w cl E) (h6 : Six E)
    (k : ∀ h' tk (v' : NetV), Fr h₀ L h' m → News h₀ L h' (v'.led w news) → ND (v'.led w news) → v'.Ok w cl E → (Six6 v → Six6 v') → R (.ok (.ret (.ref v'.self))) { s with heap := h', toks := tk }) :
    codeAny (model PR w) A (.call (.ref 145) ⟨[.ref a], []⟩) R s := by
  subst ha
  exact copy_spec B F X₀ N T hA hf hke hroom nd I.i1 I.i2 I.i3 I.i4 O.lo1 O.lo2 O.hoc O.hod (O.lens h6).1 (O.lens h6).2 fun h' tk self' sd' dA' cA' u1 u2 u3 u4 od' oc' F' N' nd' l1 l2 a1 a2 =>
    k h' tk ⟨self', sd', cA', dA', u1, u2, u3, u4, v.t5, v.sat, od', oc', v.dv, v.cv, v.ks, v.kc, v.D, v.G⟩ F' N' nd' ⟨l1, l2, a2, a1, O.hD, O.hC, O.O⟩ fun h => h
end

end
section -- PairTab3
open PySem PySem.W PyProof.Rows PySem.Calls
set_option maxRecDepth 100000
set_option maxHeartbeats 4000000
@[reducible] def tup2 (x y : Int) (t1 t2 : Tok) (n : Nat) : Obj := { cls := .type "tuple", data := .seq [.int x t1, .int y t2].toArray n }
abbrev Ties := List ((Int × Int) × Int)
inductive PairsIn (led : List (Addr × Obj)) : List (List Int × Addr × Value) → Ties → Prop
  | nil : PairsIn led [] []
  | cons {xs : List (List Int × Addr × Value)} {ts : Ties} {a : Addr} {x y b : Int} {t1 t2 t3 : Tok} {n : Nat} : (a, tup2 x y t1 t2 n) ∈ led → PairsIn led xs ts → PairsIn led (([x, y], a, .int b t3) :: xs) (((x, y), b) :: ts)
theorem news_mid {h₀ h : Heap} {L : Addr} {l1 l2 : List (Addr × Obj)} {x : Addr × Obj} (N : News h₀ L h (l1 ++ x :: l2)) : News h₀ L h (x :: (l1 ++ l2)) :=
  N.perm fun p hp => (List.perm_middle.mem_iff).mpr hp
theorem nd_mid {l1 l2 : List (Addr × Obj)} {x : Addr × Obj} (h : ND (l1 ++ x :: l2)) : ND (x :: (l1 ++ l2)) :=
  ((List.perm_middle (l₁ := l1) (a := x) (l₂ := l2)).map (·.1)).nodup_iff.mp h
theorem news_back {h₀ h : Heap} {L : Addr} {l1 l2 : List (Addr × Obj)} {x : Addr × Obj} (N : News h₀ L h (x :: (l1 ++ l2))) : News h₀ L h (l1 ++ x :: l2) :=
  N.perm fun p hp => (List.perm_middle.mem_iff).mp hp
theorem nd_back {l1 l2 : List (Addr × Obj)} {x : Addr × Obj} (h : ND (x :: (l1 ++ l2))) : ND (l1 ++ x :: l2) :=
  ((List.perm_middle (l₁ := l1) (a := x) (l₂ := l2)).map (·.1)).nodup_iff.mpr h
def lookT (ts : Ties) (k : Int × Int) : Option Int := (ts.find? fun e => decide (e.1 = k)).map (·.2)
def putT (ts : Ties) (k : Int × Int) (b : Int) : Ties := if (lookT ts k).isSome then ts.map fun e => if e.1 = k then (e.1, b) else e else ts ++ [(k, b)]
structure PTab (w : World) (led : List (Addr × Obj)) (o : Obj) (ts : Ties) : Prop where
  ex : ∃ es ep xs, o.ExactDict ∧ o.data = .dict es ep ∧ es.toList = xs.map (entryOfKey (tupleKind (intKind PR w))) ∧ (xs.map (·.1)).Nodup ∧ PairsIn led xs ts
variable {led led' : List (Addr × Obj)}
theorem PairsIn.mono (hs : ∀ p ∈ led, p ∈ led') {xs : List (List Int × Addr × Value)} {ts : Ties} (h : PairsIn led xs ts) : PairsIn led' xs ts := by
  induction h with
  | nil => exact .nil
  | cons m _ ih => exact .cons (hs _ m) ih
theorem PTab.mono {w : World} {o : Obj} {ts : Ties} (hs : ∀ p ∈ led, p ∈ led') (h : PTab w led o ts) : PTab w led' o ts := by
  obtain ⟨es, ep, xs, a, b, c, n, d⟩ := h.ex
  exact ⟨es, ep, xs, a, b, c, n, d.mono hs⟩
theorem PairsIn.len {xs : List (List Int × Addr × Value)} {ts : Ties} (h : PairsIn led xs ts) : xs.length = ts.length := by
  induction h with
  | nil => rfl
  | cons _ _ ih => simp [ih]
theorem pair_inj {x y u v : Int} : [x, y] = [u, v] ↔ (x, y) = (u, v) := by simp
theorem PairsIn.look {xs : List (List Int × Addr × Value)} {ts : Ties} (h : PairsIn led xs ts) (u v : Int) : (lookT ts (u, v) = none ∧ atKey xs [u, v] = none) ∨ ∃ b a t, lookT ts (u, v) = some b ∧ atKey xs [u, v] = some (a, .int b t) := by
  induction h with
  | nil => exact .inl ⟨rfl, rfl⟩
  | @cons xs ts a x y b t1 t2 t3 n m h ih =>
    by_cases e : (x, y) = (u, v)
    · cases e
      exact .inr ⟨b, a, t3, by simp [lookT], by simp [atKey]⟩
    · have e2 : ¬ [x, y] = [u, v] := fun q => e (pair_inj.mp q)
      have e3 : lookT (((x, y), b) :: ts) (u, v) = lookT ts (u, v) := by unfold lookT; rw [List.find?_cons_of_neg]; simpa using e
      have e4 : atKey (([x, y], a, Value.int b t3) :: xs) [u, v] = atKey xs [u, v] := by unfold atKey; rw [List.find?_cons_of_neg]; simpa using e2
      rw [e3, e4]; exact ih
theorem PairsIn.put1 {xs : List (List Int × Addr × Value)} {ts : Ties} (h : PairsIn led xs ts) (u v b : Int) (t : Tok) : PairsIn led (xs.map (putAt [u, v] (.int b t))) (ts.map fun e => if e.1 = (u, v) then (e.1, b) else e) := by
  induction h with
  | nil => exact .nil
  | @cons xs ts a x y b' t1 t2 t3 n m h ih =>
    simp only [List.map_cons]
    by_cases e : (x, y) = (u, v)
    · have e2 : [x, y] = [u, v] := pair_inj.mpr e
      rw [if_pos e]
      unfold putAt at ih ⊢
      rw [if_pos e2]
      exact .cons m ih
    · have e2 : ¬ [x, y] = [u, v] := fun q => e (pair_inj.mp q)
      rw [if_neg e]
      unfold putAt at ih ⊢
      rw [if_neg e2]
      exact .cons m ih
theorem PairsIn.snoc {xs : List (List Int × Addr × Value)} {ts : Ties} (h : PairsIn led xs ts) {a : Addr} {u v b : Int} {t1 t2 t3 : Tok} {n : Nat} (m : (a, tup2 u v t1 t2 n) ∈ led) : PairsIn led (xs ++ [([u, v], a, .int b t3)]) (ts ++ [((u, v), b)]) := by
  induction h with
  | nil => exact .cons m .nil
  | cons m' _ ih => exact .cons m' ih
theorem PairsIn.put {xs : List (List Int × Addr × Value)} {ts : Ties} (h : PairsIn led xs ts) {a : Addr} {u v b : Int} {t1 t2 t3 : Tok} {n : Nat} (m : (a, tup2 u v t1 t2 n) ∈ led) : PairsIn led (storedH xs [u, v] a (.int b t3)) (putT ts (u, v) b) := by
  rcases h.look u v with ⟨e1, e2⟩ | ⟨c, a', t, e1, e2⟩
  · rw [storedH_new e2]; unfold putT; rw [e1]; exact h.snoc m
  · rw [storedH_old e2]; unfold putT; rw [e1]; exact h.put1 u v b t3
theorem tup2_key {w : World} {h : Heap} {a : Addr} {x y : Int} {t1 t2 : Tok} {n : Nat} (m : h.get? a = some (tup2 x y t1 t2 n)) : IsTupleKey (intKind PR w) h [x, y] a :=
  ⟨_, _, _, m, rfl, rfl, .cons (intKind_is _ _ _ _) (.cons (intKind_is _ _ _ _) .nil)⟩
theorem PairsIn.keys {w : World} {h₀ h : Heap} {L : Addr} {news : List (Addr × Obj)} (N : News h₀ L h news) (hs : ∀ p ∈ led, p ∈ news) {xs : List (List Int × Addr × Value)} {ts : Ties} (P : PairsIn led xs ts) : ∀ x ∈ xs, IsTupleKey (intKind PR w) h x.1 x.2.1 := by
  induction P with
  | nil => exact fun _ h => nomatch h
  | cons m _ ih =>
    intro x hx
    cases hx with
    | head => exact tup2_key (N.get (hs _ m))
    | tail _ hx => exact ih x hx
section
variable {w : World} {A : Around} {E : Value → Shared → Prop} {s : Shared} {h₀ : Heap} {L d a : Addr} {m : Str → Option Value} {news : List (Addr × Obj)} {o : Obj} {ts : Ties} {x y b : Int} {t1 t2 tb : Tok} {n : Nat}
theorem PTab.dict (N : News h₀ L s.heap news) (hm : (d, o) ∈ news) (P : PTab w led o ts) (hs : ∀ p ∈ led, p ∈ news) : ∃ xs, s.heap.DictOfH (tupleKind (intKind PR w)) d xs ∧ PairsIn led xs ts := by
  obtain ⟨es, ep, xs, h1, h2, h3, h4, h5⟩ := P.ex
  exact ⟨xs, ⟨o, es, ep, N.get hm, h1, h2, h3, h5.keys N hs, h4⟩, h5⟩
theorem pt_method {name : Str} {id : String} {pl : Sem Bool} {Q : Value × List Value → Shared → Prop} (slot : Slot "dict" name id) (hty : typeOf (.builtin id) = pure (.type "method_descriptor")) (N : News h₀ L s.heap news) (hm : (d, o) ∈ news) (P : PTab w led o ts) (hs : ∀ p ∈ led, p ∈ news)
    (h : Q (.builtin id, [.ref d]) s) : wpAny (model PR w) A (getMethod (.ref d) name pl) Q E s := by
  obtain ⟨xs, hD, hP⟩ := P.dict N hm hs
  exact getMethod_builtin hD.typeIs PySem.F.plainAttrs_dict slot hty (dictOfH_noDict hD) h
theorem pt_get {Q : Value → Shared → Prop} (N : News h₀ L s.heap news) (hm : (d, o) ∈ news) (P : PTab w led o ts) (hs : ∀ p ∈ led, p ∈ news) (ha : (a, tup2 x y t1 t2 n) ∈ news) (hu : A.units + 1 < cLine) (lo : (d == sysModules) = false)
    (h : ∀ tk t, Q (.int ((lookT ts (x, y)).getD b) t) { s with toks := tk }) : wpAny (model PR w) A (call (.builtin "dict.get") [.ref d, .ref a, .int b tb]) Q E s := by
  obtain ⟨xs, hD, hP⟩ := P.dict N hm hs
  refine call_meetsIn PySem.F.slot_dict_get hD.typeIs PySem.F.entry_dict_get (PySem.F.args_dict_get_3 _ _ _) (meetsH_dict_get_default (tupleKind (intKind PR w)) d a lo (.int b tb)) ⟨tupleKind_room_in1 hu, [x, y], xs, tup2_key (N.get ha), hD, ?_⟩
  rcases hP.look x y with ⟨e1, e2⟩ | ⟨c, a', t, e1, e2⟩
  · rw [e2]; rw [e1] at h; exact h _ _
  · rw [e2]; rw [e1] at h; exact h _ _
theorem pt_set {Q : Unit → Shared → Prop} {g : Obj → List (Addr × Obj)} (F : Fr h₀ L s.heap m) (N : News h₀ L s.heap news) (U : UpdF d o news g) (P : PTab w led o ts) (hs : ∀ p ∈ led, p ∈ news) (ha : (a, tup2 x y t1 t2 n) ∈ news) (ha' : ∀ p ∈ led, p ∈ led') (hal : (a, tup2 x y t1 t2 n) ∈ led') (hu : A.units + 1 < cLine) (hz : ts.length ≤ 60)
    (h : ∀ h' o' tk, Fr h₀ L h' m → News h₀ L h' (g o') → PTab w led' o' (putT ts (x, y) b) → Q () { s with heap := h', toks := tk }) :
    wpAny (model PR w) A (setItem (.ref d) (.ref a) (.int b tb)) Q E s := by
  obtain ⟨pre, post, rfl, hg, q1, q2⟩ := U.split
  have hm := List.mem_append_right pre (List.mem_cons_self (a := (d, o)) (l := post))
  obtain ⟨xs, hD, hP⟩ := P.dict N hm hs
  refine wpAny_setItem_heap (hsz := by rw [hP.len, sizeLine_eq]; omega) (knd := tupleKind (intKind PR w)) (tupleKind_room_in1 hu) (tup2_key (N.get ha)) hD fun h' hm' hs' => ?_
  obtain ⟨o', es', ep', ho', hc', hd', he', _, hn'⟩ := hm'
  exact h h' o' _ (F.change hs' (N _ hm).2.1 (N.fresh hm)) (hg o' ▸ N.setIn q1 q2 hs' ho') ⟨es', ep', _, hc', hd', he', hn', (hP.mono ha').put hal⟩
theorem PTab.start {o : Obj} (h : o.IsDictOf (intKind PR w) []) : PTab w led o [] := by
  obtain ⟨es, ep, hc, hdat, _, hp, _⟩ := h
  exact ⟨es, ep, [], hc, hdat, List.length_eq_zero_iff.mp hp.length, List.nodup_nil, .nil⟩
end

end
section -- Loops2
open PySem PySem.W PyProof.Rows PySem.Calls
set_option maxRecDepth 100000
section
variable {prog : Program} {w : World} {A : Around} {E : Value → Shared → Prop} {s : Shared} {env : Env} {h₀ : Heap} {body : List Stmt} {Q : Flow → Shared → Prop} {target : Expr}
theorem itemsRestP_inv {I ax : Addr} {lo : Obj} {nm : String} (ps : List ((Tok → Value) × Value)) (J : Nat → (Str → Option Value) → List (Addr × Obj) → Prop) (keep : ∀ i m news, J i m news → (ax, lo) ∈ news)
    (turn : ∀ i f x m news T t h tk it, ps[i]? = some (f, x) → J i m news → (∀ p ∈ news, p.1 ≠ I) → h.IsTuple T #[f t, x] → Fr h₀ env.locals h m → News h₀ env.locals h ((I, it) :: news) →
      wpAny (model prog w) A (assign target env (.ref T)) (fun _ s₂ => wpAny (model prog w) A (execs body env) (UnrPost h₀ env.locals { s with heap := h, toks := tk } I it (J (i + 1)) Q) E s₂) E { s with heap := h, toks := tk })
    (done : ∀ m news h tk, J ps.length m news → Fr h₀ env.locals h m → News h₀ env.locals h news → Q .next { s with heap := h, toks := tk }) :
    ∀ r i m news, ps.drop i = r → i ≤ ps.length → (∀ p ∈ news, p.1 ≠ I) → J i m news → ItemsRest prog w A E h₀ env target body Q s [(I, nm)] [(ax, lo)] (r.map fun p => Itm.pair p.1 p.2) m news
  | [], i, m, news, e, hi, _, hJ => fun h tk F N => by
    have e2 : i = ps.length := by
      have := congrArg List.length e
      simp only [List.length_drop, List.length_nil] at this
      omega
    subst e2
    exact done m news h tk hJ F N
  | (f, x) :: r, i, m, news, e, hi, ho, hJ => ItemsRest.pair fun T t h tk hT F => by
    refine AllObj.cons fun o hc => AllObj.nil fun N => ?_
    have hv : ps[i]? = some (f, x) := by
      have := congrArg List.head? e
      rw [List.head?_drop] at this
      exact this
    have hlt : i < ps.length := (List.getElem?_eq_some_iff.mp hv).1
    refine wpAny_mono (turn i f x m news T t h tk o hv hJ ho hT F N) (fun _ s₂ q => wpAny_mono q (fun f s₃ p => ?_) fun _ _ e => e) fun _ _ e => e
    have fin : UnrEnd h₀ env.locals { s with heap := h, toks := tk } I o (J (i + 1)) s₃ → UnrEndW h₀ env.locals { s with heap := h, toks := tk } [(I, o)] (fun m' n' => SubL [(ax, lo)] n' ∧ ItemsRest prog w A E h₀ env target body Q s [(I, nm)] [(ax, lo)] (r.map fun p => Itm.pair p.1 p.2) m' n') s₃ := by
      rintro ⟨h', tk', m', news', e', F', N', ho', q⟩
      refine ⟨h', tk', m', news', e', F', N', fun p hp q hq => ?_, ⟨keep _ _ _ q, trivial⟩, itemsRestP_inv ps J keep turn done r (i + 1) m' news' ?_ hlt ho' q⟩
      · rw [List.mem_singleton.mp hq]; exact ho' p hp
      · rw [← List.tail_drop, e]; rfl
    cases f with
    | ret v => exact p
    | brk => exact p
    | next => exact fin p
    | cont => exact fin p
theorem pyIter_items_inv {elts : List Expr} {kk : Nat} {pos : Pos} {d vw : Addr} {od : Obj} {kvs : List (Int × Value)} {m₀ : Str → Option Value} {news : List (Addr × Obj)} (J : Nat → (Str → Option Value) → List (Addr × Obj) → Prop)
    (hh : A.handled = none) (F : Fr h₀ env.locals s.heap m₀) (N : News h₀ env.locals s.heap news) (hvw : (vw, ({ cls := .type "dict_items", data := .fields #[.ref d] } : Obj)) ∈ news) (hm : (d, od) ∈ news) (hd : od.IsDictOf (PySem.intKind prog w) kvs)
    (h0 : J 0 m₀ news) (keep : ∀ i m news, J i m news → (d, od) ∈ news)
    (turn : ∀ I i k x m news T t h tk it, kvs[i]? = some (k, x) → J i m news → (∀ p ∈ news, p.1 ≠ I) → h.IsTuple T #[.int k t, x] → Fr h₀ env.locals h m → News h₀ env.locals h ((I, it) :: news) →
      wpAny (model prog w) A (assign (.Tuple elts kk pos) env (.ref T)) (fun _ s₂ => wpAny (model prog w) A (execs body env) (UnrPost h₀ env.locals { s with heap := h, toks := tk } I it (J (i + 1)) Q) E s₂) E { s with heap := h, toks := tk })
    (done : ∀ m news h tk, J kvs.length m news → Fr h₀ env.locals h m → News h₀ env.locals h news → Q .next { s with heap := h, toks := tk }) :
    wpAny (model prog w) A (pyIter (.ref vw)) (fun it s₂ => TurnsAt prog w A h₀ env (.Tuple elts kk pos) body Q E it s₂) E s := by
  refine kta_items (knd := PySem.intKind prog w) (enc := PyData.int) hh F N ⟨_, (N _ hvw).1, rfl, rfl⟩ hm hd (fun k v h => by obtain ⟨t, rfl⟩ := Value.isInt_shape h; exact ⟨t, rfl⟩) rfl fun I hI => ?_
  have e : kvs.map (fun p => Itm.pair (kyVal (PyData.int p.1)) p.2) = (kvs.map fun p => ((fun t => Value.int p.1 t : Tok → Value), p.2)).map fun p => Itm.pair p.1 p.2 := by
    rw [List.map_map]; rfl
  rw [e]
  refine itemsRestP_inv _ J keep (fun i f x m news T t h tk it hp hJ ho hT F' N' => ?_) (fun m news h tk hJ => done m news h tk (by rw [List.length_map] at hJ; exact hJ)) _ 0 m₀ news (by rw [List.drop_zero]) (Nat.zero_le _) (fun p hp => Nat.ne_of_lt (hI p hp)) h0
  rw [List.getElem?_map, Option.map_eq_some_iff] at hp
  obtain ⟨⟨k, x'⟩, hk, hp⟩ := hp
  cases hp
  exact turn I i k x' m news T t h tk it hk hJ ho hT F' N'
end

end
section -- Comps
open PySem PySem.W PyProof.Rows PySem.Calls
set_option maxRecDepth 100000
set_option maxHeartbeats 4000000
open PyProof.Rows.LCg in
/-- what a comprehension walks over, whatever it is -/
structure SrcW (prog : Program) (w : World) (A : Around) (h₀ : Heap) (L : Addr) (m : Str → Option Value) (env : Env) (elt : Expr) (x : Str) (scope : Scope) (cl : List (Str × Addr)) (Fin : Shared → List Value → List (Addr × Obj) → Prop) (xv : Value) (s₁ : Shared)
    (n : Nat) (oI : Obj) (fp : List Addr) (P : Nat → Value → Prop) (St : Nat → Heap → Prop) (S : List (Addr × Obj) → Prop) (news : List (Addr × Obj)) : Prop where
  hh : A.handled = none
  F : Fr h₀ L s₁.heap m
  N : News h₀ L s₁.heap news
  hsz : n ≤ sizeLine
  it : ∀ (E : Value → Shared → Prop) (Q : Value → Shared → Prop), Q (.ref s₁.heap.objs.size) { s₁ with heap := s₁.heap.push oI } → wpAny (model prog w) A (pyIter xv) Q E s₁
  W : Walks prog w A s₁.heap.objs.size fp [s₁.heap.objs.size] n P St
  hIo : ∀ i h, St i h → ∃ o, h.get? s₁.heap.objs.size = some o
  hSt : ∀ i h h' o nw, St i h → h.get? s₁.heap.objs.size = some o → h'.get? s₁.heap.objs.size = some o → (∀ b o, h₀.get? b = some o → h'.get? b = some o) → News h₀ L h' nw → S nw → St i h'
  h0 : St 0 (s₁.heap.push oI)
  hfp : ∀ b ∈ fp, b < (s₁.heap.push oI).objs.size
  hS : S news
  R : ∀ g, CompRest prog w A h₀ L m env elt x scope cl { s₁ with heap := g } S P (Fin { s₁ with heap := g }) n 0 [] news
section
open PyProof.Rows.LCg
variable {prog : Program} {w : World} {A : Around} {E : Value → Shared → Prop} {s : Shared} {h₀ : Heap} {L : Addr} {m : Str → Option Value} {env : Env}
def SrcAny (prog : Program) (w : World) (A : Around) (h₀ : Heap) (L : Addr) (m : Str → Option Value) (env : Env) (elt : Expr) (x : Str) (scope : Scope) (cl : List (Str × Addr)) (Fin : Shared → List Value → List (Addr × Obj) → Prop) (xv : Value) (s₁ : Shared) : Prop :=
  ∃ n oI fp P St S news, SrcW prog w A h₀ L m env elt x scope cl Fin xv s₁ n oI fp P St S news
theorem listComp_W {elt iter : Expr} {x : Str} {px : Pos} {scope : Scope} {cl : List (Str × Addr)} {pos : Pos} {Q : Value → Shared → Prop} (F₀ : Fr h₀ L s.heap m)
    (hclos : closureFor scope env = pure cl) (hcell : ∀ y ∈ scope.names, y.2 ≠ .cell) (hkind : scope.kind = .function)
    (hnames : ∀ y ∈ scope.names, y.2 = .local → scope.names.lookup y.1 = some .local) (hx : scope.names.lookup x = some .local)
    (h : wpAny (model prog w) A (eval iter env) (SrcAny prog w A h₀ L m env elt x scope cl (fun s₂ => FinE h₀ L m s₂ Q)) E s)
    (hs : ∀ x, foldedSetIterable iter env x = pure x := by intro _; rfl) :
    wpAny (model prog w) A (eval (.ListComp elt [⟨.Name x px, iter, [], 0⟩] scope pos) env) Q E s := by
  rw [eval_ListComp]
  refine wpAny_comprehension_free (use := none) rfl hs hclos hkind hnames (wpAny_mono h (fun xv s₁ h₁ => ?_) fun _ _ e => e)
  obtain ⟨n, oI, fp, P, St, S, news, K⟩ := h₁
  refine K.it _ _ ?_
  refine block_U K.W K.hsz K.hIo K.hSt hcell hkind hx K.h0 K.hfp (K.F.keeps fun _ _ e => Heap.get?_push_of_some _ e) (K.N.grown fun _ _ e => Heap.get?_push_of_some _ e) (Nat.ne_of_lt K.F.ns.lt) (next_is_new K.F) (fun p hp => Nat.ne_of_lt (Heap.lt_size (K.N p hp).1)) K.hS (K.R _) ?_
  intro D C h tk m' ys news' F' N' o1 hn hC₀ hD₀ hCL hDL hCD offC fin
  refine ⟨m', hn, fun h'' hs'' => fin D h'' tk (F'.change hs'' hCL hC₀) (fun p hp => ?_) o1⟩
  refine ⟨hs''.extBut _ _ ?_ (N' p hp).1, (N' p hp).2⟩
  rcases List.mem_cons.mp hp with rfl | hp
  · exact Ne.symm hCD
  · exact offC p hp
variable {K : Type} [DecidableEq K] {knd : KeyKind prog w K} {kvs : List (K × Value)} {ep : Nat}
theorem isdict_at {h : Heap} {d : Addr} {od : Obj} (hod : od.IsDictOf knd kvs) (e : h.get? d = some od) : ∃ ep, h.DictAt knd d kvs ep := let ⟨es, ep, r⟩ := hod; ⟨ep, od, es, e, r⟩
theorem src_values {elt : Expr} {x : Str} {scope : Scope} {cl : List (Str × Addr)} {Fin : Shared → List Value → List (Addr × Obj) → Prop} {s₁ : Shared} {vw d : Addr} {od : Obj} {news : List (Addr × Obj)} (S : List (Addr × Obj) → Prop)
    (hh : A.handled = none) (F : Fr h₀ L s₁.heap m) (N : News h₀ L s₁.heap news) (hv : (vw, ({ cls := .type "dict_values", data := .fields #[.ref d] } : Obj)) ∈ news) (hd : ∀ nw, S nw → (d, od) ∈ nw) (hS : S news) (hod : od.IsDictOf knd kvs) (hsz : kvs.length ≤ sizeLine)
    (R : ∀ g, CompRest prog w A h₀ L m env elt x scope cl { s₁ with heap := g } S (fun i v => ∃ k, kvs[i]? = some (k, v)) (Fin { s₁ with heap := g }) kvs.length 0 [] news) :
    SrcAny prog w A h₀ L m env elt x scope cl Fin (.ref vw) s₁ := by
  have hdN := N _ (hd _ hS)
  obtain ⟨es, ep, q1, q2, q3⟩ := hod
  have hAt : ∀ h : Heap, h.get? d = some od → h.DictAt knd d kvs ep := fun h e => ⟨od, es, e, q1, q2, q3⟩
  have hlt := Heap.lt_size hdN.1
  refine ⟨_, _, _, _, _, S, news, ⟨hh, F, N, hsz, fun E Q hq => wpAny_pyIter_values ⟨_, (N _ hv).1, rfl, rfl⟩ (hAt _ hdN.1) hq, Walks.dictValues hh _ d (Nat.ne_of_lt hlt) kvs ep, fun i h st => ?_, fun i h h' o nw st e e' k N' S' => ?_, ⟨⟨_, Heap.get?_push_size _ rfl, rfl, rfl⟩, (hAt _ hdN.1).push _⟩, fun b hb => ?_, hS, R⟩⟩
  · obtain ⟨o, e, _⟩ := st.1; exact ⟨o, e⟩
  · exact ⟨by obtain ⟨o', q, r⟩ := st.1; rw [e] at q; cases q; exact ⟨o, e', r⟩, hAt _ (N' _ (hd _ S')).1⟩
  · rw [Heap.size_push]
    rcases List.mem_cons.mp hb with rfl | hb
    · exact Nat.lt_succ_self _
    · rw [List.mem_singleton.mp hb]; exact Nat.lt_succ_of_lt hlt
theorem src_keys {elt : Expr} {x : Str} {scope : Scope} {cl : List (Str × Addr)} {Fin : Shared → List Value → List (Addr × Obj) → Prop} {s₁ : Shared} {d : Addr} {od : Obj} {news : List (Addr × Obj)} (S : List (Addr × Obj) → Prop)
    (hh : A.handled = none) (F : Fr h₀ L s₁.heap m) (N : News h₀ L s₁.heap news) (hd : ∀ nw, S nw → (d, od) ∈ nw) (hS : S news) (lo : (d == sysModules) = false) (hod : od.IsDictOf knd kvs) (hsz : kvs.length ≤ sizeLine)
    (R : ∀ g, CompRest prog w A h₀ L m env elt x scope cl { s₁ with heap := g } S (fun i v => ∃ k x, kvs[i]? = some (k, x) ∧ knd.is k v = true) (Fin { s₁ with heap := g }) kvs.length 0 [] news) :
    SrcAny prog w A h₀ L m env elt x scope cl Fin (.ref d) s₁ := by
  have hdN := N _ (hd _ hS)
  obtain ⟨es, ep, q1, q2, q3⟩ := hod
  have hAt : ∀ h : Heap, h.get? d = some od → h.DictAt knd d kvs ep := fun h e => ⟨od, es, e, q1, q2, q3⟩
  have hlt := Heap.lt_size hdN.1
  refine ⟨_, _, _, _, _, S, news, ⟨hh, F, N, hsz, fun E Q hq => wpAny_pyIter_dict lo (hAt _ hdN.1) hq, Walks.dictKeys hh _ d (Nat.ne_of_lt hlt) kvs ep, fun i h st => ?_, fun i h h' o nw st e e' k N' S' => ?_, ⟨⟨_, Heap.get?_push_size _ rfl, rfl, rfl⟩, (hAt _ hdN.1).push _⟩, fun b hb => ?_, hS, R⟩⟩
  · obtain ⟨o, e, _⟩ := st.1; exact ⟨o, e⟩
  · exact ⟨by obtain ⟨o', q, r⟩ := st.1; rw [e] at q; cases q; exact ⟨o, e', r⟩, hAt _ (N' _ (hd _ S')).1⟩
  · rw [Heap.size_push]
    rcases List.mem_cons.mp hb with rfl | hb
    · exact Nat.lt_succ_self _
    · rw [List.mem_singleton.mp hb]; exact Nat.lt_succ_of_lt hlt
/-- a comprehension's turns by an invariant over what is made -/
theorem compRest_inv {elt : Expr} {x : Str} {scope : Scope} {cl : List (Str × Addr)} {S : List (Addr × Obj) → Prop} {P : Nat → Value → Prop} {Fin : List Value → List (Addr × Obj) → Prop} {n : Nat} (J : Nat → List Value → List (Addr × Obj) → Prop)
    (turn : ∀ i ys news v I oI C oC D m₂ h tk (E' : Value → Shared → Prop), i < n → J i ys news → P i v → NsObj oC m₂ → m₂ x = some v → Fr h₀ L h m → News h₀ L h ((I, oI) :: (C, oC) :: (D, lst ys) :: news) → Off3 I C D news → ((@Ne Nat I C) ∧ (@Ne Nat I D) ∧ (@Ne Nat C D)) →
      wpAny (model prog w) A (eval elt (compEnvC scope cl C env)) (CompEnd h₀ L m { s with heap := h, toks := tk } I oI C oC D (lst ys) S (fun y news' => J (i + 1) (ys ++ [y]) news')) E' { s with heap := h, toks := tk })
    (done : ∀ ys news, J n ys news → Fin ys news) : ∀ k i ys news, i + k = n → J i ys news → CompRest prog w A h₀ L m env elt x scope cl s S P Fin k i ys news
  | 0, i, ys, news, e, hJ => done _ _ (by rw [Nat.add_zero] at e; rw [← e]; exact hJ)
  | k + 1, i, ys, news, e, hJ => fun v I oI C oC D m₂ h tk E' hP hC hx F N off ne => by
    refine wpAny_mono (turn i ys news v I oI C oC D m₂ h tk E' (by omega) hJ hP hC hx F N off ne) (fun y s₂ hq => ?_) fun _ _ e => e
    obtain ⟨h', tk', news', e', F', N', o', S', J'⟩ := hq
    exact ⟨h', tk', news', e', F', N', o', S', compRest_inv J turn done k (i + 1) _ _ (by omega) J'⟩
end

end
section -- DComp
open PySem PySem.W PyProof.Rows PySem.Calls
set_option maxRecDepth 100000
set_option maxHeartbeats 4000000
open PyProof.Rows.LCg
section
variable {prog : Program} {w : World} {A : Around} {E : Value → Shared → Prop} {s : Shared} {h₀ : Heap} {L : Addr} {m : Str → Option Value} {env : Env} {K : Type} [DecidableEq K] {knd : KeyKind prog w K}
/-- a turn of a dict's comprehension ends -/
def DEnd (knd : KeyKind prog w K) (h₀ : Heap) (L : Addr) (m : Str → Option Value) (s₁ : Shared) (I : Addr) (oI : Obj) (C : Addr) (oC : Obj) (D : Addr) (oD : Obj) (S : List (Addr × Obj) → Prop) (kv : Value) (rest : K → Value → List (Addr × Obj) → Prop) (y : Value) (s₂ : Shared) : Prop :=
  ∃ h' tk news' k, s₂ = { s₁ with heap := h', toks := tk } ∧ knd.is k kv = true ∧ Fr h₀ L h' m ∧ News h₀ L h' ((I, oI) :: (C, oC) :: (D, oD) :: news') ∧ Off3 I C D news' ∧ S news' ∧ rest k y news'
theorem DEnd.intro {I C D : Addr} {s₁ : Shared} {oI oC oD : Obj} {S : List (Addr × Obj) → Prop} {kv : Value} {rest : K → Value → List (Addr × Obj) → Prop} {y : Value} {h' : Heap} {tk : Nat} {k : K} (hk : knd.is k kv = true) {all : List (Addr × Obj)}
    (F : Fr h₀ L h' m) (N : News h₀ L h' all) (news' : List (Addr × Obj)) (sub : ∀ p ∈ (I, oI) :: (C, oC) :: (D, oD) :: news', p ∈ all) (off : Off3 I C D news') (hS : S news') (r : rest k y news') :
    DEnd knd h₀ L m s₁ I oI C oC D oD S kv rest y { s₁ with heap := h', toks := tk } := ⟨h', tk, news', k, rfl, hk, F, fun p hp => N p (sub p hp), off, hS, r⟩
theorem block_D {kx vx iter : Expr} {x : Str} {px : Pos} {scope : Scope} {cl : List (Str × Addr)} {pos : Pos} {s₂ : Shared} {I : Addr} {fp : List Addr} {n : Nat} {P : Nat → Value → Prop} {St : Nat → Heap → Prop} {S : List (Addr × Obj) → Prop} {news : List (Addr × Obj)}
    (J : Nat → List (K × Value) → List (Addr × Obj) → Prop) {RR : Value → Addr → Result → Shared → Prop}
    (W : Walks prog w A I fp [I] n P St) (hsz : n ≤ sizeLine) (hIo : ∀ i h, St i h → ∃ o, h.get? I = some o)
    (hSt : ∀ i h h' o nw, St i h → h.get? I = some o → h'.get? I = some o → (∀ b o, h₀.get? b = some o → h'.get? b = some o) → News h₀ L h' nw → S nw → St i h')
    (hcell : ∀ y ∈ scope.names, y.2 ≠ .cell) (hkind : scope.kind = .function) (hx : scope.names.lookup x = some .local) (hst : St 0 s₂.heap) (hfp : ∀ b ∈ fp, b < s₂.heap.objs.size)
    (F : Fr h₀ L s₂.heap m) (N : News h₀ L s₂.heap news) (hIL : L ≠ I) (hI₀ : h₀.get? I = none) (off : ∀ p ∈ news, p.1 ≠ I) (hS : S news)
    (h0 : J 0 [] news)
    (turn : ∀ i kvs news v oI C oC D oD m₂ h tk (E' : Value → Shared → Prop), i < n → J i kvs news → P i v → NsObj oC m₂ → m₂ x = some v → oD.IsDictOf knd kvs → Fr h₀ L h m → News h₀ L h ((I, oI) :: (C, oC) :: (D, oD) :: news) → Off3 I C D news → ((@Ne Nat I C) ∧ (@Ne Nat I D) ∧ (@Ne Nat C D)) →
      wpAny (model prog w) A (eval kx (compEnvC scope cl C env)) (fun kv s₄ => wpAny (model prog w) A (eval vx (compEnvC scope cl C env)) (DEnd knd h₀ L m { s₂ with heap := h, toks := tk } I oI C oC D oD S kv (fun k y news' => kvs.length ≤ n ∧ J (i + 1) (stored kvs k y) news')) E' s₄) E' { s₂ with heap := h, toks := tk })
    (hRR : ∀ D C oD h tk m' kvs news', Fr h₀ L h m → News h₀ L h ((D, oD) :: news') → oD.IsDictOf knd kvs → Off1 D news' → h.Ns C m' → h₀.get? C = none → h₀.get? D = none → C ≠ L → D ≠ L → C ≠ D → (∀ p ∈ news', p.1 ≠ C) → (D == sysModules) = false → J n kvs news' → RR (.ref D) C (.ok .next) { s₂ with heap := h, toks := tk })
    (hbig : h₀.NoLimit) :
    wpAny (model prog w) A newDict (fun acc s₃ => wpAny (model prog w) A (newFunctionEnv scope env.globals cl [] env.qual none .none (some env)) (fun cenv s₄ =>
      codeAny (model prog w) A (.compStart (.DictComp kx vx [⟨.Name x px, iter, [], 0⟩] scope pos) 0 (.ref I) acc { cenv with scope := relabel scope env }) (RR acc cenv.locals) s₄) E s₃) E s₂ := by
  refine wpAny_newObj_type (wpAny_newFunctionEnv hcell (by intro y hy; simp at hy) (fun h₁ hns₁ hsb₁ => ?_) hkind)
  dsimp only at hns₁ hsb₁ ⊢
  have hnew : (s₂.heap.push { cls := .type "dict", dict := none, data := .dict #[] }).DictOf knd s₂.heap.objs.size [] := Heap.DictOf.new s₂.heap
  generalize hH2 : s₂.heap.push { cls := .type "dict", dict := none, data := .dict #[] } = H2 at hns₁ hsb₁ hnew ⊢
  have hC : H2.objs.size = s₂.heap.objs.size + 1 := by rw [← hH2, Heap.size_push]
  have hDC : s₂.heap.objs.size ≠ H2.objs.size := by rw [hC]; exact Nat.ne_of_lt (Nat.lt_succ_self _)
  have below : ∀ b, b < s₂.heap.objs.size → b ≠ H2.objs.size ∧ b ≠ s₂.heap.objs.size := fun b hb => ⟨by rw [hC]; exact Nat.ne_of_lt (Nat.lt_succ_of_lt hb), Nat.ne_of_lt hb⟩
  have hDf : s₂.heap.objs.size ∉ fp := fun hm => Nat.lt_irrefl _ (hfp _ hm)
  have hCf : H2.objs.size ∉ fp := fun hm => by have := hfp _ hm; rw [hC] at this; exact Nat.lt_irrefl _ (Nat.lt_of_succ_lt this)
  have hIf : I ∈ fp := W.sub I (List.mem_singleton.mpr rfl)
  have hIlt : I < s₂.heap.objs.size := hfp I hIf
  have old : ∀ b o, s₂.heap.get? b = some o → h₁.get? b = some o := fun b o e => hsb₁.extBut b o (below b (Heap.lt_size e)).1 (Heap.get?_push_of_some _ (hH2 ▸ Heap.get?_push_of_some _ e))
  have hacc : h₁.DictOf knd s₂.heap.objs.size [] := hnew.at fun o e => hsb₁.extBut _ _ hDC (Heap.get?_push_of_some _ e)
  have hst₁ : St 0 h₁ := W.frame _ _ _ hst fun b _ o e => old b o e
  have fresh : ∀ a, s₂.heap.objs.size ≤ a → s₂.heap.get? a = none := fun a ha => by
    cases e : s₂.heap.get? a with
    | none => rfl
    | some o' => exact absurd (Heap.lt_size e) (Nat.not_lt.mpr ha)
  have fresh₀ : ∀ a, s₂.heap.objs.size ≤ a → h₀.get? a = none := fun a ha => by
    cases e : h₀.get? a with
    | none => rfl
    | some o' => have := F.keep a o' e; rw [fresh a ha] at this; cases this
  have hD₀ : h₀.get? s₂.heap.objs.size = none := fresh₀ _ (Nat.le_refl _)
  have hC₀ : h₀.get? H2.objs.size = none := fresh₀ _ (by rw [hC]; exact Nat.le_succ _)
  have hLlt : L < s₂.heap.objs.size := F.ns.lt
  have hDL : s₂.heap.objs.size ≠ L := Ne.symm (below L hLlt).2
  have hCL : H2.objs.size ≠ L := Ne.symm (below L hLlt).1
  have hCI : I ≠ H2.objs.size := (below I hIlt).1
  have hDI : I ≠ s₂.heap.objs.size := (below I hIlt).2
  have hlo : (s₂.heap.objs.size == sysModules) = false := F.notModules (modules_low hbig)
  have off₀ : Off3 I H2.objs.size s₂.heap.objs.size news := Off3.of fun p hp => ⟨off p hp, (below _ (Heap.lt_size (N p hp).1)).1, (below _ (Heap.lt_size (N p hp).1)).2⟩
  have loop : ∀ s₃ : Shared, s₃ = { s₂ with heap := h₁, toks := s₂.toks + ([] : List (Str × Value)).length } →
      codeAny (model prog w) A (.compLoop (.DictComp kx vx [⟨.Name x px, iter, [], 0⟩] scope pos) 0 (.ref I) (.ref s₂.heap.objs.size) (compEnvC scope cl H2.objs.size env))
        (RR (.ref s₂.heap.objs.size) H2.objs.size) s₃ := by
    rintro s₃ rfl
    refine codeAny_compLoop_testsD
      (fun k s' => ∃ h' tk i kvs oD m' news', s' = { s₂ with heap := h', toks := tk } ∧ i ≤ n ∧ k = n + 1 - i ∧ St i h' ∧ Fr h₀ L h' m ∧ h'.Ns H2.objs.size m' ∧ News h₀ L h' ((s₂.heap.objs.size, oD) :: news') ∧ oD.IsDictOf knd kvs ∧
        Off3 I H2.objs.size s₂.heap.objs.size news' ∧ S news' ∧ J i kvs news') ?_ (n + 1)
      (by
        obtain ⟨oD, e1, e2⟩ := Heap.dictOf_iff.mp hacc
        exact ⟨h₁, _, 0, [], oD, _, news, rfl, Nat.zero_le _, rfl, hst₁, F.keeps old, hns₁, fun p hp => (List.mem_cons.mp hp).elim (fun q => q ▸ ⟨e1, hDL, hD₀⟩) (fun q => ⟨old _ _ (N p q).1, (N p q).2⟩), e2, off₀, hS, h0⟩)
    rintro k s' ⟨h', tk, i, kvs, oD, m', news', rfl, hi, rfl, hst', F', hn', N', hod, off', hS', J'⟩
    by_cases hlt : i < n
    · refine W.item i _ _ _ hlt hst' fun v h₂ tk₂ hPv hst₂ hk₂ => ?_
      refine wpAny_assign_Name (wpAny_storeName_local (lookup_relabel_local hx) (hn'.at' fun o e => hk₂ _ o (by simpa using Ne.symm hCI) e) (fun h₃ hn₃ hs₃ => ?_) (by simp [compEnvC, relabel, hkind]))
      refine wpAny_tests_nil ?_
      simp only [if_true]
      have hst₃ : St (i + 1) h₃ := W.frame _ _ _ hst₂ fun b hb o e => hs₃.extBut b o (fun q => hCf (by have q' : b = H2.objs.size := q; rw [← q']; exact hb)) e
      obtain ⟨oI, heI⟩ := hIo _ _ hst₃
      obtain ⟨oC, heC, hoC⟩ := ns_obj hn₃
      have F₃ : Fr h₀ L h₃ m := (fr_but F' hk₂ hIL hI₀).change hs₃ hCL hC₀
      have off3 := off'.mem
      have N₂ : News h₀ L h₂ ((s₂.heap.objs.size, oD) :: news') := news_but N' hk₂ fun p hp => by
        rcases List.mem_cons.mp hp with rfl | hp
        · exact Ne.symm hDI
        · exact (off3 p hp).1
      have N₃ : News h₀ L h₃ ((I, oI) :: (H2.objs.size, oC) :: (s₂.heap.objs.size, oD) :: news') := fun p hp => by
        rcases List.mem_cons.mp hp with rfl | hp
        · exact ⟨heI, Ne.symm hIL, hI₀⟩
        · rcases List.mem_cons.mp hp with rfl | hp
          · exact ⟨heC, hCL, hC₀⟩
          · have z := N₂ p hp
            refine ⟨hs₃.extBut _ _ ?_ z.1, z.2⟩
            rcases List.mem_cons.mp hp with rfl | hp
            · exact hDC
            · exact (off3 p hp).2.1
      refine wpAny_mono (turn i kvs news' v oI H2.objs.size oC s₂.heap.objs.size oD _ h₃ _ _ hlt J' hPv hoC (by simp) hod F₃ N₃ off' ⟨hCI, hDI, Ne.symm hDC⟩) (fun kv s₄ h₄ => wpAny_mono h₄ (fun y s₅ h₅ => ?_) fun _ _ e => e) fun _ _ e => e
      obtain ⟨h₄, tk₄, news₄, k, rfl, hkk, F₄, N₄, off₄, hS₄, hkl, J₄⟩ := h₅
      have zI := (N₄ (I, oI) List.mem_cons_self).1
      have zC := (N₄ (H2.objs.size, oC) (List.mem_cons_of_mem _ List.mem_cons_self)).1
      have zD := (N₄ (s₂.heap.objs.size, oD) (List.mem_cons_of_mem _ (List.mem_cons_of_mem _ List.mem_cons_self))).1
      have N₄' : News h₀ L h₄ news₄ := fun p hp => N₄ p (List.mem_cons_of_mem _ (List.mem_cons_of_mem _ (List.mem_cons_of_mem _ hp)))
      have hst₄ : St (i + 1) h₄ := hSt _ _ _ _ _ hst₃ heI zI F₄.keep N₄' hS₄
      have off4 := off₄.mem
      refine wpAny_dictSet_pairs (hsz := Nat.le_trans hkl hsz) hkk (Heap.dictOf_iff.mpr ⟨oD, zD, hod⟩) fun h₆ hl₆ hs₆ => ?_
      obtain ⟨oD', e1, e2⟩ := Heap.dictOf_iff.mp hl₆
      refine ⟨n + 1 - (i + 1), by omega, h₆, _, i + 1, stored kvs k y, oD', _, news₄, rfl, hlt, rfl, W.frame _ _ _ hst₄ fun b hb o e => hs₆.extBut b o (fun q => hDf (q ▸ hb)) e, F₄.change hs₆ hDL hD₀,
        (hoC.ns zC).sameBut hs₆ (Ne.symm hDC), fun p hp => ?_, e2, off₄, hS₄, J₄⟩
      rcases List.mem_cons.mp hp with rfl | hp
      · exact ⟨e1, hDL, hD₀⟩
      · exact ⟨hs₆.extBut _ _ (off4 p hp).2.2 (N₄' p hp).1, (N₄' p hp).2⟩
    · obtain rfl : i = n := Nat.le_antisymm hi (Nat.not_lt.mp hlt)
      refine W.done _ _ _ hst' fun h₂ tk₂ hk₂ => ?_
      have off3 := off'.mem
      exact hRR _ _ oD h₂ tk₂ _ kvs news' (fr_but F' hk₂ hIL hI₀) (news_but N' hk₂ fun p hp => by
        rcases List.mem_cons.mp hp with rfl | hp
        · exact Ne.symm hDI
        · exact (off3 p hp).1) hod off'.one (hn'.at' fun o e => hk₂ _ o (by simpa using Ne.symm hCI) e) hC₀ hD₀ hCL hDL (Ne.symm hDC) (fun p hp => (off3 p hp).2.1) hlo J'
  exact codeAny_compStart_dict (loop _ rfl) (W.self 0 _ _ _ hst₁ (loop _ rfl))
structure SrcD (prog : Program) (w : World) (knd : KeyKind prog w K) (A : Around) (h₀ : Heap) (L : Addr) (m : Str → Option Value) (env : Env) (kx vx : Expr) (x : Str) (scope : Scope) (cl : List (Str × Addr)) (Fin : Shared → List (K × Value) → List (Addr × Obj) → Prop) (xv : Value) (s₁ : Shared)
    (n : Nat) (oI : Obj) (fp : List Addr) (P : Nat → Value → Prop) (St : Nat → Heap → Prop) (S : List (Addr × Obj) → Prop) (news : List (Addr × Obj)) (J : Nat → List (K × Value) → List (Addr × Obj) → Prop) : Prop where
  F : Fr h₀ L s₁.heap m
  N : News h₀ L s₁.heap news
  hsz : n ≤ sizeLine
  it : ∀ (E : Value → Shared → Prop) (Q : Value → Shared → Prop), Q (.ref s₁.heap.objs.size) { s₁ with heap := s₁.heap.push oI } → wpAny (model prog w) A (pyIter xv) Q E s₁
  W : Walks prog w A s₁.heap.objs.size fp [s₁.heap.objs.size] n P St
  hIo : ∀ i h, St i h → ∃ o, h.get? s₁.heap.objs.size = some o
  hSt : ∀ i h h' o nw, St i h → h.get? s₁.heap.objs.size = some o → h'.get? s₁.heap.objs.size = some o → (∀ b o, h₀.get? b = some o → h'.get? b = some o) → News h₀ L h' nw → S nw → St i h'
  h0 : St 0 (s₁.heap.push oI)
  hfp : ∀ b ∈ fp, b < (s₁.heap.push oI).objs.size
  hS : S news
  j0 : J 0 [] news
  turn : ∀ g i kvs news v I oI C oC D oD m₂ h tk (E' : Value → Shared → Prop), i < n → J i kvs news → P i v → NsObj oC m₂ → m₂ x = some v → oD.IsDictOf knd kvs → Fr h₀ L h m → News h₀ L h ((I, oI) :: (C, oC) :: (D, oD) :: news) → Off3 I C D news → ((@Ne Nat I C) ∧ (@Ne Nat I D) ∧ (@Ne Nat C D)) →
      wpAny (model prog w) A (eval kx (compEnvC scope cl C env)) (fun kv s₄ => wpAny (model prog w) A (eval vx (compEnvC scope cl C env)) (DEnd knd h₀ L m { { s₁ with heap := g } with heap := h, toks := tk } I oI C oC D oD S kv (fun k y news' => kvs.length ≤ n ∧ J (i + 1) (stored kvs k y) news')) E' s₄) E' { { s₁ with heap := g } with heap := h, toks := tk }
  done : ∀ g kvs news', J n kvs news' → Fin { s₁ with heap := g } kvs news'
def SrcDAny (knd : KeyKind prog w K) (A : Around) (h₀ : Heap) (L : Addr) (m : Str → Option Value) (env : Env) (kx vx : Expr) (x : Str) (scope : Scope) (cl : List (Str × Addr)) (Fin : Shared → List (K × Value) → List (Addr × Obj) → Prop) (xv : Value) (s₁ : Shared) : Prop :=
  ∃ n oI fp P St S news J, SrcD prog w knd A h₀ L m env kx vx x scope cl Fin xv s₁ n oI fp P St S news J
def FinDE (knd : KeyKind prog w K) (h₀ : Heap) (L : Addr) (m : Str → Option Value) (Q : Value → Shared → Prop) (s : Shared) (kvs : List (K × Value)) (news : List (Addr × Obj)) : Prop :=
  ∀ D oD h tk, Fr h₀ L h m → News h₀ L h ((D, oD) :: news) → Obj.IsDictOf knd oD kvs → Off1 D news → (D == sysModules) = false → Q (.ref D) { s with heap := h, toks := tk }
def FinDA (knd : KeyKind prog w K) (h₀ : Heap) (L : Addr) (m : Str → Option Value) (y : Str) (Q : Flow → Shared → Prop) (s : Shared) (kvs : List (K × Value)) (news : List (Addr × Obj)) : Prop :=
  ∀ D oD h tk, Fr h₀ L h (fun z => if z = y then some (.ref D) else m z) → News h₀ L h ((D, oD) :: news) → Obj.IsDictOf knd oD kvs → Off1 D news → (D == sysModules) = false → Q .next { s with heap := h, toks := tk }
theorem dictComp_W (knd : KeyKind prog w K) {kx vx iter : Expr} {x : Str} {px : Pos} {scope : Scope} {cl : List (Str × Addr)} {pos : Pos} {Q : Value → Shared → Prop} (F₀ : Fr h₀ L s.heap m) (hbig : h₀.NoLimit)
    (hclos : closureFor scope env = pure cl) (hcell : ∀ y ∈ scope.names, y.2 ≠ .cell) (hkind : scope.kind = .function)
    (hnames : ∀ y ∈ scope.names, y.2 = .local → scope.names.lookup y.1 = some .local) (hx : scope.names.lookup x = some .local)
    (h : wpAny (model prog w) A (eval iter env) (SrcDAny knd A h₀ L m env kx vx x scope cl (FinDE knd h₀ L m Q)) E s)
    (hs : ∀ x, foldedSetIterable iter env x = pure x := by intro _; rfl) :
    wpAny (model prog w) A (eval (.DictComp kx vx [⟨.Name x px, iter, [], 0⟩] scope pos) env) Q E s := by
  rw [arm_eval_DictComp]
  refine wpAny_comprehension_free (use := none) rfl hs hclos hkind hnames (wpAny_mono h (fun xv s₁ h₁ => ?_) fun _ _ e => e)
  obtain ⟨n, oI, fp, P, St, S, news, J, Z⟩ := h₁
  refine Z.it _ _ ?_
  refine block_D J (RR := fun acc C => compPost (model prog w) A E none Q acc C) Z.W Z.hsz Z.hIo Z.hSt hcell hkind hx Z.h0 Z.hfp (Z.F.keeps fun _ _ e => Heap.get?_push_of_some _ e) (Z.N.grown fun _ _ e => Heap.get?_push_of_some _ e) (Nat.ne_of_lt Z.F.ns.lt) (next_is_new Z.F) (fun p hp => Nat.ne_of_lt (Heap.lt_size (Z.N p hp).1)) Z.hS Z.j0
    (fun i kvs news v oI' C oC D oD m₂ h tk E' a1 a2 a3 a4 a5 a6 a7 a8 a9 b1 => Z.turn _ i kvs news v _ oI' C oC D oD m₂ h tk E' a1 a2 a3 a4 a5 a6 a7 a8 a9 b1) ?_ hbig
  intro D C oD h tk m' kvs news' F' N' hod o1 hn hC₀ hD₀ hCL hDL hCD offC lo j
  refine ⟨m', hn, fun h'' hs'' => Z.done (s₁.heap.push oI) kvs news' j D oD h'' tk (F'.change hs'' hCL hC₀) (fun p hp => ?_) hod o1 lo⟩
  refine ⟨hs''.extBut _ _ ?_ (N' p hp).1, (N' p hp).2⟩
  rcases List.mem_cons.mp hp with rfl | hp
  · exact Ne.symm hCD
  · exact offC p hp
theorem Assign_dictComp_W (knd : KeyKind prog w K) {kx vx iter : Expr} {x y : Str} {px py : Pos} {scope : Scope} {cl : List (Str × Addr)} {pos spos : Pos} {Q : Flow → Shared → Prop} (F₀ : Fr h₀ L s.heap m) (hbig : h₀.NoLimit) (hLe : env.locals = L)
    (hsw : swapsWith (.DictComp kx vx [⟨.Name x px, iter, [], 0⟩] scope pos) (some (.Name y py)) spos.line env = pure true)
    (hclos : closureFor scope env = pure cl) (hcell : ∀ z ∈ scope.names, z.2 ≠ .cell) (hkind : scope.kind = .function)
    (hnames : ∀ z ∈ scope.names, z.2 = .local → scope.names.lookup z.1 = some .local) (hx : scope.names.lookup x = some .local)
    (hy : env.kindOf y = some .local) (hp : (env.scope.kind == .class || (env.scope.kind == .module && env.locals != env.globals)) = false)
    (h : wpAny (model prog w) A (eval iter env) (SrcDAny knd A h₀ L m env kx vx x scope cl (FinDA knd h₀ L m y Q)) E s)
    (hs : ∀ x, foldedSetIterable iter env x = pure x := by intro _; rfl) :
    wpAny (model prog w) A (exec (.Assign [.Name y py] (.DictComp kx vx [⟨.Name x px, iter, [], 0⟩] scope pos) spos) env) Q E s := by
  subst hLe
  rw [exec_Assign_Name_used _ _ _ _ hsw]
  refine wpAny_bind (wpAny_standAt (wpAny_bind ?_))
  show wpAny _ A (do let _ ← comprehension (.DictComp kx vx [⟨.Name x px, iter, [], 0⟩] scope pos) scope env _ newDict false (eval iter env) (some (assign (.Name y py) env))) _ _ s
  refine wpAny_bind (wpAny_mono (wpAny_comprehension_free (use := some (assign (.Name y py) env)) (Q := fun _ s' => Q .next s') rfl hs hclos hkind hnames
    (wpAny_mono h (fun xv s₁ h₁ => ?_) fun _ _ e => e)) (fun _ s' hq => wpAny_pure (wpAny_pure hq)) fun _ _ e => e)
  obtain ⟨n, oI, fp, P, St, S, news, J, Z⟩ := h₁
  refine Z.it _ _ ?_
  refine block_D J (RR := fun acc C => compPost (model prog w) A E (some (assign (.Name y py) env)) (fun _ s' => Q .next s') acc C) Z.W Z.hsz Z.hIo Z.hSt hcell hkind hx Z.h0 Z.hfp (Z.F.keeps fun _ _ e => Heap.get?_push_of_some _ e) (Z.N.grown fun _ _ e => Heap.get?_push_of_some _ e) (Nat.ne_of_lt Z.F.ns.lt) (next_is_new Z.F) (fun p hp => Nat.ne_of_lt (Heap.lt_size (Z.N p hp).1)) Z.hS Z.j0
    (fun i kvs news v oI' C oC D oD m₂ h tk E' a1 a2 a3 a4 a5 a6 a7 a8 a9 b1 => Z.turn _ i kvs news v _ oI' C oC D oD m₂ h tk E' a1 a2 a3 a4 a5 a6 a7 a8 a9 b1) ?_ hbig
  intro D C oD h' tk m' kvs news' F' N' hod o1 hn hC₀ hD₀ hCL hDL hCD offC lo j
  show wpAny _ A (assign (.Name y py) env (.ref D)) _ _ _
  refine wpAny_assign_Name (wpAny_storeName_local hy F'.ns (fun h₂ hn₂ hs₂ => ?_) hp)
  have hL₀ : h₀.get? env.locals = none := Heap.get?_none_of_le F'.above
  have F₂ : Fr h₀ env.locals h₂ (fun z => if z = y then some (.ref D) else m z) := ⟨hn₂, fun b o e => hs₂.extBut b o (fun q => by rw [q, hL₀] at e; cases e) (F'.keep b o e), F'.above⟩
  refine ⟨m', hn.sameBut hs₂ hCL, fun h'' hs'' => Z.done (s₁.heap.push oI) kvs news' j D oD h'' _ (F₂.change hs'' hCL hC₀) (fun p hp => ?_) hod o1 lo⟩
  have z : h₂.get? p.1 = some p.2 := hs₂.extBut _ _ (N' p hp).2.1 (N' p hp).1
  refine ⟨hs''.extBut _ _ ?_ z, (N' p hp).2⟩
  rcases List.mem_cons.mp hp with rfl | hp
  · exact Ne.symm hCD
  · exact offC p hp
theorem srcD_keys {K0 : Type} [DecidableEq K0] {knd0 : KeyKind prog w K0} {kvs0 : List (K0 × Value)} {kx vx : Expr} {x : Str} {scope : Scope} {cl : List (Str × Addr)} {Fin : Shared → List (K × Value) → List (Addr × Obj) → Prop} {s₁ : Shared} {d : Addr} {od : Obj} {news : List (Addr × Obj)}
    (S : List (Addr × Obj) → Prop) (J : Nat → List (K × Value) → List (Addr × Obj) → Prop)
    (hh : A.handled = none) (F : Fr h₀ L s₁.heap m) (N : News h₀ L s₁.heap news) (hd : ∀ nw, S nw → (d, od) ∈ nw) (hS : S news) (lo : (d == sysModules) = false) (hod : od.IsDictOf knd0 kvs0) (hsz : kvs0.length ≤ sizeLine) (j0 : J 0 [] news)
    (turn : ∀ g i kvs news v I oI C oC D oD m₂ h tk (E' : Value → Shared → Prop), i < kvs0.length → J i kvs news → (∃ k x, kvs0[i]? = some (k, x) ∧ knd0.is k v = true) → NsObj oC m₂ → m₂ x = some v → Obj.IsDictOf knd oD kvs → Fr h₀ L h m → News h₀ L h ((I, oI) :: (C, oC) :: (D, oD) :: news) → Off3 I C D news → ((@Ne Nat I C) ∧ (@Ne Nat I D) ∧ (@Ne Nat C D)) →
      wpAny (model prog w) A (eval kx (compEnvC scope cl C env)) (fun kv s₄ => wpAny (model prog w) A (eval vx (compEnvC scope cl C env)) (DEnd knd h₀ L m { { s₁ with heap := g } with heap := h, toks := tk } I oI C oC D oD S kv (fun k y news' => kvs.length ≤ kvs0.length ∧ J (i + 1) (stored kvs k y) news')) E' s₄) E' { { s₁ with heap := g } with heap := h, toks := tk })
    (done : ∀ g kvs news', J kvs0.length kvs news' → Fin { s₁ with heap := g } kvs news') :
    SrcDAny knd A h₀ L m env kx vx x scope cl Fin (.ref d) s₁ := by
  have hdN := N _ (hd _ hS)
  obtain ⟨es, ep, q1, q2, q3⟩ := hod
  have hAt : ∀ h : Heap, h.get? d = some od → h.DictAt knd0 d kvs0 ep := fun h e => ⟨od, es, e, q1, q2, q3⟩
  have hlt := Heap.lt_size hdN.1
  refine ⟨_, _, _, _, _, S, news, J, ⟨F, N, hsz, fun E Q hq => wpAny_pyIter_dict lo (hAt _ hdN.1) hq, Walks.dictKeys hh _ d (Nat.ne_of_lt hlt) kvs0 ep, fun i h st => ?_, fun i h h' o nw st e e' k N' S' => ?_, ⟨⟨_, Heap.get?_push_size _ rfl, rfl, rfl⟩, (hAt _ hdN.1).push _⟩, fun b hb => ?_, hS, j0, turn, done⟩⟩
  · obtain ⟨o, e, _⟩ := st.1; exact ⟨o, e⟩
  · exact ⟨by obtain ⟨o', q, r⟩ := st.1; rw [e] at q; cases q; exact ⟨o, e', r⟩, hAt _ (N' _ (hd _ S')).1⟩
  · rw [Heap.size_push]
    rcases List.mem_cons.mp hb with rfl | hb
    · exact Nat.lt_succ_self _
    · rw [List.mem_singleton.mp hb]; exact Nat.lt_succ_of_lt hlt
theorem srcD_range {kx vx : Expr} {x : Str} {scope : Scope} {cl : List (Str × Addr)} {Fin : Shared → List (K × Value) → List (Addr × Obj) → Prop} {s₁ : Shared} {r : Addr} {a b : Int} {t u v : Tok} {n : Nat} {news : List (Addr × Obj)}
    (S : List (Addr × Obj) → Prop) (J : Nat → List (K × Value) → List (Addr × Obj) → Prop)
    (hh : A.handled = none) (F : Fr h₀ L s₁.heap m) (N : News h₀ L s₁.heap news) (hr : IsRange s₁.heap r a b 1 t u v) (hsm : Builtin.Range.small a b 1 = true) (hn : Builtin.Range.rangeSize a b 1 = ((n : Nat) : Int)) (hsz : n ≤ sizeLine) (hS : S news) (j0 : J 0 [] news)
    (turn : ∀ g i kvs news v I oI C oC D oD m₂ h tk (E' : Value → Shared → Prop), i < n → J i kvs news → (∃ t, v = .int (a + (i : Int)) t) → NsObj oC m₂ → m₂ x = some v → Obj.IsDictOf knd oD kvs → Fr h₀ L h m → News h₀ L h ((I, oI) :: (C, oC) :: (D, oD) :: news) → Off3 I C D news → ((@Ne Nat I C) ∧ (@Ne Nat I D) ∧ (@Ne Nat C D)) →
      wpAny (model prog w) A (eval kx (compEnvC scope cl C env)) (fun kv s₄ => wpAny (model prog w) A (eval vx (compEnvC scope cl C env)) (DEnd knd h₀ L m { { s₁ with heap := g } with heap := h, toks := tk } I oI C oC D oD S kv (fun k y news' => kvs.length ≤ n ∧ J (i + 1) (stored kvs k y) news')) E' s₄) E' { { s₁ with heap := g } with heap := h, toks := tk })
    (done : ∀ g kvs news', J n kvs news' → Fin { s₁ with heap := g } kvs news') :
    SrcDAny knd A h₀ L m env kx vx x scope cl Fin (.ref r) s₁ := by
  refine ⟨_, _, _, _, _, S, news, J, ⟨F, N, hsz, fun E Q hq => wpAny_pyIter_range hr hsm hq, range_walks hh a n, fun i h st => ⟨_, st⟩, fun i h h' o nw st e e' k N' S' => range_st i h h' o nw st e e' k N' trivial, by show IsRangeIter _ _ _ _ _; rw [hn]; simpa using Heap.get?_push_size _ rfl, fun b hb => ?_, hS, j0, turn, done⟩⟩
  rw [List.mem_singleton.mp hb, Heap.size_push]
  exact Nat.lt_succ_self _
end

end
section -- PComp
open PySem PySem.W PyProof.Rows PySem.Calls
set_option maxRecDepth 100000
set_option maxHeartbeats 4000000
open PyProof.Rows.LCg
section
variable {prog : Program} {w : World} {A : Around} {E : Value → Shared → Prop} {s : Shared} {h₀ : Heap} {L : Addr} {m : Str → Option Value} {env : Env}
/-- the last clause of a comprehension -/
def lastTurn (elt target iter : Expr) (gens : List Comprehension) (scope : Scope) (pos : Pos) (d : Nat) (it acc : Value) (env : Env) : Sem Fin := do
  standAt iter.pos
  match ← pyNext it with
  | none => pure (.done .next)
  | some v =>
    letOwnedTupleGo target it v
    assign target env v
    let mut ok := true
    for c in ([] : List Expr) do
      if ok then ok ← isTrue c env (eval c env)
    if ok then
      (do let _ ← call (.builtin "list.append") [acc, ← eval elt env])
    again (.compLoop (.ListComp elt gens scope pos) d it acc env)
/-- a clause that is not the last -/
def midTurn (elt target iter iter2 : Expr) (gens : List Comprehension) (scope : Scope) (pos : Pos) (it acc : Value) (env : Env) : Sem Fin := do
  standAt iter.pos
  match ← pyNext it with
  | none => pure (.done .next)
  | some v =>
    letOwnedTupleGo target it v
    assign target env v
    let mut ok := true
    for c in ([] : List Expr) do
      if ok then ok ← isTrue c env (eval c env)
    if ok then
      let x ← eval iter2 env
      standAt iter2.pos
      let x ← foldedSetIterable iter2 env x
      let _ ← runOwn (.compStart (.ListComp elt gens scope pos) 1 (← holding [x] (pyIter x)) acc env) env
    again (.compLoop (.ListComp elt gens scope pos) 0 it acc env)
theorem last_one (elt target iter : Expr) (scope : Scope) (pos : Pos) (it acc : Value) (env : Env) : compTurn (.ListComp elt [⟨target, iter, [], 0⟩] scope pos) 0 it acc env = lastTurn elt target iter [⟨target, iter, [], 0⟩] scope pos 0 it acc env := rfl
theorem last_two (elt target iter : Expr) (g : Comprehension) (scope : Scope) (pos : Pos) (it acc : Value) (env : Env) : compTurn (.ListComp elt [g, ⟨target, iter, [], 0⟩] scope pos) 1 it acc env = lastTurn elt target iter [g, ⟨target, iter, [], 0⟩] scope pos 1 it acc env := rfl
theorem mid_two (elt target iter target2 iter2 : Expr) (scope : Scope) (pos : Pos) (it acc : Value) (env : Env) : compTurn (.ListComp elt [⟨target, iter, [], 0⟩, ⟨target2, iter2, [], 0⟩] scope pos) 0 it acc env = midTurn elt target iter iter2 [⟨target, iter, [], 0⟩, ⟨target2, iter2, [], 0⟩] scope pos it acc env := rfl
theorem compLoop_last {elt iter : Expr} {elts : List Expr} {x1} {tp : Pos} {gens : List Comprehension} {scope : Scope} {pos : Pos} {d : Nat} {it acc : Value} {env : Env} {R : Result → Shared → Prop} (I : Nat → Shared → Prop)
    (heq : compTurn (.ListComp elt gens scope pos) d it acc env = lastTurn elt (.Tuple elts x1 tp) iter gens scope pos d it acc env)
    (turn : ∀ n s, I n s → wpAny (model prog w) A (pyNext it) (fun r s₁ => match r with
      | none => R (.ok .next) s₁
      | some v => wpAny (model prog w) A (letOwnedTupleGo (.Tuple elts x1 tp) it v) (fun _ s₁' => wpAny (model prog w) A (assign (.Tuple elts x1 tp) env v) (fun _ s₂ =>
          wpAny (model prog w) A (eval elt env) (fun x s₄ =>
              wpAny (model prog w) A (call (.builtin "list.append") [acc, x]) (fun _ s₅ => ∃ m, m < n ∧ I m s₅) (notedBy (model prog w) A env fun e s' => R (.error e) s') s₄) (notedBy (model prog w) A env fun e s' => R (.error e) s') s₂)
          (notedBy (model prog w) A env fun e s' => R (.error e) s') s₁') (notedBy (model prog w) A env fun e s' => R (.error e) s') s₁) (notedBy (model prog w) A env fun e s' => R (.error e) s') s)
    (n : Nat) (h : I n s) : codeAny (model prog w) A (.compLoop (.ListComp elt gens scope pos) d it acc env) R s := by
  refine codeAny_loop rfl I (fun n s hI => ?_) n h
  show wpAny _ A ((compTurn (.ListComp elt gens scope pos) d it acc env).onRaise (fun x => do noteFrame x env; theTreesLotGoes x)) _ _ s
  refine wpAny_noted ?_
  rw [heq]
  unfold lastTurn
  refine wpAny_bind (wpAny_standAt (wpAny_bind (wpAny_mono (turn n s hI) (fun r s₁ h₁ => ?_) fun _ _ h' => h')))
  cases r with
  | none => exact wpAny_pure h₁
  | some v =>
    refine wpAny_bind (wpAny_mono h₁ (fun _ s₁' h₁' => ?_) fun _ _ h' => h')
    refine wpAny_bind (wpAny_mono h₁' (fun _ s₂ h₂ => wpAny_bind (wpAny_mono (wpAny_tests_nil (Q := fun ok s₃ => ok = true ∧ s₃ = s₂) ⟨rfl, rfl⟩) (fun ok s₃ h₃ => ?_) fun _ _ h' => h')) fun _ _ h' => h')
    obtain ⟨rfl, rfl⟩ := h₃
    exact wpAny_bind (wpAny_bind (wpAny_mono h₂ (fun x s₄ h₄ => wpAny_bind (wpAny_mono h₄ (fun _ s₅ h₅ => wpAny_pure (wpAny_pure ⟨rfl, h₅⟩)) fun _ _ h' => h')) fun _ _ h' => h'))
theorem compLoop_mid {elt target iter target2 iter2 : Expr} {scope : Scope} {pos : Pos} {it acc : Value} {env : Env} {R : Result → Shared → Prop} (I : Nat → Shared → Prop)
    (turn : ∀ n s, I n s → wpAny (model prog w) A (pyNext it) (fun r s₁ => match r with
      | none => R (.ok .next) s₁
      | some v => wpAny (model prog w) A (assign target env v) (fun _ s₂ =>
          wpAny (model prog w) A (eval iter2 env) (fun x s₄ => wpAny (model prog w) A (pyIter x) (fun it2 s₅ =>
              codeAny (model prog w) A (.compStart (.ListComp elt [⟨target, iter, [], 0⟩, ⟨target2, iter2, [], 0⟩] scope pos) 1 it2 acc env) (fun r s' => match r with | .ok _ => ∃ m, m < n ∧ I m s' | .error e => cameBackBy (model prog w) A env (notedBy (model prog w) A env fun e s' => R (.error e) s') e s') s₅)
              (notedBy (model prog w) A env fun e s' => R (.error e) s') s₄) (notedBy (model prog w) A env fun e s' => R (.error e) s') s₂)
          (notedBy (model prog w) A env fun e s' => R (.error e) s') s₁) (notedBy (model prog w) A env fun e s' => R (.error e) s') s)
    (n : Nat) (h : I n s) (ht : ∀ v, letOwnedTupleGo target it v = pure () := by intro _; rfl) (hs : ∀ x, foldedSetIterable iter2 env x = pure x := by intro _; rfl) : codeAny (model prog w) A (.compLoop (.ListComp elt [⟨target, iter, [], 0⟩, ⟨target2, iter2, [], 0⟩] scope pos) 0 it acc env) R s := by
  refine codeAny_loop rfl I (fun n s hI => ?_) n h
  show wpAny _ A ((compTurn (.ListComp elt [⟨target, iter, [], 0⟩, ⟨target2, iter2, [], 0⟩] scope pos) 0 it acc env).onRaise (fun x => do noteFrame x env; theTreesLotGoes x)) _ _ s
  refine wpAny_noted ?_
  rw [mid_two]
  unfold midTurn
  refine wpAny_bind (wpAny_standAt (wpAny_bind (wpAny_mono (turn n s hI) (fun r s₁ h₁ => ?_) fun _ _ h' => h')))
  cases r with
  | none => exact wpAny_pure h₁
  | some v =>
    refine wpAny_bind (wpAny_of_eq (ht v) ?_)
    refine wpAny_bind (wpAny_mono h₁ (fun _ s₂ h₂ => wpAny_bind (wpAny_mono (wpAny_tests_nil (Q := fun ok s₃ => ok = true ∧ s₃ = s₂) ⟨rfl, rfl⟩) (fun ok s₃ h₃ => ?_) fun _ _ h' => h')) fun _ _ h' => h')
    obtain ⟨rfl, rfl⟩ := h₃
    refine wpAny_bind (wpAny_mono h₂ (fun x s₄ h₄ => wpAny_bind (wpAny_standAt (wpAny_bind (wpAny_of_eq (hs x) (wpAny_bind (wpAny_holding (wpAny_mono h₄ (fun it2 s₅ h₅ => ?_) fun _ _ h' => h'))))))) fun _ _ h' => h')
    refine wpAny_bind (wpAny_runOwn (codeAny_mono h₅ fun r s' hr => ?_))
    cases r with
    | ok f => exact wpAny_pure ⟨rfl, hr⟩
    | error e => exact hr
theorem compStart_one {elt : Expr} {target iter : Expr} {scope : Scope} {pos : Pos} {g : Comprehension} {it acc : Value} {env : Env} {R : Result → Shared → Prop}
    (h0 : codeAny (model prog w) A (.compLoop (.ListComp elt [g, ⟨target, iter, [], 0⟩] scope pos) 1 it acc env) R s)
    (h : wpAny (model prog w) A (pyIter it) (fun it' s' => codeAny (model prog w) A (.compLoop (.ListComp elt [g, ⟨target, iter, [], 0⟩] scope pos) 1 it' acc env) R s')
      (notedBy (model prog w) A env fun x s' => R (.error x) s') s) :
    codeAny (model prog w) A (.compStart (.ListComp elt [g, ⟨target, iter, [], 0⟩] scope pos) 1 it acc env) R s := by
  refine codeAny_of_tree ?_
  show wpAny _ _ ((compStart (.ListComp elt [g, ⟨target, iter, [], 0⟩] scope pos) 1 it acc env).onRaise (fun x => do noteFrame x env; standAt theWindowsPlace)) _ _ s
  refine wpAny_notedAt ?_
  unfold compStart
  show wpAny _ _ (ask >>= _) _ _ s
  refine wpAny_bind (wpAny_askSetting (wpAny_ite ?_))
  split
  · first
      | exact wpAny_bind (wpAny_pure (wpAny_pure (And.intro rfl h0)))
      | exact wpAny_pure (And.intro rfl h0)
  · first
      | exact wpAny_bind (wpAny_rule (wpAny_bind (wpAny_standAt (wpAny_bind (wpAny_mono h (fun it' s' h' => wpAny_pure (And.intro rfl h')) fun _ _ x => x)))))
      | (refine wpAny_bind (wpAny_rule ?_); show wpAny _ _ (standAt iter.pos >>= _) _ _ s; exact wpAny_bind (wpAny_standAt (wpAny_bind (wpAny_mono h (fun it' s' h' => wpAny_pure (And.intro rfl h')) fun _ _ x => x))))
theorem loopP {elt iter : Expr} {gens : List Comprehension} {d : Nat} {x x₂ : Str} {px px₂ tp : Pos} {tk1 : Nat} {scope : Scope} {cl : List (Str × Addr)} {pos : Pos} {s₂ : Shared} {I C D : Addr} {fp : List Addr} {n : Nat} {P : Nat → Value → Prop} {St : Nat → Heap → Prop} {S : List (Addr × Obj) → Prop} {news : List (Addr × Obj)} {mC : Str → Option Value} {ys0 : List Value}
    (J : Nat → List Value → List (Addr × Obj) → Prop) {R : Result → Shared → Prop}
    (heq : compTurn (.ListComp elt gens scope pos) d (.ref I) (.ref D) (compEnvC scope cl C env) = lastTurn elt (.Tuple [.Name x px, .Name x₂ px₂] tk1 tp) iter gens scope pos d (.ref I) (.ref D) (compEnvC scope cl C env))
    (W : Walks prog w A I fp [I] n P St) (hsz : ys0.length + n ≤ sizeLine) (hIo : ∀ i h, St i h → ∃ o, h.get? I = some o)
    (hgo : ∀ i (s : Shared) (T : Addr) (Q : Unit → Shared → Prop) (E : Value → Shared → Prop), St i s.heap → Q () s → wpAny (model prog w) A (letOwnedTupleGo (.Tuple [.Name x px, .Name x₂ px₂] tk1 tp) (.ref I) (.ref T)) Q E s)
    (hSt : ∀ i h h' o nw, St i h → h.get? I = some o → h'.get? I = some o → (∀ b o, h₀.get? b = some o → h'.get? b = some o) → News h₀ L h' nw → S nw → St i h')
    (hkind : scope.kind = .function) (hx : scope.names.lookup x = some .local) (hx₂ : scope.names.lookup x₂ = some .local) (hxx : x ≠ x₂) (hh : A.handled = none) (hst : St 0 s₂.heap)
    (F : Fr h₀ L s₂.heap m) (N : News h₀ L s₂.heap ((D, lst ys0) :: news)) (hn : s₂.heap.Ns C mC) (hIL : L ≠ I) (hI₀ : h₀.get? I = none) (hCL : C ≠ L) (hC₀ : h₀.get? C = none) (hCI : @Ne Nat I C) (hDI : @Ne Nat I D) (hCD : @Ne Nat C D) (hCf : C ∉ fp) (hDf : D ∉ fp) (off : Off3 I C D news) (hS : S news)
    (h0 : J 0 ys0 news)
    (turn : ∀ i ys news v, i < n → J i ys news → P i v → ∃ (t : Addr) (ot : Obj) (v₁ v₂ : Value) (nt : Nat), v = .ref t ∧ (t, ot) ∈ news ∧ ot.cls = .type "tuple" ∧ ot.data = .seq #[v₁, v₂] nt ∧
      ∀ oI oC m₂ h tk (E' : Value → Shared → Prop), NsObj oC m₂ → m₂ x = some v₁ → m₂ x₂ = some v₂ → (∀ z, z ≠ x → z ≠ x₂ → m₂ z = mC z) → Fr h₀ L h m → News h₀ L h ((I, oI) :: (C, oC) :: (D, lst ys) :: news) → Off3 I C D news → ((@Ne Nat I C) ∧ (@Ne Nat I D) ∧ (@Ne Nat C D)) →
      wpAny (model prog w) A (eval elt (compEnvC scope cl C env)) (CompEnd h₀ L m { s₂ with heap := h, toks := tk } I oI C oC D (lst ys) S (fun y news' => J (i + 1) (ys ++ [y]) news')) E' { s₂ with heap := h, toks := tk })
    (done : ∀ h tk m' ys news', Fr h₀ L h m → News h₀ L h ((D, lst ys) :: news') → h.Ns C m' → (∀ z, z ≠ x → z ≠ x₂ → m' z = mC z) → Off3 I C D news' → S news' → ys.length = ys0.length + n → J n ys news' → R (.ok .next) { s₂ with heap := h, toks := tk }) :
    codeAny (model prog w) A (.compLoop (.ListComp elt gens scope pos) d (.ref I) (.ref D) (compEnvC scope cl C env)) R s₂ := by
  have hDL : D ≠ L := (N _ List.mem_cons_self).2.1
  have hD₀ : h₀.get? D = none := (N _ List.mem_cons_self).2.2
  refine compLoop_last
    (fun k s' => ∃ h' tk i ys m' news', s' = { s₂ with heap := h', toks := tk } ∧ i ≤ n ∧ k = n + 1 - i ∧ ys.length = ys0.length + i ∧ St i h' ∧ Fr h₀ L h' m ∧ h'.Ns C m' ∧ (∀ z, z ≠ x → z ≠ x₂ → m' z = mC z) ∧ News h₀ L h' ((D, lst ys) :: news') ∧
      Off3 I C D news' ∧ S news' ∧ J i ys news') heq ?_ (n + 1)
    ⟨s₂.heap, _, 0, ys0, mC, news, rfl, Nat.zero_le _, rfl, rfl, hst, F, hn, fun _ _ _ => rfl, N, off, hS, h0⟩
  rintro k s' ⟨h', tk, i, ys, m', news', rfl, hi, rfl, hyl, hst', F', hn', hmC, N', off', hS', J'⟩
  have off3 := off'.mem
  by_cases hlt : i < n
  · refine W.item i _ _ _ hlt hst' fun v h₂ tk₂ hPv hst₂ hk₂ => ?_
    obtain ⟨t, ot, v₁, v₂, nt, rfl, hmt, hct, hdt, R''⟩ := turn i ys news' v hlt J' hPv
    have N₂ : News h₀ L h₂ ((D, lst ys) :: news') := news_but N' hk₂ fun p hp => by
      rcases List.mem_cons.mp hp with rfl | hp
      · exact Ne.symm hDI
      · exact (off3 p hp).1
    have ht : IsTup h₂ t #[v₁, v₂] := ⟨ot, (N₂ _ (List.mem_cons_of_mem _ hmt)).1, hct, nt, hdt⟩
    refine hgo _ _ _ _ _ hst₂ ?_
    refine assign_Tuple_tuple hh ht rfl rfl fun h₅ he => ?_
    have he' : ∀ b o, h₂.get? b = some o → h₅.get? b = some o := fun b o e => he b o (Nat.ne_of_lt (Heap.lt_size e)) e
    refine assignInOrder_cons (wpAny_assign_Name (wpAny_storeName_local (lookup_relabel_local hx) ((hn'.at' fun o e => hk₂ _ o (by simpa using Ne.symm hCI) e).at' fun o e => he' _ o e) (fun h₆ hn₆ hs₆ => ?_) (by simp [compEnvC, relabel, hkind])))
    refine assignInOrder_cons (wpAny_assign_Name (wpAny_storeName_local (lookup_relabel_local hx₂) hn₆ (fun h₃ hn₃ hs₃ => ?_) (by simp [compEnvC, relabel, hkind])))
    refine assignInOrder_nil ?_
    have old3 : ∀ b o, b ≠ C → h₂.get? b = some o → h₃.get? b = some o := fun b o hb e => hs₃.extBut b o hb (hs₆.extBut b o hb (he' b o e))
    have hst₃ : St (i + 1) h₃ := W.frame _ _ _ hst₂ fun b hb o e => old3 b o (fun q => hCf (by rw [← q]; exact hb)) e
    obtain ⟨oI, heI⟩ := hIo _ _ hst₃
    obtain ⟨oC, heC, hoC⟩ := ns_obj hn₃
    have F₃ : Fr h₀ L h₃ m := (((fr_but F' hk₂ hIL hI₀).keeps he').change hs₆ hCL hC₀).change hs₃ hCL hC₀
    have N₃ : News h₀ L h₃ ((I, oI) :: (C, oC) :: (D, lst ys) :: news') := fun p hp => by
      rcases List.mem_cons.mp hp with rfl | hp
      · exact ⟨heI, Ne.symm hIL, hI₀⟩
      · rcases List.mem_cons.mp hp with rfl | hp
        · exact ⟨heC, hCL, hC₀⟩
        · have z := N₂ p hp
          refine ⟨old3 _ _ ?_ z.1, z.2⟩
          rcases List.mem_cons.mp hp with rfl | hp
          · exact Ne.symm hCD
          · exact (off3 p hp).2.1
    have hm3 : ∀ z, z ≠ x → z ≠ x₂ → (fun z => if z = x₂ then some v₂ else if z = x then some v₁ else m' z) z = mC z := fun z h1 h2 => by
      dsimp only
      rw [if_neg h2, if_neg h1]
      exact hmC z h1 h2
    refine wpAny_mono (R'' oI oC _ h₃ _ _ hoC (by simp [hxx]) (by simp) hm3 F₃ N₃ off' ⟨hCI, hDI, hCD⟩) (fun y s₄ h₄ => ?_) fun _ _ e => e
    obtain ⟨h₄, tk₄, news₄, rfl, F₄, N₄, off₄, hS₄, R₄⟩ := h₄
    have zI := (N₄ (I, oI) List.mem_cons_self).1
    have zC := (N₄ (C, oC) (List.mem_cons_of_mem _ List.mem_cons_self)).1
    have zD := (N₄ (D, lst ys) (List.mem_cons_of_mem _ (List.mem_cons_of_mem _ List.mem_cons_self))).1
    have N₄' : News h₀ L h₄ news₄ := fun p hp => N₄ p (List.mem_cons_of_mem _ (List.mem_cons_of_mem _ (List.mem_cons_of_mem _ hp)))
    have hst₄ : St (i + 1) h₄ := hSt _ _ _ _ _ hst₃ heI zI F₄.keep N₄' hS₄
    refine append_at (hsz := by show ys.toArray.size ≤ sizeLine; rw [List.size_toArray, hyl]; omega) zD fun h₅ hs₅ hD₅ => ?_
    have off4 := off₄.mem
    refine ⟨n + 1 - (i + 1), by omega, h₅, tk₄, i + 1, ys ++ [y], _, news₄, rfl, hlt, rfl, by rw [List.length_append, List.length_singleton, hyl]; omega, W.frame _ _ _ hst₄ fun b hb o e => hs₅.extBut b o (fun q => hDf (q ▸ hb)) e, F₄.change hs₅ hDL hD₀,
      (hoC.ns zC).sameBut hs₅ hCD, hm3, fun p hp => ?_, off₄, hS₄, R₄⟩
    rcases List.mem_cons.mp hp with rfl | hp
    · exact ⟨hD₅.trans (congrArg some (lst_snoc ys y)), hDL, hD₀⟩
    · exact ⟨hs₅.extBut _ _ (off4 p hp).2.2 (N₄' p hp).1, (N₄' p hp).2⟩
  · obtain rfl : i = n := Nat.le_antisymm hi (Nat.not_lt.mp hlt)
    refine W.done _ _ _ hst' fun h₂ tk₂ hk₂ => ?_
    exact done h₂ tk₂ _ ys news' (fr_but F' hk₂ hIL hI₀) (news_but N' hk₂ fun p hp => by
      rcases List.mem_cons.mp hp with rfl | hp
      · exact Ne.symm hDI
      · exact (off3 p hp).1) (hn'.at' fun o e => hk₂ _ o (by simpa using Ne.symm hCI) e) hmC off' hS' hyl J'
/-- a comprehension begins: its list and its own names -/
theorem comp_start {e : Expr} {scope : Scope} {cl : List (Str × Addr)} {s₂ : Shared} {I : Addr} {fp : List Addr} {news : List (Addr × Obj)} {RR : Value → Addr → Result → Shared → Prop}
    (hcell : ∀ y ∈ scope.names, y.2 ≠ .cell) (hkind : scope.kind = .function) (hfp : ∀ b ∈ fp, b < s₂.heap.objs.size) (hIf : I ∈ fp)
    (F : Fr h₀ L s₂.heap m) (N : News h₀ L s₂.heap news) (off : ∀ p ∈ news, p.1 ≠ I)
    (k : ∀ C D h₁ tk mC, Fr h₀ L h₁ m → News h₀ L h₁ ((D, lst []) :: news) → h₁.Ns C mC → (∀ b o, s₂.heap.get? b = some o → h₁.get? b = some o) → C ≠ L → h₀.get? C = none → @Ne Nat I C → @Ne Nat I D → @Ne Nat C D → C ∉ fp → D ∉ fp → Off3 I C D news →
      codeAny (model prog w) A (.compStart e 0 (.ref I) (.ref D) (compEnvC scope cl C env)) (RR (.ref D) C) { s₂ with heap := h₁, toks := tk }) :
    wpAny (model prog w) A (newList []) (fun acc s₃ => wpAny (model prog w) A (newFunctionEnv scope env.globals cl [] env.qual none .none (some env)) (fun cenv s₄ =>
      codeAny (model prog w) A (.compStart e 0 (.ref I) acc { cenv with scope := relabel scope env }) (RR acc cenv.locals) s₄) E s₃) E s₂ := by
  refine wpAny_newObj_type (wpAny_newFunctionEnv hcell (by intro y hy; simp at hy) (fun h₁ hns₁ hsb₁ => ?_) hkind)
  dsimp only at hns₁ hsb₁ ⊢
  generalize hH2 : s₂.heap.push { cls := .type "list", dict := none, data := .seq ([] : List Value).toArray } = H2 at hns₁ hsb₁ ⊢
  have hC : H2.objs.size = s₂.heap.objs.size + 1 := by rw [← hH2, Heap.size_push]
  have hDC : s₂.heap.objs.size ≠ H2.objs.size := by rw [hC]; exact Nat.ne_of_lt (Nat.lt_succ_self _)
  have below : ∀ b, b < s₂.heap.objs.size → b ≠ H2.objs.size ∧ b ≠ s₂.heap.objs.size := fun b hb => ⟨by rw [hC]; exact Nat.ne_of_lt (Nat.lt_succ_of_lt hb), Nat.ne_of_lt hb⟩
  have hDf : s₂.heap.objs.size ∉ fp := fun hm => Nat.lt_irrefl _ (hfp _ hm)
  have hCf : H2.objs.size ∉ fp := fun hm => by have := hfp _ hm; rw [hC] at this; exact Nat.lt_irrefl _ (Nat.lt_of_succ_lt this)
  have hIlt : I < s₂.heap.objs.size := hfp I hIf
  have old : ∀ b o, s₂.heap.get? b = some o → h₁.get? b = some o := fun b o e => hsb₁.extBut b o (below b (Heap.lt_size e)).1 (Heap.get?_push_of_some _ (hH2 ▸ Heap.get?_push_of_some _ e))
  have hacc : h₁.get? s₂.heap.objs.size = some (lst []) := hsb₁.extBut _ _ hDC (Heap.get?_push_of_some _ (hH2 ▸ Heap.get?_push_size _ rfl))
  have fresh : ∀ a, s₂.heap.objs.size ≤ a → s₂.heap.get? a = none := fun a ha => by
    cases e : s₂.heap.get? a with
    | none => rfl
    | some o' => exact absurd (Heap.lt_size e) (Nat.not_lt.mpr ha)
  have fresh₀ : ∀ a, s₂.heap.objs.size ≤ a → h₀.get? a = none := fun a ha => by
    cases e : h₀.get? a with
    | none => rfl
    | some o' => have := F.keep a o' e; rw [fresh a ha] at this; cases this
  have hD₀ : h₀.get? s₂.heap.objs.size = none := fresh₀ _ (Nat.le_refl _)
  have hC₀ : h₀.get? H2.objs.size = none := fresh₀ _ (by rw [hC]; exact Nat.le_succ _)
  have hLlt : L < s₂.heap.objs.size := F.ns.lt
  refine k H2.objs.size s₂.heap.objs.size h₁ _ _ (F.keeps old) (fun p hp => ?_) hns₁ old (Ne.symm (below L hLlt).1) hC₀ (below I hIlt).1 (below I hIlt).2 (Ne.symm hDC) hCf hDf
    (Off3.of fun p hp => ⟨off p hp, (below _ (Heap.lt_size (N p hp).1)).1, (below _ (Heap.lt_size (N p hp).1)).2⟩)
  rcases List.mem_cons.mp hp with rfl | hp
  · exact ⟨hacc, Ne.symm (below L hLlt).2, hD₀⟩
  · exact ⟨old _ _ (N p hp).1, (N p hp).2⟩
/-- what a comprehension with a pair for its target walks over -/
structure SrcP (prog : Program) (w : World) (A : Around) (h₀ : Heap) (L : Addr) (m : Str → Option Value) (env : Env) (elt : Expr) (x x₂ : Str) (px px₂ tp : Pos) (tk1 : Nat) (scope : Scope) (cl : List (Str × Addr)) (Fin : Shared → List Value → List (Addr × Obj) → Prop) (xv : Value) (s₁ : Shared)
    (n : Nat) (oI : Obj) (fp : List Addr) (P : Nat → Value → Prop) (St : Nat → Heap → Prop) (S : List (Addr × Obj) → Prop) (news : List (Addr × Obj)) (J : Nat → List Value → List (Addr × Obj) → Prop) : Prop where
  hh : A.handled = none
  F : Fr h₀ L s₁.heap m
  N : News h₀ L s₁.heap news
  hsz : n ≤ sizeLine
  it : ∀ (E : Value → Shared → Prop) (Q : Value → Shared → Prop), Q (.ref s₁.heap.objs.size) { s₁ with heap := s₁.heap.push oI } → wpAny (model prog w) A (pyIter xv) Q E s₁
  W : Walks prog w A s₁.heap.objs.size fp [s₁.heap.objs.size] n P St
  hIo : ∀ i h, St i h → ∃ o, h.get? s₁.heap.objs.size = some o
  hgo : ∀ i (s : Shared) (T : Addr) (Q : Unit → Shared → Prop) (E : Value → Shared → Prop), St i s.heap → Q () s → wpAny (model prog w) A (letOwnedTupleGo (.Tuple [.Name x px, .Name x₂ px₂] tk1 tp) (.ref s₁.heap.objs.size) (.ref T)) Q E s
  hSt : ∀ i h h' o nw, St i h → h.get? s₁.heap.objs.size = some o → h'.get? s₁.heap.objs.size = some o → (∀ b o, h₀.get? b = some o → h'.get? b = some o) → News h₀ L h' nw → S nw → St i h'
  h0 : St 0 (s₁.heap.push oI)
  hfp : ∀ b ∈ fp, b < (s₁.heap.push oI).objs.size
  hS : S news
  j0 : J 0 [] news
  turn : ∀ g i ys news v, i < n → J i ys news → P i v → ∃ (t : Addr) (ot : Obj) (v₁ v₂ : Value) (nt : Nat), v = .ref t ∧ (t, ot) ∈ news ∧ ot.cls = .type "tuple" ∧ ot.data = .seq #[v₁, v₂] nt ∧
      ∀ I C D oI oC m₂ h tk (E' : Value → Shared → Prop), NsObj oC m₂ → m₂ x = some v₁ → m₂ x₂ = some v₂ → Fr h₀ L h m → News h₀ L h ((I, oI) :: (C, oC) :: (D, lst ys) :: news) → Off3 I C D news → ((@Ne Nat I C) ∧ (@Ne Nat I D) ∧ (@Ne Nat C D)) →
      wpAny (model prog w) A (eval elt (compEnvC scope cl C env)) (CompEnd h₀ L m { s₁ with heap := h, toks := tk } I oI C oC D (lst ys) S (fun y news' => J (i + 1) (ys ++ [y]) news')) E' { ({ s₁ with heap := g } : Shared) with heap := h, toks := tk }
  done : ∀ g ys news, J n ys news → Fin { s₁ with heap := g } ys news
def SrcPAny (prog : Program) (w : World) (A : Around) (h₀ : Heap) (L : Addr) (m : Str → Option Value) (env : Env) (elt : Expr) (x x₂ : Str) (px px₂ tp : Pos) (tk1 : Nat) (scope : Scope) (cl : List (Str × Addr)) (Fin : Shared → List Value → List (Addr × Obj) → Prop) (xv : Value) (s₁ : Shared) : Prop :=
  ∃ n oI fp P St S news J, SrcP prog w A h₀ L m env elt x x₂ px px₂ tp tk1 scope cl Fin xv s₁ n oI fp P St S news J
theorem listComp_P {elt iter : Expr} {x x₂ : Str} {px px₂ tp : Pos} {tk1 : Nat} {scope : Scope} {cl : List (Str × Addr)} {pos : Pos} {Q : Value → Shared → Prop} (F₀ : Fr h₀ L s.heap m)
    (hclos : closureFor scope env = pure cl) (hcell : ∀ y ∈ scope.names, y.2 ≠ .cell) (hkind : scope.kind = .function)
    (hnames : ∀ y ∈ scope.names, y.2 = .local → scope.names.lookup y.1 = some .local) (hx : scope.names.lookup x = some .local) (hx₂ : scope.names.lookup x₂ = some .local) (hxx : x ≠ x₂)
    (h : wpAny (model prog w) A (eval iter env) (SrcPAny prog w A h₀ L m env elt x x₂ px px₂ tp tk1 scope cl (fun s₂ => FinE h₀ L m s₂ Q)) E s)
    (hs : ∀ x, foldedSetIterable iter env x = pure x := by intro _; rfl) :
    wpAny (model prog w) A (eval (.ListComp elt [⟨.Tuple [.Name x px, .Name x₂ px₂] tk1 tp, iter, [], 0⟩] scope pos) env) Q E s := by
  rw [eval_ListComp]
  refine wpAny_comprehension_free (use := none) rfl hs hclos hkind hnames (wpAny_mono h (fun xv s₁ h₁ => ?_) fun _ _ e => e)
  obtain ⟨n, oI, fp, P, St, S, news, J, K⟩ := h₁
  refine K.it _ _ ?_
  have up : ∀ b o, s₁.heap.get? b = some o → (s₁.heap.push oI).get? b = some o := fun _ _ e => Heap.get?_push_of_some _ e
  refine comp_start hcell hkind K.hfp (K.W.sub _ (List.mem_singleton.mpr rfl)) (K.F.keeps up) (K.N.grown up) (fun p hp => Nat.ne_of_lt (Heap.lt_size (K.N p hp).1)) fun C D h₁ tk mC F₁ N₁ hn₁ old hCL hC₀ hCI hDI hCD hCf hDf off => ?_
  have loop : ∀ s₃ : Shared, s₃ = { s₁ with heap := h₁, toks := tk } → codeAny (model prog w) A (.compLoop (.ListComp elt [⟨.Tuple [.Name x px, .Name x₂ px₂] tk1 tp, iter, [], 0⟩] scope pos) 0 (.ref s₁.heap.objs.size) (.ref D) (compEnvC scope cl C env))
      (compPost (model prog w) A E none Q (.ref D) C) s₃ := by
    rintro s₃ rfl
    refine loopP (mC := mC) (ys0 := []) J rfl K.W (by rw [List.length_nil, Nat.zero_add]; exact K.hsz) K.hIo K.hgo K.hSt hkind hx hx₂ hxx K.hh (K.W.frame _ _ _ K.h0 fun b _ o e => old b o e) F₁ N₁ hn₁ (Nat.ne_of_lt K.F.ns.lt) (next_is_new K.F) hCL hC₀ hCI hDI hCD hCf hDf off K.hS K.j0 (fun i ys news v hi hJ hP => ?_) ?_
    · obtain ⟨t, ot, v₁, v₂, nt, e1, e2, e3, e4, R⟩ := K.turn s₁.heap i ys news v hi hJ hP
      exact ⟨t, ot, v₁, v₂, nt, e1, e2, e3, e4, fun oI oC m₂ h tk E' q1 q2 q3 _ => R _ _ _ oI oC m₂ h tk E' q1 q2 q3⟩
    · intro h tk m' ys news' F' N' hn _ off' _ _ hJ
      refine ⟨m', hn, fun h'' hs'' => K.done s₁.heap ys news' hJ D h'' tk (F'.change hs'' hCL hC₀) (fun p hp => ?_) off'.one⟩
      refine ⟨hs''.extBut _ _ ?_ (N' p hp).1, (N' p hp).2⟩
      rcases List.mem_cons.mp hp with rfl | hp
      · exact Ne.symm hCD
      · exact (off'.mem p hp).2.1
  exact codeAny_compStart_list (loop _ rfl) (K.W.self 0 _ _ _ (K.W.frame _ _ _ K.h0 fun b _ o e => old b o e) (loop _ rfl))
/-- what a comprehension with two clauses walks over: things, and a list of pairs for each -/
structure Src2 (prog : Program) (w : World) (A : Around) (h₀ : Heap) (L : Addr) (m : Str → Option Value) (env : Env) (elt : Expr) (x x₁ x₂ : Str) (iter2 : Expr) (scope : Scope) (cl : List (Str × Addr)) (Fin : Shared → List Value → List (Addr × Obj) → Prop) (xv : Value) (s₁ : Shared)
    (n : Nat) (oI : Obj) (fp : List Addr) (P : Nat → Value → Prop) (St : Nat → Heap → Prop) (S : List (Addr × Obj) → Prop) (news : List (Addr × Obj)) (J : Nat → List Value → List (Addr × Obj) → Prop) (J2 : Nat → Nat → List Value → List (Addr × Obj) → Prop) (its : Nat → List Value) (at2 : Nat → Addr) (n2 : Nat → Nat) : Prop where
  hh : A.handled = none
  F : Fr h₀ L s₁.heap m
  N : News h₀ L s₁.heap news
  it : ∀ (E : Value → Shared → Prop) (Q : Value → Shared → Prop), Q (.ref s₁.heap.objs.size) { s₁ with heap := s₁.heap.push oI } → wpAny (model prog w) A (pyIter xv) Q E s₁
  W : Walks prog w A s₁.heap.objs.size fp [s₁.heap.objs.size] n P St
  hIo : ∀ i h, St i h → ∃ o, h.get? s₁.heap.objs.size = some o
  hSt : ∀ i h h' o nw, St i h → h.get? s₁.heap.objs.size = some o → h'.get? s₁.heap.objs.size = some o → (∀ b o, h₀.get? b = some o → h'.get? b = some o) → News h₀ L h' nw → S nw → St i h'
  h0 : St 0 (s₁.heap.push oI)
  hfp : ∀ b ∈ fp, b < (s₁.heap.push oI).objs.size
  j0 : J 0 [] news
  jS : ∀ i ys news, J i ys news → S news
  j20 : ∀ i ys news, i < n → J i ys news → J2 i 0 ys news ∧ (at2 i, listOf (its i).toArray (n2 i)) ∈ news ∧ ys.length + (its i).length ≤ sizeLine
  j2S : ∀ i j ys news, J2 i j ys news → S news ∧ (at2 i, listOf (its i).toArray (n2 i)) ∈ news
  j2n : ∀ i ys news, i < n → J2 i (its i).length ys news → J (i + 1) ys news
  outer : ∀ g i ys news v, i < n → J i ys news → P i v → ∀ I C D oI oC m₂ h tk (E' : Value → Shared → Prop), NsObj oC m₂ → m₂ x = some v → Fr h₀ L h m → News h₀ L h ((I, oI) :: (C, oC) :: (D, lst ys) :: news) → Off3 I C D news → ((@Ne Nat I C) ∧ (@Ne Nat I D) ∧ (@Ne Nat C D)) →
      wpAny (model prog w) A (eval iter2 (compEnvC scope cl C env)) (fun xv s₄ => ∃ h' tk', xv = .ref (at2 i) ∧ s₄ = { s₁ with heap := h', toks := tk' } ∧ Fr h₀ L h' m ∧ News h₀ L h' ((I, oI) :: (C, oC) :: (D, lst ys) :: news)) E' { ({ s₁ with heap := g } : Shared) with heap := h, toks := tk }
  inner : ∀ g i j ys news v u, i < n → P i v → J2 i j ys news → (its i)[j]? = some u → ∃ (t : Addr) (ot : Obj) (v₁ v₂ : Value) (nt : Nat), u = .ref t ∧ (t, ot) ∈ news ∧ ot.cls = .type "tuple" ∧ ot.data = .seq #[v₁, v₂] nt ∧
      ∀ I2 I C D oI2 oI oC m₂ h tk (E' : Value → Shared → Prop), NsObj oC m₂ → m₂ x = some v → m₂ x₁ = some v₁ → m₂ x₂ = some v₂ → Fr h₀ L h m → News h₀ L h ((I2, oI2) :: (C, oC) :: (D, lst ys) :: (I, oI) :: news) → Off3 I2 C D ((I, oI) :: news) → (∀ p ∈ news, p.1 ≠ I) → ((@Ne Nat I2 C) ∧ (@Ne Nat I2 D) ∧ (@Ne Nat C D)) →
      wpAny (model prog w) A (eval elt (compEnvC scope cl C env)) (CompEnd h₀ L m { s₁ with heap := h, toks := tk } I2 oI2 C oC D (lst ys) (fun _ => True) (fun y nw => ∃ news', nw = (I, oI) :: news' ∧ (∀ p ∈ news', p.1 ≠ I) ∧ J2 i (j + 1) (ys ++ [y]) news')) E' { ({ s₁ with heap := g } : Shared) with heap := h, toks := tk }
  done : ∀ g ys news, J n ys news → Fin { s₁ with heap := g } ys news
def Src2Any (prog : Program) (w : World) (A : Around) (h₀ : Heap) (L : Addr) (m : Str → Option Value) (env : Env) (elt : Expr) (x x₁ x₂ : Str) (iter2 : Expr) (scope : Scope) (cl : List (Str × Addr)) (Fin : Shared → List Value → List (Addr × Obj) → Prop) (xv : Value) (s₁ : Shared) : Prop :=
  ∃ n oI fp P St S news J J2 its at2 n2, Src2 prog w A h₀ L m env elt x x₁ x₂ iter2 scope cl Fin xv s₁ n oI fp P St S news J J2 its at2 n2
theorem listComp_2 {elt iter iter2 : Expr} {x x₁ x₂ : Str} {px px₁ px₂ tp : Pos} {tk1 : Nat} {scope : Scope} {cl : List (Str × Addr)} {pos : Pos} {Q : Value → Shared → Prop} (F₀ : Fr h₀ L s.heap m)
    (hclos : closureFor scope env = pure cl) (hcell : ∀ y ∈ scope.names, y.2 ≠ .cell) (hkind : scope.kind = .function)
    (hnames : ∀ y ∈ scope.names, y.2 = .local → scope.names.lookup y.1 = some .local) (hx : scope.names.lookup x = some .local) (hx₁ : scope.names.lookup x₁ = some .local) (hx₂ : scope.names.lookup x₂ = some .local) (hxx : x₁ ≠ x₂) (hx1 : x ≠ x₁) (hx2 : x ≠ x₂)
    (h : wpAny (model prog w) A (eval iter env) (Src2Any prog w A h₀ L m env elt x x₁ x₂ iter2 scope cl (fun s₂ => FinE h₀ L m s₂ Q)) E s)
    (hs : ∀ x, foldedSetIterable iter env x = pure x := by intro _; rfl) (hs2 : ∀ env x, foldedSetIterable iter2 env x = pure x := by intro _ _; rfl) :
    wpAny (model prog w) A (eval (.ListComp elt [⟨.Name x px, iter, [], 0⟩, ⟨.Tuple [.Name x₁ px₁, .Name x₂ px₂] tk1 tp, iter2, [], 0⟩] scope pos) env) Q E s := by
  rw [eval_ListComp]
  refine wpAny_comprehension_free (use := none) rfl hs hclos hkind hnames (wpAny_mono h (fun xv s₁ h₁ => ?_) fun _ _ e => e)
  obtain ⟨n, oI0, fp, P, St, S, news, J, J2, its, at2, n2, K⟩ := h₁
  refine K.it _ _ ?_
  have up : ∀ b o, s₁.heap.get? b = some o → (s₁.heap.push oI0).get? b = some o := fun _ _ e => Heap.get?_push_of_some _ e
  have hIf := K.W.sub _ (List.mem_singleton.mpr rfl)
  have hIL : @Ne Nat L s₁.heap.objs.size := Nat.ne_of_lt K.F.ns.lt
  have hI₀ := next_is_new K.F
  refine comp_start hcell hkind K.hfp hIf (K.F.keeps up) (K.N.grown up) (fun p hp => Nat.ne_of_lt (Heap.lt_size (K.N p hp).1)) fun C D h₁ tk mC F₁ N₁ hn₁ old hCL hC₀ hCI hDI hCD hCf hDf off => ?_
  have hst₁ := K.W.frame _ _ _ K.h0 fun b _ o e => old b o e
  have KW := K.W
  have KhIo := K.hIo
  have KhSt := K.hSt
  generalize s₁.heap.objs.size = I at *
  have hDL : D ≠ L := (N₁ _ List.mem_cons_self).2.1
  have hD₀ : h₀.get? D = none := (N₁ _ List.mem_cons_self).2.2
  have loop : ∀ s₃ : Shared, s₃ = { s₁ with heap := h₁, toks := tk } → codeAny (model prog w) A (.compLoop (.ListComp elt [⟨.Name x px, iter, [], 0⟩, ⟨.Tuple [.Name x₁ px₁, .Name x₂ px₂] tk1 tp, iter2, [], 0⟩] scope pos) 0 (.ref I) (.ref D) (compEnvC scope cl C env))
      (compPost (model prog w) A E none Q (.ref D) C) s₃ := by
    rintro s₃ rfl
    refine compLoop_mid
      (fun k s' => ∃ h' tk i ys m' news', s' = { s₁ with heap := h', toks := tk } ∧ i ≤ n ∧ k = n + 1 - i ∧ St i h' ∧ Fr h₀ L h' m ∧ h'.Ns C m' ∧ News h₀ L h' ((D, lst ys) :: news') ∧ Off3 I C D news' ∧ J i ys news') ?_ (n + 1)
      ⟨h₁, _, 0, [], mC, news, rfl, Nat.zero_le _, rfl, hst₁, F₁, hn₁, N₁, off, K.j0⟩ (hs := hs2 _)
    rintro k s' ⟨h', tk, i, ys, m', news', rfl, hi, rfl, hst', F', hn', N', off', J'⟩
    have off3 := off'.mem
    by_cases hlt : i < n
    · refine KW.item i _ _ _ hlt hst' fun v h₂ tk₂ hPv hst₂ hk₂ => ?_
      refine wpAny_assign_Name (wpAny_storeName_local (lookup_relabel_local hx) (hn'.at' fun o e => hk₂ _ o (by simpa using Ne.symm hCI) e) (fun h₃ hn₃ hs₃ => ?_) (by simp [compEnvC, relabel, hkind]))
      have hst₃ : St (i + 1) h₃ := KW.frame _ _ _ hst₂ fun b hb o e => hs₃.extBut b o (fun q => hCf (by have q' : b = C := q; rw [← q']; exact hb)) e
      obtain ⟨oI, heI⟩ := KhIo _ _ hst₃
      obtain ⟨oC, heC, hoC⟩ := ns_obj hn₃
      have F₃ : Fr h₀ L h₃ m := (fr_but F' hk₂ hIL hI₀).change hs₃ hCL hC₀
      have N₂ : News h₀ L h₂ ((D, lst ys) :: news') := news_but N' hk₂ fun p hp => by
        rcases List.mem_cons.mp hp with rfl | hp
        · exact Ne.symm hDI
        · exact (off3 p hp).1
      have N₃ : News h₀ L h₃ ((I, oI) :: (C, oC) :: (D, lst ys) :: news') := fun p hp => by
        rcases List.mem_cons.mp hp with rfl | hp
        · exact ⟨heI, Ne.symm hIL, hI₀⟩
        · rcases List.mem_cons.mp hp with rfl | hp
          · exact ⟨heC, hCL, hC₀⟩
          · have z := N₂ p hp
            refine ⟨hs₃.extBut _ _ ?_ z.1, z.2⟩
            rcases List.mem_cons.mp hp with rfl | hp
            · exact Ne.symm hCD
            · exact (off3 p hp).2.1
      refine wpAny_mono (K.outer s₁.heap i ys news' v hlt J' hPv I C D oI oC _ h₃ _ _ hoC (by simp) F₃ N₃ off' ⟨hCI, hDI, hCD⟩) (fun xv s₄ h₄ => ?_) fun _ _ e => e
      obtain ⟨h₄, tk₄, rfl, rfl, F₄, N₄⟩ := h₄
      obtain ⟨j20, hm2, hlen⟩ := K.j20 i ys news' hlt J'
      have hl : h₄.IsList (at2 i) (its i).toArray := ⟨_, (N₄ _ (List.mem_cons_of_mem _ (List.mem_cons_of_mem _ (List.mem_cons_of_mem _ hm2)))).1, rfl, _, rfl⟩
      have hlt2 : at2 i < h₄.objs.size := by obtain ⟨_, e, _⟩ := hl; exact Heap.lt_size e
      have zI := (N₄ (I, oI) List.mem_cons_self)
      have zC := (N₄ (C, oC) (List.mem_cons_of_mem _ List.mem_cons_self))
      have zD := (N₄ (D, lst ys) (List.mem_cons_of_mem _ (List.mem_cons_of_mem _ List.mem_cons_self)))
      refine wpAny_pyIter_list hl ?_
      have up2 : ∀ b o, h₄.get? b = some o → (h₄.push { cls := .type "list_iterator", data := .fields #[.ref (at2 i), .int 0 0] }).get? b = some o := fun b o e => Heap.get?_push_of_some _ e
      have hI2₀ : h₀.get? h₄.objs.size = none := next_is_new F₄
      have hI2L : @Ne Nat L h₄.objs.size := Nat.ne_of_lt F₄.ns.lt
      have W2 := Walks.list (prog := prog) (w := w) (A := A) K.hh h₄.objs.size (at2 i) (Nat.ne_of_lt hlt2) (its i).toArray
      have hst20 : (h₄.push { cls := .type "list_iterator", data := .fields #[.ref (at2 i), .int 0 0] }).IsListIter h₄.objs.size (at2 i) 0 ∧ (h₄.push { cls := .type "list_iterator", data := .fields #[.ref (at2 i), .int 0 0] }).IsList (at2 i) (its i).toArray := ⟨⟨_, Heap.get?_push_size _ rfl, rfl, rfl⟩, hl.push _⟩
      have lo4 : ∀ p ∈ (I, oI) :: (C, oC) :: (D, lst ys) :: news', p.1 < h₄.objs.size := fun p hp => Heap.lt_size (N₄ p hp).1
      have hCat : @Ne Nat C (at2 i) := fun e => (off3 _ hm2).2.1 e.symm
      have hDat : @Ne Nat D (at2 i) := fun e => (off3 _ hm2).2.2 e.symm
      have loop2 : ∀ s₅ : Shared, s₅ = { s₁ with heap := h₄.push { cls := .type "list_iterator", data := .fields #[.ref (at2 i), .int 0 0] }, toks := tk₄ } → codeAny (model prog w) A (.compLoop (.ListComp elt [⟨.Name x px, iter, [], 0⟩, ⟨.Tuple [.Name x₁ px₁, .Name x₂ px₂] tk1 tp, iter2, [], 0⟩] scope pos) 1 (.ref h₄.objs.size) (.ref D) (compEnvC scope cl C env))
          (fun r s' => match r with | .ok _ => ∃ m_1, m_1 < n + 1 - i ∧ ∃ h' tk i ys m' news', s' = { s₁ with heap := h', toks := tk } ∧ i ≤ n ∧ m_1 = n + 1 - i ∧ St i h' ∧ Fr h₀ L h' m ∧ h'.Ns C m' ∧ News h₀ L h' ((D, lst ys) :: news') ∧ Off3 I C D news' ∧ J i ys news' | .error e => cameBackBy (model prog w) A (compEnvC scope cl C env) (notedBy (model prog w) A (compEnvC scope cl C env) fun e s' => compPost (model prog w) A E none Q (.ref D) C (.error e) s') e s') s₅ := by
        rintro s₅ rfl
        refine loopP (news := (I, oI) :: news') (ys0 := ys) (S := fun nw => ∃ news', nw = (I, oI) :: news' ∧ (at2 i, listOf (its i).toArray (n2 i)) ∈ news') (fun j ys nw => ∃ news', nw = (I, oI) :: news' ∧ (∀ p ∈ news', p.1 ≠ I) ∧ J2 i j ys news') rfl W2 (by simpa using hlen) (fun i h st => by obtain ⟨o, e, _⟩ := st.1; exact ⟨o, e⟩) (fun i s T Q E st hq => wpAny_letOwnedTupleGo_listiter st.1 hq)
          (fun j h h' o nw st e e' k N' S' => ⟨by obtain ⟨o', q, r⟩ := st.1; rw [e] at q; cases q; exact ⟨o, e', r⟩, by obtain ⟨nw', rfl, hm⟩ := S'; exact ⟨_, (N' _ (List.mem_cons_of_mem _ hm)).1, rfl, _, rfl⟩⟩)
          hkind hx₁ hx₂ hxx K.hh hst20 (F₄.keeps up2) (fun p hp => ?n5) ((hoC.ns zC.1).at' fun o e => up2 _ o e) hI2L hI2₀ hCL hC₀ (Nat.ne_of_gt (lo4 _ (List.mem_cons_of_mem _ List.mem_cons_self))) (Nat.ne_of_gt (lo4 _ (List.mem_cons_of_mem _ (List.mem_cons_of_mem _ List.mem_cons_self)))) hCD
          (fun hm => ?cf) (fun hm => ?df) (Off3.of fun p hp => ?off5) ⟨news', rfl, hm2⟩ ⟨news', rfl, fun p hp => (off3 p hp).1, j20⟩ ?turn5 ?done5
        case n5 =>
          have z : p ∈ (I, oI) :: (C, oC) :: (D, lst ys) :: news' := by
            rcases List.mem_cons.mp hp with rfl | hp
            · exact List.mem_cons_of_mem _ (List.mem_cons_of_mem _ List.mem_cons_self)
            · rcases List.mem_cons.mp hp with rfl | hp
              · exact List.mem_cons_self
              · exact List.mem_cons_of_mem _ (List.mem_cons_of_mem _ (List.mem_cons_of_mem _ hp))
          exact ⟨up2 _ _ (N₄ p z).1, (N₄ p z).2⟩
        case cf =>
          rcases List.mem_cons.mp hm with e | hm
          · exact absurd e (Nat.ne_of_lt (lo4 _ (List.mem_cons_of_mem _ List.mem_cons_self)))
          · exact hCat (List.mem_singleton.mp hm)
        case df =>
          rcases List.mem_cons.mp hm with e | hm
          · exact absurd e (Nat.ne_of_lt (lo4 _ (List.mem_cons_of_mem _ (List.mem_cons_of_mem _ List.mem_cons_self))))
          · exact hDat (List.mem_singleton.mp hm)
        case off5 =>
          rcases List.mem_cons.mp hp with rfl | hp
          · exact ⟨Nat.ne_of_lt (lo4 _ List.mem_cons_self), hCI, hDI⟩
          · exact ⟨Nat.ne_of_lt (lo4 _ (List.mem_cons_of_mem _ (List.mem_cons_of_mem _ (List.mem_cons_of_mem _ hp)))), (off3 p hp).2⟩
        case turn5 =>
          rintro j ys2 _ u hj ⟨nw, rfl, hoI, hJ2⟩ hu
          rw [List.getElem?_toArray] at hu
          obtain ⟨t, ot, v₁, v₂, nt, e1, e2, e3, e4, R⟩ := K.inner s₁.heap i j ys2 nw v u hlt hPv hJ2 hu
          refine ⟨t, ot, v₁, v₂, nt, e1, List.mem_cons_of_mem _ e2, e3, e4, fun oI2 oC2 m₂ h tk E' q1 q2 q3 q4 F5 N5 off5 ne5 => ?_⟩
          refine wpAny_mono (R _ I C D oI2 oI oC2 m₂ h tk E' q1 ((q4 x hx1 hx2).trans (by simp)) q2 q3 F5 N5 off5 hoI ne5) (fun y s₆ h₆ => ?_) fun _ _ e => e
          obtain ⟨h₆, tk₆, _, rfl, F₆, N₆, off₆, _, nw6, rfl, hoI6, hJ6⟩ := h₆
          exact ⟨h₆, tk₆, _, rfl, F₆, N₆, off₆, ⟨nw6, rfl, (K.j2S _ _ _ _ hJ6).2⟩, nw6, rfl, hoI6, hJ6⟩
        case done5 =>
          rintro h tk m6 ys6 _ F6 N6 hn6 _ off6 _ _ ⟨nw, rfl, hoI, hJ2⟩
          rw [List.size_toArray] at hJ2
          have hJ := K.j2n i ys6 nw hlt hJ2
          have N7 : News h₀ L h ((D, lst ys6) :: nw) := N6.perm fun p hp => by
            rcases List.mem_cons.mp hp with rfl | hp
            · exact List.mem_cons_self
            · exact List.mem_cons_of_mem _ (List.mem_cons_of_mem _ hp)
          have off7 : Off3 I C D nw := Off3.of fun p hp => ⟨hoI p hp, (off6.2.mem p hp).2⟩
          exact ⟨n + 1 - (i + 1), by omega, h, tk, i + 1, ys6, m6, nw, rfl, hlt, rfl, KhSt _ _ _ _ _ hst₃ heI (N6 (I, oI) (List.mem_cons_of_mem _ List.mem_cons_self)).1 F6.keep (fun p hp => N7 p (List.mem_cons_of_mem _ hp)) (K.jS _ _ _ hJ), F6, hn6, N7, off7, hJ⟩
      exact compStart_one (loop2 _ rfl) (W2.self 0 _ _ _ hst20 (loop2 _ rfl))
    · obtain rfl : i = n := Nat.le_antisymm hi (Nat.not_lt.mp hlt)
      refine KW.done _ _ _ hst' fun h₂ tk₂ hk₂ => ?_
      have N₂ : News h₀ L h₂ ((D, lst ys) :: news') := news_but N' hk₂ fun p hp => by
        rcases List.mem_cons.mp hp with rfl | hp
        · exact Ne.symm hDI
        · exact (off3 p hp).1
      refine ⟨m', hn'.at' fun o e => hk₂ _ o (by simpa using Ne.symm hCI) e, fun h'' hs'' => K.done s₁.heap ys news' J' D h'' tk₂ ((fr_but F' hk₂ hIL hI₀).change hs'' hCL hC₀) (fun p hp => ?_) off'.one⟩
      refine ⟨hs''.extBut _ _ ?_ (N₂ p hp).1, (N₂ p hp).2⟩
      rcases List.mem_cons.mp hp with rfl | hp
      · exact Ne.symm hCD
      · exact (off3 p hp).2.1
  exact codeAny_compStart_list (loop _ rfl) (KW.self 0 _ _ _ hst₁ (loop _ rfl))
end

end
section -- RawD3
open PySem PySem.W PyProof.Rows PySem.Calls
set_option maxRecDepth 100000
set_option maxHeartbeats 4000000
section
variable {prog : Program} {w : World} {A : Around} {E : Value → Shared → Prop} {s : Shared}
/-- a dict, told by its entries -/
def DRaw (h : Heap) (d : Addr) (es : Array DictEntry) (ep : Nat) : Prop := ∃ o, h.get? d = some o ∧ o.ExactDict ∧ o.data = .dict es ep
theorem DRaw.typeIs {d : Addr} {es : Array DictEntry} {ep : Nat} (x : DRaw s.heap d es ep) : s.TypeIs (.ref d) "dict" := let ⟨o, ho, hc, _⟩ := x; ⟨o, ho, hc.1⟩
theorem raw_iter {d : Addr} {es : Array DictEntry} {ep : Nat} {Q : Value → Shared → Prop} (lo : (d == sysModules) = false) (x : DRaw s.heap d es ep)
    (hQ : Q (.ref s.heap.objs.size) { s with heap := s.heap.push { cls := .type "dict_keyiterator", data := .fields #[.ref d, .int 0 0, .int es.size 0, .int ep 0] } }) :
    wpAny (model prog w) A (pyIter (.ref d)) Q E s := by
  obtain ⟨o, ho, hc, hd⟩ := id x
  refine wpAny_pyIter_slot x.typeIs F.slot_dict_iter (wpAny_call_entry F.slot_dict_iter x.typeIs F.entry_dict_iter ?_ (F.args_dict_iter_1 _))
  unfold Builtin.«dict.__iter__» Builtin.Dict.dictSlotNone
  refine wpAny_bind (wpAny_bind (wpAny_notOrdered_dict x.typeIs (wpAny_pure ?_)))
  show wpAny _ _ (Builtin.Dict.showsAll d >>= _) _ _ s
  unfold Builtin.Dict.showsAll
  rw [if_neg (by rw [lo]; exact Bool.false_ne_true)]
  refine wpAny_bind (wpAny_pure (wpAny_bind (wpAny_dictEntries ho hd (wpAny_bind (wpAny_dictEpoch ho hd ?_)))))
  refine wpAny_bind (wpAny_newObj_type (wpAny_pure ⟨_, rfl, "dict_keyiterator", _, ⟨_, Heap.get?_push_size _ rfl, rfl⟩, F.slot_dict_keyiterator_next.lookup, ?_⟩))
  simpa [rawInt] using hQ
theorem raw_next {it d : Addr} {i ep : Nat} {es : Array DictEntry} {e : DictEntry} {Q : Option Value → Shared → Prop} (hit : s.heap.IsKeyIter it d i es.size ep) (x : DRaw s.heap d es ep) (hx : es[i]? = some e)
    (hQ : ∀ h', h'.IsKeyIter it d (i + 1) es.size ep → Heap.SameBut it s.heap h' → Q (some e.key) { s with heap := h' }) :
    wpAny (model prog w) A (pyNext (.ref it)) Q E s := by
  obtain ⟨o, ho, hc, hd⟩ := id hit
  obtain ⟨od, hod, hcd, hdd⟩ := id x
  unfold pyNext
  refine wpAny_bind (wpAny_attempt (wpAny_callSpecial?_slot (name := Str.ofString "__next__") hit.typeIs F.slot_dict_keyiterator_next
    (wpAny_call_entry F.slot_dict_keyiterator_next hit.typeIs F.entry_dict_keyiterator_next ?_ (F.args_dict_keyiterator_next_1 _))))
  refine wpAny_bind (wpAny_pure (wpAny_bind (wpAny_bind ?_)))
  first | refine wpAny_bind (wpAny_typeNameOfWhole_keyiter hit.typeIs (wpAny_pure ?_)) | refine wpAny_bind (wpAny_typeNameOf_keyiter hit.typeIs (wpAny_pure ?_))
  refine wpAny_bind (wpAny_fieldsOf ho hd ?_)
  simp only [show Builtin.Dict_items.ownsTuple "dict_keyiterator" = false by decide, Bool.false_eq_true, if_false]
  show wpAny _ _ (if (Value.ref d == Value.none) = true then _ else _) _ _ s
  rw [if_neg (show ¬ ((Value.ref d == Value.none) = true) from Bool.false_ne_true)]
  refine wpAny_bind (wpAny_pure (wpAny_bind (wpAny_dictEntries hod hdd ?_)))
  rw [if_neg (by simp)]
  refine wpAny_bind (wpAny_pure (wpAny_bind (wpAny_dictEpoch hod hdd ?_)))
  rw [if_neg (by simp)]
  refine wpAny_pure ?_
  simp only [show ¬ ((i : Int) < 0) from by omega, if_false, Int.toNat_natCast, hx]
  refine wpAny_bind ?_
  first | refine wpAny_bind (wpAny_typeNameOfWhole_keyiter hit.typeIs (wpAny_pure ?_)) | refine wpAny_bind (wpAny_typeNameOf_keyiter hit.typeIs (wpAny_pure ?_))
  refine wpAny_bind (wpAny_isOneOf_keyiter hit.typeIs ?_)
  show wpAny _ _ (setField (.ref it) 1 (rawInt ((i : Int) + 1)) >>= _) _ _ s
  refine wpAny_bind (wpAny_setField ho hd (by simp) ?_)
  have hit' : (s.heap.update it (Obj.mapFields (·.setIfInBounds 1 (rawInt ((i : Int) + 1))))).IsKeyIter it d (i + 1) es.size ep :=
    ⟨_, Heap.get?_update_self _ ho (Obj.isFreed_of_fields (Obj.data_mapFields hd _)), (Obj.cls_mapFields ..).trans hc, by rw [Obj.data_mapFields hd]; simp [rawInt]⟩
  refine wpAny_bind (wpAny_holding (wpAny_bind (wpAny_isOneOf_keyiter (s := { s with heap := s.heap.update it (Obj.mapFields (·.setIfInBounds 1 (rawInt ((i : Int) + 1)))) }) hit'.typeIs ?_)))
  show wpAny _ _ (pure e.key) _ _ _
  exact wpAny_pure (wpAny_pure ⟨_, rfl, wpAny_pure (hQ _ hit' (Heap.SameBut.update ..))⟩)
theorem raw_end {it d : Addr} {ep : Nat} {es : Array DictEntry} {Q : Option Value → Shared → Prop} (hh : A.handled = none) (hit : s.heap.IsKeyIter it d es.size es.size ep) (x : DRaw s.heap d es ep)
    (hQ : ∀ h', Heap.ExtBut it s.heap h' → Q none { s with heap := h' }) : wpAny (model prog w) A (pyNext (.ref it)) Q E s := by
  obtain ⟨o, ho, hc, hd⟩ := id hit
  obtain ⟨od, hod, hcd, hdd⟩ := id x
  unfold pyNext
  refine wpAny_bind (wpAny_attempt (wpAny_callSpecial?_slot (name := Str.ofString "__next__") hit.typeIs F.slot_dict_keyiterator_next
    (wpAny_call_entry F.slot_dict_keyiterator_next hit.typeIs F.entry_dict_keyiterator_next ?_ (F.args_dict_keyiterator_next_1 _))))
  refine wpAny_bind (wpAny_pure (wpAny_bind (wpAny_bind ?_)))
  first | refine wpAny_bind (wpAny_typeNameOfWhole_keyiter hit.typeIs (wpAny_pure ?_)) | refine wpAny_bind (wpAny_typeNameOf_keyiter hit.typeIs (wpAny_pure ?_))
  refine wpAny_bind (wpAny_fieldsOf ho hd ?_)
  simp only [show Builtin.Dict_items.ownsTuple "dict_keyiterator" = false by decide, Bool.false_eq_true, if_false]
  show wpAny _ _ (if (Value.ref d == Value.none) = true then _ else _) _ _ s
  rw [if_neg (show ¬ ((Value.ref d == Value.none) = true) from Bool.false_ne_true)]
  refine wpAny_bind (wpAny_pure (wpAny_bind (wpAny_dictEntries hod hdd ?_)))
  rw [if_neg (by simp)]
  refine wpAny_bind (wpAny_pure (wpAny_bind (wpAny_dictEpoch hod hdd ?_)))
  rw [if_neg (by simp)]
  refine wpAny_pure ?_
  simp only [show ¬ ((es.size : Int) < 0) from by omega, if_false, Int.toNat_natCast, Array.getElem?_eq_none (Nat.le_refl _)]
  refine wpAny_bind ?_
  first | refine wpAny_bind (wpAny_typeNameOfWhole_keyiter hit.typeIs (wpAny_pure ?_)) | refine wpAny_bind (wpAny_typeNameOf_keyiter hit.typeIs (wpAny_pure ?_))
  show wpAny _ _ (setField (.ref it) 0 .none >>= _) _ _ s
  refine wpAny_bind (wpAny_setField ho hd (by simp) ?_)
  show wpAny _ _ (newExc (.type "StopIteration") [] >>= _) _ _ _
  refine wpAny_bind ?_
  simp only [newExc, newTuple]
  refine wpAny_bind (wpAny_newObj_type ?_ (by size_fits))
  refine wpAny_bind (m := firstArgMember _ _) (wpAny_of_eq (a := Value.none) (by first | rfl | (simp only [firstArgMember]; rfl)) ?_)
  refine wpAny_newObj_type ?_ (by size_fits)
  simp only [raiseNew]
  refine wpAny_bind (wpAny_handled ?_)
  rw [show A.in1.handled = none from hh]
  refine wpAny_bind (wpAny_pure (wpAny_throw ?_))
  refine wpAny_bind (wpAny_isInstance (T := "StopIteration") (b := true) ⟨_, Heap.get?_push_size _ rfl, rfl⟩ isSubtype_stop ?_)
  exact wpAny_pure (hQ _ (((Heap.SameBut.update ..).extBut.push _).push _))
theorem raw_go {elts : List Expr} {x1} {pos : Pos} {I d T : Addr} {i n ep : Nat} {Q : Unit → Shared → Prop} (hit : s.heap.IsKeyIter I d i n ep) (hQ : Q () s) :
    wpAny (model prog w) A (letOwnedTupleGo (.Tuple elts x1 pos) (.ref I) (.ref T)) Q E s := by
  obtain ⟨o, ho, hc, hd⟩ := hit
  unfold letOwnedTupleGo
  refine wpAny_bind (wpAny_load ho ?_)
  rw [hc, hd]
  show wpAny _ A (if (["enumerate", "zip", "dict_itemiterator", "dict_reverseitemiterator", "odict_iterator", "itertools.zip_longest", "itertools.pairwise"].contains "dict_keyiterator" && _) = true then _ else _) _ _ s
  rw [if_neg (by rw [show (["enumerate", "zip", "dict_itemiterator", "dict_reverseitemiterator", "odict_iterator", "itertools.zip_longest", "itertools.pairwise"].contains "dict_keyiterator") = false by decide, Bool.false_and]; exact Bool.false_ne_true)]
  exact wpAny_pure hQ
theorem raw_walks (hh : A.handled = none) (I d : Addr) (hne : d ≠ I) (es : Array DictEntry) (ep : Nat) :
    Walks prog w A I [I, d] [I] es.size (fun i v => ∃ e, es[i]? = some e ∧ v = e.key) (fun i h => h.IsKeyIter I d i es.size ep ∧ DRaw h d es ep) where
  sub := fun b hb => by simp at hb; simp [hb]
  frame := fun _ _ _ st hk => ⟨let ⟨o, e, r⟩ := st.1; ⟨o, hk I (by simp) o e, r⟩, let ⟨o, e, r⟩ := st.2; ⟨o, hk d (by simp) o e, r⟩⟩
  item := fun i s Q E hi st hQ => by
    refine raw_next st.1 st.2 (e := es[i]) (by simp [hi]) fun h' hit' hs' => ?_
    exact hQ _ h' s.toks ⟨es[i], by simp [hi], rfl⟩ ⟨hit', let ⟨o, e, r⟩ := st.2; ⟨o, hs'.extBut _ _ hne e, r⟩⟩ fun b o hb e => hs'.extBut b o (fun h => hb (by simp [h])) e
  done := fun s Q E st hQ => raw_end hh st.1 st.2 fun h' he' => hQ h' s.toks fun b o hb e => he' b o (fun h => hb (by simp [h])) e
  self := fun _ _ _ _ st hQ => wpAny_pyIter_keyiter st.1 hQ
end

end
section -- PairFor
open PySem PySem.W PyProof.Rows PySem.Calls
set_option maxRecDepth 100000
set_option maxHeartbeats 4000000
theorem PairsIn.at' {led : List (Addr × Obj)} {xs : List (List Int × Addr × Value)} {ts : Ties} (h : PairsIn led xs ts) : ∀ {i : Nat} {x : List Int × Addr × Value}, xs[i]? = some x → ∃ a u v b t1 t2 t3 n, x = ([u, v], a, .int b t3) ∧ ts[i]? = some ((u, v), b) ∧ (a, tup2 u v t1 t2 n) ∈ led := by
  induction h with
  | nil => intro i x h; cases i <;> cases h
  | @cons xs ts a u v b t1 t2 t3 n m _ ih =>
    intro i x h
    cases i with
    | zero => cases h; exact ⟨a, u, v, b, t1, t2, t3, n, rfl, rfl, m⟩
    | succ j => exact ih h
theorem PairsIn.keyList3 {led : List (Addr × Obj)} {xs : List (List Int × Addr × Value)} {ts : Ties} (h : PairsIn led xs ts) : xs.map (·.1) = ts.map fun e => [e.1.1, e.1.2] := by
  induction h with
  | nil => rfl
  | cons _ _ ih => simp only [List.map_cons, ih]
theorem lookT_mem3 {k : Int × Int} {b : Int} : ∀ {ts : Ties}, (ts.map (·.1)).Nodup → ((k, b) ∈ ts ↔ lookT ts k = some b)
  | [], _ => ⟨(fun h => nomatch h), fun h => by cases h⟩
  | (k', c) :: ts, hn => by
    rw [List.map_cons, List.nodup_cons] at hn
    have ih := lookT_mem3 (k := k) (b := b) hn.2
    unfold lookT at ih ⊢
    by_cases e : k' = k
    · subst e
      rw [List.find?_cons_of_pos (by simp)]
      constructor
      · intro h
        cases h with
        | head => rfl
        | tail _ h => exact absurd (List.mem_map.mpr ⟨_, h, rfl⟩) hn.1
      · intro h; cases h; exact .head _
    · rw [List.find?_cons_of_neg (by simpa using e), ← ih, List.mem_cons]
      exact ⟨fun h => h.resolve_left fun q => e (by cases q; rfl), .inr⟩
theorem PTab.keys3 {w : World} {led : List (Addr × Obj)} {o : Obj} {ts : Ties} (P : PTab w led o ts) : (ts.map (·.1)).Nodup := by
  obtain ⟨es, ep, xs, _, _, _, hn, hP⟩ := P.ex
  rw [hP.keyList3] at hn
  rw [List.Nodup, List.pairwise_map] at hn ⊢
  exact hn.imp fun h e => h (by rw [e])
theorem raw_goV {prog : Program} {w : World} {A : Around} {E : Value → Shared → Prop} {s : Shared} {target : Expr} {v : Value} {I d : Addr} {i n ep : Nat} {Q : Unit → Shared → Prop} (hit : s.heap.IsKeyIter I d i n ep) (hQ : Q () s) :
    wpAny (model prog w) A (letOwnedTupleGo target (.ref I) v) Q E s := by
  obtain ⟨o, ho, hc, hd⟩ := hit
  have key : wpAny (model prog w) A (do
      let o ← load I
      match o.cls, o.data with
      | .type n, .fields vs =>
        if ["enumerate", "zip", "dict_itemiterator", "dict_reverseitemiterator", "odict_iterator", "itertools.zip_longest", "itertools.pairwise"].contains n && vs[0]? == some (rawInt 0) then pure () else pure ()
      | _, _ => pure ()) (fun _ s' => s' = s) E s := by
    refine wpAny_bind (wpAny_load ho ?_)
    rw [hc, hd]
    dsimp only
    split <;> exact wpAny_pure rfl
  cases v with
  | ref T =>
    cases target with
    | Tuple elts k p => exact raw_go ⟨o, ho, hc, hd⟩ hQ
    | List elts p =>
      unfold letOwnedTupleGo
      refine wpAny_bind (wpAny_load ho ?_)
      rw [hc, hd]
      show wpAny _ A (if (["enumerate", "zip", "dict_itemiterator", "dict_reverseitemiterator", "odict_iterator", "itertools.zip_longest", "itertools.pairwise"].contains "dict_keyiterator" && _) = true then _ else _) _ _ s
      rw [if_neg (by rw [show (["enumerate", "zip", "dict_itemiterator", "dict_reverseitemiterator", "odict_iterator", "itertools.zip_longest", "itertools.pairwise"].contains "dict_keyiterator") = false by decide, Bool.false_and]; exact Bool.false_ne_true)]
      exact wpAny_pure hQ
    | _ => exact wpAny_pure hQ
  | _ => cases target <;> exact wpAny_pure hQ
section
variable {w : World} {A : Around} {E : Value → Shared → Prop} {s : Shared} {env : Env} {h₀ : Heap} {body : List Stmt} {Q : Flow → Shared → Prop} {target : Expr}
theorem iter_rawTurns {ax : Addr} {lo : Obj} {es : Array DictEntry} {ep : Nat} {m₀ : Str → Option Value} {news : List (Addr × Obj)} (hlo : (ax == sysModules) = false)
    (hh : A.handled = none) (F : Fr h₀ env.locals s.heap m₀) (N : News h₀ env.locals s.heap news) (hm : (ax, lo) ∈ news) (hc : lo.ExactDict) (hd : lo.data = .dict es ep)
    (rest₀ : ∀ I : Addr, (∀ p ∈ news, p.1 < I) → ItemsRest PR w A E h₀ env target body Q s [(I, "dict_keyiterator")] [(ax, lo)] ((es.toList.map (·.key)).map .val) m₀ news) :
    wpAny (model PR w) A (pyIter (.ref ax)) (fun it s₂ => TurnsAt PR w A h₀ env target body Q E it s₂) E s := by
  have hax := N _ hm
  have hl : DRaw s.heap ax es ep := ⟨lo, hax.1, hc, hd⟩
  have hlt : ax < s.heap.objs.size := Heap.lt_size hax.1
  have hne : ax ≠ s.heap.objs.size := Nat.ne_of_lt hlt
  refine raw_iter hlo hl ?_
  refine ktu_core (tk0 := s.toks) (keep := [(ax, lo)]) (KTurns.ofWalks (raw_walks hh s.heap.objs.size ax hne es ep) fun i v s Q E st q => raw_goV st.1 q) (by simp) (fun i v h hp => ⟨.val v, ?_, rfl⟩) (fun i h st => ?_) (fun b hb => ?_) (fun b hb => by simpa using hb) (fun b hb => ?_) ?_ (fun p hp hI => ?_) ?_ (F.push _) (fun p hp => ⟨Heap.get?_push_of_some _ (N p hp).1, (N p hp).2⟩) (And.intro hm trivial) (rest₀ _ fun p hp => Heap.lt_size (N p hp).1)
  · obtain ⟨e, he, rfl⟩ := hp
    rw [List.getElem?_map, List.getElem?_map, Array.getElem?_toList, he]
    rfl
  · obtain ⟨it, hit, hic, _⟩ := st.1
    exact ⟨[(s.heap.objs.size, it)], ⟨⟨rfl, hic⟩, trivial⟩, fun p hp => by rw [List.mem_singleton.mp hp]; exact hit⟩
  · have hb' : b = s.heap.objs.size := by simpa using hb
    rw [hb']
    exact ⟨List.mem_cons_self .., next_is_new F⟩
  · have hb' : b = s.heap.objs.size ∨ b = ax := by simpa using hb
    rcases hb' with e | e
    · exact .inl (by simp [e])
    · exact .inr ⟨lo, by simp [e]⟩
  · intro hI
    rcases List.mem_cons.mp hI with e | hI
    · exact absurd F.ns.lt (e ▸ Nat.lt_irrefl _)
    · exact hax.2.1 (List.mem_singleton.mp hI).symm
  · exact absurd (Heap.lt_size (N p hp).1) ((List.mem_singleton.mp hI) ▸ Nat.lt_irrefl _)
  · exact ⟨⟨_, Heap.get?_push_size _ rfl, rfl, rfl⟩, let ⟨o, e, r⟩ := hl; ⟨o, Heap.get?_push_of_some _ e, r⟩⟩
theorem pyIter_pairs_inv {d : Addr} {od : Obj} {ts : Ties} {led : List (Addr × Obj)} {m₀ : Str → Option Value} {news : List (Addr × Obj)} (J : Nat → (Str → Option Value) → List (Addr × Obj) → Prop)
    (hh : A.handled = none) (F : Fr h₀ env.locals s.heap m₀) (N : News h₀ env.locals s.heap news) (hm : (d, od) ∈ news) (P : PTab w led od ts) (lo : (d == sysModules) = false) (h0 : J 0 m₀ news) (keep : ∀ i m news, J i m news → (d, od) ∈ news)
    (turn : ∀ I i u v b a t1 t2 n m news h tk it, ts[i]? = some ((u, v), b) → (a, tup2 u v t1 t2 n) ∈ led → J i m news → (∀ p ∈ news, p.1 ≠ I) → Fr h₀ env.locals h m → News h₀ env.locals h ((I, it) :: news) →
      wpAny (model PR w) A (assign target env (.ref a)) (fun _ s₂ => wpAny (model PR w) A (execs body env) (UnrPost h₀ env.locals { s with heap := h, toks := tk } I it (J (i + 1)) Q) E s₂) E { s with heap := h, toks := tk })
    (done : ∀ m news h tk, J ts.length m news → Fr h₀ env.locals h m → News h₀ env.locals h news → Q .next { s with heap := h, toks := tk }) :
    wpAny (model PR w) A (pyIter (.ref d)) (fun it s₂ => TurnsAt PR w A h₀ env target body Q E it s₂) E s := by
  obtain ⟨es, ep, xs, q1, q2, q3, hn, hP⟩ := P.ex
  have hlen : (es.toList.map (·.key)).length = ts.length := by rw [List.length_map, q3, List.length_map, hP.len]
  refine iter_rawTurns lo hh F N hm q1 q2 fun I hI => itemsRest_inv (es.toList.map (·.key)) J keep (fun i v m news h tk it hv hJ ho F' N' => ?_) (fun m news h tk hJ => done m news h tk (hlen ▸ hJ)) _ 0 m₀ news (by rw [List.drop_zero]) (Nat.zero_le _) (fun p hp => Nat.ne_of_lt (hI p hp)) h0
  rw [q3, List.map_map, List.getElem?_map, Option.map_eq_some_iff] at hv
  obtain ⟨x, hx, rfl⟩ := hv
  obtain ⟨a, u, v, b, t1, t2, t3, n, rfl, h1, h2⟩ := hP.at' hx
  exact turn I i u v b a t1 t2 n m news h tk it h1 h2 hJ ho F' N'
end

end
section -- Led3
open PySem PySem.W PyProof.Rows PySem.Calls
set_option maxRecDepth 100000
set_option maxHeartbeats 4000000
theorem PTab.cast {w : World} {led : List (Addr × Obj)} {o : Obj} {ts ts' : Ties} (h : PTab w led o ts) (e : ts = ts') : PTab w led o ts' := e ▸ h
theorem upd_head {d : Addr} {o o0 : Obj} {l l0 : List (Addr × Obj)} (h : ND ((d, o0) :: l0)) (e : l.map (·.1) = l0.map (·.1)) : UpdF d o ((d, o) :: l) (fun o' => (d, o') :: l) :=
  .head fun q hq he => (List.nodup_cons.mp (show (d :: l.map (·.1)).Nodup from e ▸ h)).1 (he ▸ List.mem_map_of_mem hq)
theorem off_same {I : Addr} {l l0 : List (Addr × Obj)} (h : ∀ q ∈ l0, q.1 ≠ I) (e : l.map (·.1) = l0.map (·.1)) : ∀ p ∈ l, p.1 ≠ I := fun p hp hI => by
  have : p.1 ∈ l0.map (·.1) := e ▸ List.mem_map_of_mem hp
  obtain ⟨q, hq, hqe⟩ := List.mem_map.mp this
  exact h q hq (hqe.trans hI)
theorem news_sx {h₀ h : Heap} {L : Addr} (l1 l2 : List (Addr × Obj)) {r : List (Addr × Obj)} (N : News h₀ L h (l1 ++ (l2 ++ r))) : News h₀ L h (l2 ++ (l1 ++ r)) :=
  N.perm fun p hp => by
    simp only [List.mem_append] at hp ⊢
    rcases hp with h | h | h
    · exact .inr (.inl h)
    · exact .inl h
    · exact .inr (.inr h)
theorem nd_sx (l1 l2 : List (Addr × Obj)) {r : List (Addr × Obj)} (h : ND (l1 ++ (l2 ++ r))) : ND (l2 ++ (l1 ++ r)) := by
  have p : (l1 ++ (l2 ++ r)).Perm (l2 ++ (l1 ++ r)) := by
    rw [← List.append_assoc, ← List.append_assoc]
    exact List.Perm.append_right r List.perm_append_comm
  exact (p.map (·.1)).nodup_iff.mp h
section
variable {w : World} {A : Around} {E : Value → Shared → Prop} {s : Shared} {h₀ : Heap} {L d a : Addr} {news led : List (Addr × Obj)} {o : Obj} {ts : Ties} {x y b : Int} {t1 t2 : Tok} {n : Nat}
theorem pt_item {Q : Value → Shared → Prop} (N : News h₀ L s.heap news) (hm : (d, o) ∈ news) (P : PTab w led o ts) (hs : ∀ p ∈ led, p ∈ news) (ha : (a, tup2 x y t1 t2 n) ∈ news) (hu : A.units + 1 < cLine) (hl : lookT ts (x, y) = some b)
    (h : ∀ tk t, Q (.int b t) { s with toks := tk }) : wpAny (model PR w) A (getItem (.ref d) (.ref a)) Q E s := by
  obtain ⟨xs, hD, hP⟩ := P.dict N hm hs
  rcases hP.look x y with ⟨e1, e2⟩ | ⟨c, a', t, e1, e2⟩
  · rw [hl] at e1; cases e1
  · rw [hl] at e1
    cases e1
    exact wpAny_getItem_heap (knd := tupleKind (intKind PR w)) (tupleKind_room_in1 hu) (tup2_key (N.get ha)) hD e2 (h _ _)
theorem pt_sub {value slice : Expr} {Q : Value → Shared → Prop} (N : News h₀ L s.heap news) (hm : (d, o) ∈ news) (P : PTab w led o ts) (hs : ∀ p ∈ led, p ∈ news) (ha : (a, tup2 x y t1 t2 n) ∈ news) (hu : A.units + 1 < cLine) (hl : lookT ts (x, y) = some b)
    (h : ∀ tk t, Q (.int b t) { s with toks := tk }) (hq : subscripted slice false (.ref d) (.ref a) = operate [.ref d, .ref a] (getItem (.ref d) (.ref a)) := by with_unfolding_all rfl) : wpAny (model PR w) A (subscriptTail value slice (.ref d) (.ref a)) Q E s := by
  obtain ⟨xs, hD, hP⟩ := P.dict N hm hs
  exact tail_any hD.typeIs PySem.F.slot_dict_getitem.lookup (pt_item N hm P hs ha hu hl h) hq
end
theorem nd_allLt {a : Addr} {o : Obj} {l : List (Addr × Obj)} (h : ND l) (q : ∀ p ∈ l, p.1 < a) : ND ((a, o) :: l) := nd_c.mpr ⟨fun p hp => Nat.ne_of_lt (q p hp), h⟩

end
section -- SegA3
open PySem PySem.W PyProof.Rows PySem.Calls
set_option maxRecDepth 100000
set_option maxHeartbeats 8000000
local macro_rules | `(tactic| walk_at "no such line") => `(tactic| skip)
local macro_rules | `(tactic| walk_at "no such line") => `(tactic| skip)
theorem kfill_SegA3 : (PySem.Challenge.rw_vs0022_03 = PySem.Challenge.rw_vs0022_03) ∧ (hd.heap_39 = hd.heap_39) := by
  w_top off
  k_fill
  exact ⟨rfl, rfl⟩
local macro_rules | `(tactic| walk_at "call ref") => `(tactic| (k_here; (with_reducible show wpAny _ _ (call (Value.ref 227) _) _ _ _); k_dflt (refine' wpAny_call (code_spec ?B ?F ?X ?N ?T ?hA ?hf ?hke ?hr ?hS ?hI ?hl ?h0 ?h3 ?_); (case B => k_asm); (case F => k_asm); (case X => k_asm); (case N => k_asm); (case T => k_asm); (case hA => exact rfl); (case hf => exact rfl); (case hke => exact rfl); (case hr => (simp only [depth_deeper, depth_in1, depth_caller]; decide)); (case hS => assumption); (case hI => assumption); (case hl => assumption); (case h0 => first | decide | omega); (case h3 => first | decide | omega)); intro h' tk' t' c' F' N' c0' c1'; (try dsimp only)))
local macro_rules | `(tactic| walk_at "call ref") => `(tactic| (k_here; (with_reducible show wpAny _ _ (call (Value.ref 234) [Value.int _ _]) _ _ _); k_dflt (refine' wpAny_call (step_spec ?B ?F ?X ?N ?T ?hA ?hf ?hke ?hr ?h0 ?h1 ?_); (case B => k_asm); (case F => k_asm); (case X => k_asm); (case N => k_asm); (case T => k_asm); (case hA => exact rfl); (case hf => exact rfl); (case hke => exact rfl); (case hr => (simp only [depth_deeper, depth_in1, depth_caller]; decide)); (case h0 => assumption); (case h1 => assumption)); intro h' tk' a' t1' t2' t3' t4' t5' d' ok' F' N' l1; (try k_lt l1); (try dsimp only)))
local macro_rules | `(tactic| walk_at "call ref") => `(tactic| ((with_reducible show wpAny _ _ (call (Value.ref 152) _) _ _ _); (refine stop_here ?_)))
local macro_rules | `(tactic| walk_at "exec Assign cons ListComp") => `(tactic| (k_here; k_dflt (refine LCg.Assign_ListComp_U (F₀ := by k_asm) (by rfl) (by with_unfolding_all rfl) (by with_unfolding_all rfl) (by decide) (by rfl) (by decide) (by rfl) (by rfl) (by rfl) ?_)))
local macro_rules | `(tactic| walk_at "CompSrc") => `(tactic| (k_here; k_dflt (refine LCg.CompSrc.range (by rfl) (by k_asm) (by k_asm) (by assumption) (by first | decide | rfl) (by first | rfl | decide) (by first | size_fits | exact Nat.le_of_ble_eq_true rfl) ?_; intro g'; lcg_lit)))
section
variable {w : World} {base h₀ : Heap} {L : Nat} {fa : Addr} {cd : Value} {s : Shared} {mg mb : Str → Option Value} {p : Program} {loose : List Str} {mean : ExcName → Option Value} {Q : Flow → Shared → Prop} {E : Value → Shared → Prop} {o1 o2 : Obj} {sa : Addr} {vs : List Value} {ns : List Int} {tl : List Stmt}
theorem segA3a {u : Str → Option Value} (B : Below callerA base [] h₀) (F : Fr h₀ L s.heap u) (X₀ : (hd.heap_39 w.params).In h₀) (T : Top p loose mean mg mb h₀)
    (N : News h₀ L s.heap [(L+1+1, o2), (L+1, o1)])
    (c1 : o1.data = .cell (some (.ref sa))) (hS : h₀.IsList sa vs.toArray) (hI : IntsAre vs ns) (hl : ns.length ≤ 63)
    (k : ∀ h' tk m' U tU, 1 ≤ U → Fr h₀ L h' m' → m' (Str.ofString "unit") = some (.int U tU) → News h₀ L h' [(L+1+1, o2), (L+1, o1)] → wpAny (model PR w) (lawA L fa cd) (execs tl (lawEnv L fa cd)) Q E { s with heap := h', toks := tk }) :
    wpAny (model PR w) (lawA L fa cd) (execs (b0.hd :: b1.hd :: tl) (lawEnv L fa cd)) Q E s := by
  dsimp only [lawA, lawEnv, lawG, b0, b1] at k ⊢
  k_steps
  all_goals (rename Fr _ _ _ _ => lF)
  all_goals (rename News _ _ _ _ => lN)
  all_goals (refine k _ _ _ _ _ ?_ lF rfl lN)
  all_goals (rw [Int.fmod_eq_emod_of_nonneg _ (by decide)]; omega)
theorem segA3b {u : Str → Option Value} {U : Int} {tU : Tok} (B : Below callerA base [] h₀) (F : Fr h₀ L s.heap u) (X₀ : (hd.heap_39 w.params).In h₀) (T : Top p loose mean mg mb h₀) (m1 : u (Str.ofString "unit") = some (.int U tU))
    (N : News h₀ L s.heap [(L+1+1, o2), (L+1, o1)])
    (c1 : o1.data = .cell (some (.ref sa))) (c2 : o2.data = .cell none) (hS : h₀.IsList sa vs.toArray) (hI : IntsAre vs ns) (hl : ns.length ≤ 63)
    (k : ∀ h' tk m' st ks a0 a1 a2 a3 d0 d1 d2 d3 rest, Fr h₀ L h' m' → m' (Str.ofString "unit") = some (.int U tU) → m' (Str.ofString "steps") = some (.ref st) → News h₀ L h' ((L+1+1, o2) :: rest) → ND ((L+1+1, o2) :: rest) → (st, listOf [.ref a0, .ref a1, .ref a2, .ref a3].toArray ks) ∈ rest →
      (∃ t1 t2 t3 t4 t5, (a0, stpT d0 t1 t2 t3 t4 t5) ∈ rest) → (∃ t1 t2 t3 t4 t5, (a1, stpT d1 t1 t2 t3 t4 t5) ∈ rest) → (∃ t1 t2 t3 t4 t5, (a2, stpT d2 t1 t2 t3 t4 t5) ∈ rest) → (∃ t1 t2 t3 t4 t5, (a3, stpT d3 t1 t2 t3 t4 t5) ∈ rest) → StpOk d0 → StpOk d1 → StpOk d2 → StpOk d3 →
      wpAny (model PR w) (lawA L fa cd) (execs tl (lawEnv L fa cd)) Q E { s with heap := h', toks := tk }) :
    wpAny (model PR w) (lawA L fa cd) (execs (b2.hd :: tl) (lawEnv L fa cd)) Q E s := by
  dsimp only [lawA, lawEnv, lawG, b2] at k ⊢
  obtain ⟨u, rfl⟩ := kst_all (m := u) (ps := [(Str.ofString "unit", _)]) (List.forall_mem_cons.mpr ⟨m1, fun _ h => nomatch h⟩)
  dsimp only [kstB] at F
  k_steps
  rename Fr _ _ _ _ => lF
  rename News _ _ _ _ => lN
  rename (_ < _ ∧ _ < _ ∧ _ < _ ∧ _ < _ ∧ _ < _ ∧ _ < _ ∧ _ < _ ∧ _ < _) => q3
  rename (_ < _ ∧ _ < _ ∧ _ < _ ∧ _ < _ ∧ _ < _ ∧ _ < _ ∧ _ < _) => q2
  rename (_ < _ ∧ _ < _ ∧ _ < _ ∧ _ < _ ∧ _ < _ ∧ _ < _) => q1
  rename (_ < _ ∧ _ < _ ∧ _ < _ ∧ _ < _ ∧ _ < _) => q0
  rename (_ ≠ _ ∧ _ ≠ _ ∧ _ ≠ _ ∧ _ ≠ _ ∧ _ ≠ _ ∧ _ ≠ _) => o
  have n0 : ND [(L+1+1, o2), (L+1, o1)] := nd_c.mpr ⟨all_cons.mpr ⟨Nat.ne_of_lt (Nat.lt_succ_self (L+1)), fun _ h => nomatch h⟩, nd_c.mpr ⟨(fun _ h => nomatch h), nd_nil⟩⟩
  have n1 := nd_new (o := o1) n0 (lt_cons q0.2.2.2.1 (lt_cons q0.2.2.2.2 fun _ h => nomatch h))
  have n2 := nd_new (o := o1) n1 (lt_cons q1.2.2.2.1 (lt_cons q1.2.2.2.2.1 (lt_cons q1.2.2.2.2.2 fun _ h => nomatch h)))
  have n3 := nd_new (o := o1) n2 (lt_cons q2.2.2.2.1 (lt_cons q2.2.2.2.2.1 (lt_cons q2.2.2.2.2.2.1 (lt_cons q2.2.2.2.2.2.2 fun _ h => nomatch h))))
  have n4 := nd_new (o := o1) n3 (lt_cons q3.2.2.2.1 (lt_cons q3.2.2.2.2.1 (lt_cons q3.2.2.2.2.2.1 (lt_cons q3.2.2.2.2.2.2.1 (lt_cons q3.2.2.2.2.2.2.2 fun _ h => nomatch h)))))
  have n5 := (nd_c (p := (_, o1))).mpr ⟨all_cons.mpr ⟨o.1, all_cons.mpr ⟨o.2.1, all_cons.mpr ⟨o.2.2.1, all_cons.mpr ⟨o.2.2.2.1, all_cons.mpr ⟨o.2.2.2.2.1, all_cons.mpr ⟨o.2.2.2.2.2, fun _ h => absurd h List.not_mem_nil⟩⟩⟩⟩⟩⟩, n4⟩
  have lN2 := news_mid (l1 := [_, _, _, _, _]) lN
  have n6 := nd_mid (l1 := [_, _, _, _, _]) n5
  refine k _ _ _ _ _ _ _ _ _ _ _ _ _ _ lF rfl rfl lN2 (nd_same n6 rfl) (.head _) ⟨_, _, _, _, _, .tail _ (.tail _ (.tail _ (.tail _ (.head _))))⟩ ⟨_, _, _, _, _, .tail _ (.tail _ (.tail _ (.head _)))⟩ ⟨_, _, _, _, _, .tail _ (.tail _ (.head _))⟩ ⟨_, _, _, _, _, .tail _ (.head _)⟩ (by assumption) (by assumption) (by assumption) (by assumption)
end

end
section -- Tree3
open PySem PySem.W PyProof.Rows PySem.Calls
set_option maxRecDepth 100000
set_option maxHeartbeats 4000000
section
variable {w : World} {A : Around} {E : Value → Shared → Prop} {s : Shared} {h₀ : Heap} {L d a : Addr} {m : Str → Option Value} {news led : List (Addr × Obj)} {o : Obj} {x y b : Int} {t1 t2 tb : Tok} {n : Nat}
theorem ts_one {Q : Value → Shared → Prop} {g : Obj → List (Addr × Obj)} (F : Fr h₀ L s.heap m) (N : News h₀ L s.heap news) (U : UpdF d o news g) (hd : o.IsDictOf (intKind PR w) []) (ha : (a, tup2 x y t1 t2 n) ∈ news) (hal : (a, tup2 x y t1 t2 n) ∈ led) (hu : A.units + 1 < cLine)
    (h : ∀ h' o' tk, Fr h₀ L h' m → News h₀ L h' (g o') → PTab w led o' [((x, y), b)] → Q (.ref d) { s with heap := h', toks := tk }) :
    TupStores PR w A E d Q [(.ref a, .int b tb)] s := by
  have P : PTab w [] o [] := PTab.start hd
  obtain ⟨pre, post, rfl, hg, q1, q2⟩ := U.split
  have hm := List.mem_append_right pre (List.mem_cons_self (a := (d, o)) (l := post))
  obtain ⟨xs, hD, hP⟩ := P.dict N hm (fun _ h => nomatch h)
  cases hP
  unfold TupStores storeAll
  rw [List.forIn_cons]
  refine wpAny_bind (wpAny_bind (wpAny_dictSet_heap (hsz := Nat.zero_le _) (knd := tupleKind (intKind PR w)) (show A.units < cLine from Nat.lt_of_succ_lt hu) (tup2_key (N.get ha)) hD fun h' hm' hs' => ?_))
  obtain ⟨o', es', ep', ho', hc', hd', he', _, hn'⟩ := hm'
  refine wpAny_pure ?_
  simp only [List.forIn_nil]
  refine wpAny_pure ?_
  exact h h' o' _ (F.change hs' (N _ hm).2.1 (N.fresh hm)) (hg o' ▸ N.setIn q1 q2 hs' ho') ⟨es', ep', _, hc', hd', he', hn', PairsIn.put .nil hal⟩
theorem Dict_tup_lt {env : Env} {keys : List (Option Expr)} {values : List Expr} {pos : Pos} {Q : Value → Shared → Prop} (tf : tupFirst keys = true) (F : Fr h₀ L s.heap m) (N : News h₀ L s.heap news)
    (hbig : h₀.NoLimit) (hall : keys.all (·.isSome) = true) (hl : keys.length = values.length) (h0 : keys ≠ []) (hlen : keys.length ≤ 15)
    (h : ∀ d h' o, Fr h₀ L h' m → News h₀ L h' ((d, o) :: news) → (∀ p ∈ news, p.1 < d) →
      (d == sysModules) = false → o.IsDictOf (intKind PR w) [] →
      wpAny (model PR w) A (evalPairs (pairTrees keys values env pos)) (TupStores PR w A E d Q) E { s with heap := h' }) :
    wpAny (model PR w) A (eval (.Dict keys values pos) env) Q E s :=
  Dict_tup_made tf F N (modules_low hbig) hall hl h0 hlen fun o F' N' lo hd => h _ _ o F' N' (fun p hp => Heap.lt_size (N p hp).1) lo hd
end

end
section -- SegA3c
open PySem PySem.W PyProof.Rows PySem.Calls
set_option maxRecDepth 100000
set_option maxHeartbeats 8000000
local macro_rules | `(tactic| walk_at "no such line") => `(tactic| skip)
local macro_rules | `(tactic| walk_at "no such line") => `(tactic| skip)
local macro_rules | `(tactic| walk_at "no such line") => `(tactic| skip)
local macro_rules | `(tactic| walk_at "no such line") => `(tactic| skip)
local macro_rules | `(tactic| walk_at "no such line") => `(tactic| skip)
local macro_rules | `(tactic| walk_at "no such line") => `(tactic| skip)
local macro_rules | `(tactic| walk_at "no such line") => `(tactic| skip)
theorem kfill_SegA3c : (PySem.Challenge.rw_vs0022_03 = PySem.Challenge.rw_vs0022_03) ∧ (hd.heap_39 = hd.heap_39) := by
  w_top off
  k_fill
  exact ⟨rfl, rfl⟩
local macro_rules | `(tactic| walk_at "call ref") => `(tactic| ((with_reducible show wpAny _ _ (call (Value.ref 152) _) _ _ _); (refine stop_here ?_)))
theorem start_net3 {w : World} {h₀ h : Heap} {L : Nat} {self sd dA cA : Addr} {t1 t2 t3 t4 t5 : Tok} {od oc o2 : Obj} {r cl : List (Addr × Obj)} (N : News h₀ L h ((self, instObj CS sd) :: (sd, dictOf (netEs w t1 t2 t3 t4 t5 cA dA true) 4) :: (dA, od) :: (cA, oc) :: r))
    (nd : ND ((self, instObj CS sd) :: (sd, dictOf (netEs w t1 t2 t3 t4 t5 cA dA true) 4) :: (dA, od) :: (cA, oc) :: r))
    (hod : od.IsDictOf (intKind PR w) []) (hoc : oc.IsDictOf (intKind PR w) []) (lo1 : (dA == sysModules) = false) (lo2 : (cA == sysModules) = false) (hc : o2.data = .cell (some (.ref self))) :
    ∃ v : NetV, v.self = self ∧ o2.data = .cell (some (.ref v.self)) ∧ v.Ok w cl [] ∧ ND (v.led w r) ∧ News h₀ L h (v.led w r) :=
  ⟨⟨self, sd, cA, dA, t1, t2, t3, t4, t5, true, od, oc, [], [], [], [], fun _ => 0, fun _ => []⟩, rfl, hc, ⟨lo1, lo2, hoc, hod, ⟨rfl, fun _ h => nomatch h⟩, ⟨rfl, (fun _ h => nomatch h), fun _ _ => rfl⟩, NetOk.start⟩, nd, N⟩
section
variable {w : World} {base h₀ : Heap} {L : Nat} {fa : Addr} {cd : Value} {s : Shared} {mg mb : Str → Option Value} {p : Program} {loose : List Str} {mean : ExcName → Option Value} {Q : Flow → Shared → Prop} {E : Value → Shared → Prop} {o1 o2 : Obj} {sa : Addr} {vs : List Value} {ns : List Int} {tl : List Stmt}
theorem segA3c {u : Str → Option Value} {U : Int} {tU : Tok} {st : Addr} {r0 : List (Addr × Obj)} (B : Below callerA base [] h₀) (F : Fr h₀ L s.heap u) (X₀ : (hd.heap_39 w.params).In h₀) (T : Top p loose mean mg mb h₀) (m1 : u (Str.ofString "unit") = some (.int U tU)) (m2 : u (Str.ofString "steps") = some (.ref st))
    (N : News h₀ L s.heap ((L+1+1, o2) :: r0)) (nd : ND ((L+1+1, o2) :: r0)) (c2 : o2.data = .cell none)
    (k : ∀ h' tk m' v o2' r', (∀ p ∈ r0, p ∈ r') → Fr h₀ L h' m' → m' (Str.ofString "unit") = some (.int U tU) → m' (Str.ofString "steps") = some (.ref st) → o2'.data = .cell (some (.ref (NetV.self v))) → v.In w r' → v.Ok w r' [(0, 0, 0)] → News h₀ L h' ((L+1+1, o2') :: r') → ND ((L+1+1, o2') :: r') →
      wpAny (model PR w) (lawA L fa cd) (execs tl (lawEnv L fa cd)) Q E { s with heap := h', toks := tk }) :
    wpAny (model PR w) (lawA L fa cd) (execs (b3.hd :: b4.hd :: tl) (lawEnv L fa cd)) Q E s := by
  dsimp only [lawA, lawEnv, lawG, b3, b4] at k ⊢
  obtain ⟨u, rfl⟩ := kst_all (m := u) (ps := [(Str.ofString "unit", _), (Str.ofString "steps", _)]) (List.forall_mem_cons.mpr ⟨m1, List.forall_mem_cons.mpr ⟨m2, fun _ h => nomatch h⟩⟩)
  dsimp only [kstB] at F
  have ndr := (nd_c.mp nd).1
  k_steps
  unfold Stop
  rename Fr _ _ _ _ => lF
  rename News _ _ _ _ => lN
  rename (_ < _ ∧ _ < _ ∧ _ < _ ∧ _ < _ ∧ AllLt _ _) => q4
  rename (_ < _ ∧ _ < _ ∧ _ < _ ∧ AllLt _ _) => q3
  rename (_ < _) => q2
  rename (_ < _ ∧ AllLt _ _) => q1
  have d1 := nd_new (o := o2) nd (lt_cons q1.1 (lt_all q1.2))
  have d2 := nd_new (o := o2) d1 (lt_cons q2 (lt_cons (Nat.lt_trans q1.1 q2) (fun q hq => Nat.lt_trans (lt_all q1.2 q hq) q2)))
  have d3 := nd_new (o := o2) d2 (lt_cons q3.1 (lt_cons q3.2.1 (lt_cons q3.2.2.1 (lt_all q3.2.2.2))))
  have d4 := nd_new (o := o2) d3 (lt_cons q4.1 (lt_cons q4.2.1 (lt_cons q4.2.2.1 (lt_cons q4.2.2.2.1 (lt_all q4.2.2.2.2)))))
  have d5 := nd_comm [_, _] [_, _] d4
  have lN2 := news_comm [_, _] [_, _] lN
  obtain ⟨v, hself, c2', O, nd', lN3⟩ := start_net3 (cl := r0) lN2 (nd_same d5 rfl) (by assumption) (by assumption) (by assumption) (by assumption) (by assumption)
  clear lN lN2 d1 d2 d3 d4 d5 q1 q2 q3 q4
  refine' wpAny_call (addA (x := 0) (y := 0) (b := 0) hself (by assumption) lF (by assumption) lN3 (by assumption) ?hA ?hf ?hke ?hr nd' O (fun p hp => .tail _ hp) (fun _ _ _ h => nomatch h) (by decide) (by decide) fun h2 tk2 v2 new2 hv2 F2 N2 nd2 O2 => ?_)
  case hA => exact rfl
  case hf => exact rfl
  case hke => exact rfl
  case hr => simp only [depth_deeper, depth_in1, depth_caller]; decide
  clear lF lN3
  (try dsimp only)
  have N3 := news_mid (l1 := NetV.led w v2 new2) (l2 := r0) N2
  have nd3 := nd_mid (l1 := NetV.led w v2 new2) (l2 := r0) nd2
  rw [hself, ← hv2] at c2'
  clear N2 nd2
  rename Fr _ _ _ _ => lF
  refine k _ _ _ v2 _ _ (fun p hp => List.mem_append_right _ hp) lF rfl rfl c2' ((NetV.here w v2 new2).mono fun p hp => List.mem_append_left _ hp) (O2.mono fun p hp => ?_) N3 nd3
  exact (List.mem_append.mp hp).elim (fun q => List.mem_append_left _ (.tail _ (.tail _ (.tail _ (.tail _ q))))) (List.mem_append_right _)
end

end
section -- GoneE
open PySem PySem.W PyProof.Rows PySem.Calls
set_option maxRecDepth 100000
set_option maxHeartbeats 8000000
local macro_rules | `(tactic| walk_at "no such line") => `(tactic| skip)
local macro_rules | `(tactic| walk_at "no such line") => `(tactic| skip)
local macro_rules | `(tactic| walk_at "no such line") => `(tactic| skip)
local macro_rules | `(tactic| walk_at "no such line") => `(tactic| skip)
local macro_rules | `(tactic| walk_at "no such line") => `(tactic| skip)
local macro_rules | `(tactic| walk_at "no such line") => `(tactic| skip)
local macro_rules | `(tactic| walk_at "no such line") => `(tactic| skip)
local macro_rules | `(tactic| walk_at "no such line") => `(tactic| skip)
local macro_rules | `(tactic| walk_at "no such line") => `(tactic| skip)
theorem kfill_GoneE : (PySem.Challenge.rw_vs0022_03 = PySem.Challenge.rw_vs0022_03) ∧ (hd.heap_39 = hd.heap_39) := by
  w_top off
  k_fill
  exact ⟨rfl, rfl⟩
@[reducible] def goneEnv (L' : Addr) : Env := envOf (Str.ofString "_law_gone") goneG.val.2 L' 246 (.ref 245)
def goneOk (d : Stp) (r : Int) : Bool := decide (d.low ≤ r) && (match d.high with | none => true | some h => decide (r ≤ h))
section
variable {w : World} {g : Heap} {outer : List Env} {env : Env} {L' : Addr} {m mg mb : Str → Option Value} {p : Program} {loose : List Str} {mean : ExcName → Option Value} {s : Shared} {news : List (Addr × Obj)} {E : Value → Shared → Prop} {aD : Nat} {aG : Option (List Code)} {aU : Nat} {d : Stp} {a b wt rd : Int} {t1 t2 t3 t4 t5 u1 u2 u3 : Tok} {A₀ : Around} {base : Heap}
theorem e_read {Q : Value → Shared → Prop} (F : Fr g L' s.heap m) (N : News g L' s.heap news) (m1 : m (Str.ofString "clock") = some (.int d.clock t1)) (m2 : m (Str.ofString "a") = some (.int a u1)) (m3 : m (Str.ofString "b") = some (.int b u2)) (hc : d.clock = 0 ∨ d.clock = 1)
    (k : ∀ t tk, Q (.int (if d.clock = 0 then a else b) t) { s with toks := tk }) :
    wpAny (model PR w) (({ depth := aD, frames := some (env :: outer), guards := aG, units := aU } : Around).deeper (goneEnv L')) (eval gRead.val (goneEnv L')) Q E s := by
  dsimp only [goneEnv, goneG, gRead]
  obtain ⟨m, rfl⟩ := kst_all (m := m) (ps := [(Str.ofString "clock", _), (Str.ofString "a", _), (Str.ofString "b", _)]) (List.forall_mem_cons.mpr ⟨m1, List.forall_mem_cons.mpr ⟨m2, List.forall_mem_cons.mpr ⟨m3, fun _ h => nomatch h⟩⟩⟩)
  dsimp only [kstB] at F
  rcases hc with hc | hc <;> rw [hc] at F <;> k_steps
  · have := k u1; rw [if_pos hc] at this; exact this _
  · have := k u2; rw [if_neg (by omega)] at this; exact this _
theorem e_key1 {Q : Value → Shared → Prop} (F : Fr g L' s.heap m) (N : News g L' s.heap news) (T : Top p loose mean mg mb g) (X₀ : (hd.heap_39 w.params).In g) (m1 : m (Str.ofString "first") = some (.int d.fst t1)) (m2 : m (Str.ofString "a") = some (.int a u1)) (m3 : m (Str.ofString "wait") = some (.int wt u2)) (hc : d.fst = 0 ∨ d.fst = 1)
    (k : ∀ h' t tk, Fr g L' h' m → News g L' h' news → Q (.int (if d.fst = 0 then (if 3 < a + wt then 3 else a + wt) else 0) t) { s with heap := h', toks := tk }) :
    wpAny (model PR w) (({ depth := aD, frames := some (env :: outer), guards := aG, units := aU } : Around).deeper (goneEnv L')) (eval gKey.val.1 (goneEnv L')) Q E s := by
  dsimp only [goneEnv, goneG, gKey]
  obtain ⟨m, rfl⟩ := kst_all (m := m) (ps := [(Str.ofString "first", _), (Str.ofString "a", _), (Str.ofString "wait", _)]) (List.forall_mem_cons.mpr ⟨m1, List.forall_mem_cons.mpr ⟨m2, List.forall_mem_cons.mpr ⟨m3, fun _ h => nomatch h⟩⟩⟩)
  dsimp only [kstB] at F k
  rcases hc with hc | hc <;> rw [hc] at F k
  · simp only [if_true] at k
    k_steps
    exact k _ _ _ (by assumption) (by assumption)
  · simp only [show ((1 : Int) = 0) = False from eq_false (by decide), if_false] at k
    k_steps
    exact k _ _ _ F N
theorem e_key2 {Q : Value → Shared → Prop} (F : Fr g L' s.heap m) (N : News g L' s.heap news) (T : Top p loose mean mg mb g) (X₀ : (hd.heap_39 w.params).In g) (m1 : m (Str.ofString "second") = some (.int d.snd t1)) (m2 : m (Str.ofString "b") = some (.int b u1)) (m3 : m (Str.ofString "wait") = some (.int wt u2)) (hc : d.snd = 0 ∨ d.snd = 1)
    (k : ∀ h' t tk, Fr g L' h' m → News g L' h' news → Q (.int (if d.snd = 0 then (if 3 < b + wt then 3 else b + wt) else 0) t) { s with heap := h', toks := tk }) :
    wpAny (model PR w) (({ depth := aD, frames := some (env :: outer), guards := aG, units := aU } : Around).deeper (goneEnv L')) (eval gKey.val.2 (goneEnv L')) Q E s := by
  dsimp only [goneEnv, goneG, gKey]
  obtain ⟨m, rfl⟩ := kst_all (m := m) (ps := [(Str.ofString "second", _), (Str.ofString "b", _), (Str.ofString "wait", _)]) (List.forall_mem_cons.mpr ⟨m1, List.forall_mem_cons.mpr ⟨m2, List.forall_mem_cons.mpr ⟨m3, fun _ h => nomatch h⟩⟩⟩)
  dsimp only [kstB] at F k
  rcases hc with hc | hc <;> rw [hc] at F k
  · simp only [if_true] at k
    k_steps
    exact k _ _ _ (by assumption) (by assumption)
  · simp only [show ((1 : Int) = 0) = False from eq_false (by decide), if_false] at k
    k_steps
    exact k _ _ _ F N
theorem t_if {Q : Bool → Shared → Prop} (F : Fr g L' s.heap m) (N : News g L' s.heap news) (m1 : m (Str.ofString "low") = some (.int d.low t1)) (m2 : m (Str.ofString "high") = some (optV d.high t2)) (m3 : m (Str.ofString "read") = some (.int rd t3))
    (k : ∀ tk, Q (goneOk d rd) { s with toks := tk }) :
    wpAny (model PR w) (({ depth := aD, frames := some (env :: outer), guards := aG, units := aU } : Around).deeper (goneEnv L')) (isTrue gIf.val.1 (goneEnv L') (eval gIf.val.1 (goneEnv L'))) Q E s := by
  dsimp only [goneEnv, goneG, gIf]
  obtain ⟨m, rfl⟩ := kst_all (m := m) (ps := [(Str.ofString "low", _), (Str.ofString "high", _), (Str.ofString "read", _)]) (List.forall_mem_cons.mpr ⟨m1, List.forall_mem_cons.mpr ⟨m2, List.forall_mem_cons.mpr ⟨m3, fun _ h => nomatch h⟩⟩⟩)
  dsimp only [kstB] at F
  unfold goneOk at k
  cases hh : d.high <;> rw [hh] at F k <;> dsimp only [optV] at F k <;> k_steps
  all_goals (have kk := k s.toks)
  all_goals (simp_all)
end

end
section -- Gone03
open PySem PySem.W PyProof.Rows PySem.Calls
set_option maxRecDepth 100000
set_option maxHeartbeats 8000000
local macro_rules | `(tactic| walk_at "no such line") => `(tactic| skip)
theorem kfill_Gone03 : (PySem.Challenge.rw_vs0022_03 = PySem.Challenge.rw_vs0022_03) ∧ (hd.heap_39 = hd.heap_39) := by
  w_top off
  k_fill
  exact ⟨rfl, rfl⟩
/-- what a step's wait makes of the clocks -/
def rdOf (d : Stp) (a b wt : Int) : Int := (if d.clock = 0 then a else b) + wt
def gkey (d : Stp) (a b wt : Int) : Int × Int := (if d.fst = 0 then (if 3 < a + wt then 3 else a + wt) else 0, if d.snd = 0 then (if 3 < b + wt then 3 else b + wt) else 0)
def leastT (acc : Ties) (k : Int × Int) (sp : Int) : Ties := putT acc k (if (lookT acc k).getD sp < sp then (lookT acc k).getD sp else sp)
def goneStep (d : Stp) (acc : Ties) (e : (Int × Int) × Int) (wt : Int) : Ties := if goneOk d (rdOf d e.1.1 e.1.2 wt) then leastT acc (gkey d e.1.1 e.1.2 wt) (e.2 + wt) else acc
def goneW (d : Stp) (acc : Ties) (e : (Int × Int) × Int) (n : Nat) : Ties := (List.range n).foldl (fun acc (w : Nat) => goneStep d acc e ((0 : Int) + (w : Int))) acc
def goneF (d : Stp) (ts : Ties) : Ties := ts.foldl (fun acc e => goneW d acc e 3) []
theorem goneW_next (d : Stp) (acc : Ties) (e : (Int × Int) × Int) (n : Nat) : goneW d acc e (n + 1) = goneStep d (goneW d acc e n) e ((0 : Int) + (n : Int)) := by
  unfold goneW
  rw [List.range_succ, List.foldl_append]
  rfl
theorem gone_next (d : Stp) {ts : Ties} {i : Nat} {e : (Int × Int) × Int} (h : ts[i]? = some e) : (ts.take (i + 1)).foldl (fun acc e => goneW d acc e 3) [] = goneW d ((ts.take i).foldl (fun acc e => goneW d acc e 3) []) e 3 := by
  rw [List.take_add_one, h, List.foldl_append]
  rfl
theorem putT_len3 (ts : Ties) (k : Int × Int) (b : Int) : (putT ts k b).length ≤ ts.length + 1 := by
  unfold putT
  split <;> simp
theorem goneStep_len (d : Stp) (acc : Ties) (e : (Int × Int) × Int) (wt : Int) : (goneStep d acc e wt).length ≤ acc.length + 1 := by
  unfold goneStep leastT
  split
  · exact putT_len3 _ _ _
  · exact Nat.le_succ _
theorem goneW_len (d : Stp) (acc : Ties) (e : (Int × Int) × Int) : ∀ n, (goneW d acc e n).length ≤ acc.length + n
  | 0 => Nat.le_refl _
  | n + 1 => by
    rw [goneW_next]
    have h1 := goneStep_len d (goneW d acc e n) e ((0 : Int) + (n : Int))
    have h2 := goneW_len d acc e n
    omega
theorem gone_len (d : Stp) : ∀ ts acc : Ties, (ts.foldl (fun acc e => goneW d acc e 3) acc).length ≤ acc.length + 3 * ts.length
  | [], _ => Nat.le_refl _
  | e :: ts, acc => by
    rw [List.foldl_cons, List.length_cons]
    have h1 := gone_len d ts (goneW d acc e 3)
    have h2 := goneW_len d acc e 3
    omega
local macro_rules | `(tactic| walk_at "pyIter ref") => `(tactic| refine stop_here ?_)
local macro_rules | `(tactic| walk_at "exec For Tuple Name cons nil") => `(tactic| (k_here; (rename Fr _ _ _ _ => lF'); (with_unfolding_all refine' For_turns lF' ?_; k_whole)))
local macro_rules | `(tactic| walk_at "exec For Name Call cons nil") => `(tactic| (k_here; (rename Fr _ _ _ _ => lF'); (with_unfolding_all refine' For_invVF lF' ?k1 ?k2 ?_; (case k1 => exact rfl); (case k2 => exact rfl); k_whole)))
local macro_rules | `(tactic| walk_at "getMethod ref") => `(tactic| (k_here; (with_reducible show wpAny _ _ (getMethod (Value.ref _) (Str.ofString "get") _) _ _ _); k_dflt (refine pt_method PySem.F.slot_dict_get PySem.F.type_dict_get (by k_asm) (by k_mem) (by assumption) (fun p hp => by repeat (first | exact hp | refine List.mem_cons_of_mem _ ?_)) ?_)))
local macro_rules | `(tactic| walk_at "call builtin:dict.get") => `(tactic| (k_here; k_dflt (refine pt_get (by k_asm) (by k_mem) (by assumption) (fun p hp => by repeat (first | exact hp | refine List.mem_cons_of_mem _ ?_)) (by k_mem) (by units_room) (by assumption) ?_); intro tk' t'; (try dsimp only)))
local macro_rules | `(tactic| walk_at "subscriptTail") => `(tactic| (k_here; (with_reducible show wpAny _ _ (subscriptTail _ _ (Value.ref _) (Value.ref _)) _ _ _); k_dflt (refine' pt_sub ?N ?m ?P ?s ?a ?u ?l ?_; (case N => k_asm); (case m => k_mem); (case P => assumption); (case s => exact fun p hp => by repeat (first | exact hp | refine List.mem_cons_of_mem _ ?_)); (case a => k_mem); (case u => units_room); (case l => assumption)); intro tk' t'; (try dsimp only)))
local macro_rules | `(tactic| walk_at "eval IfExp") => `(tactic| refine stop_here ?_)
local macro_rules | `(tactic| walk_at "isTrue BoolOp") => `(tactic| refine stop_here ?_)
local macro_rules | `(tactic| walk_at "setItem ref ref") => `(tactic| (refine stop_here ?_))
theorem gone_spec {w : World} {A₀ A : Around} {base h₀ : Heap} {outer : List Env} {env : Env} {L : Addr} {m mg mb : Str → Option Value} {p : Program} {loose : List Str} {mean : ExcName → Option Value}
    {s : Shared} {news led : List (Addr × Obj)} {R : Result → Shared → Prop} {sa ta : Addr} {oS : Obj} {ts : Ties} {d : Stp} {t1 t2 t3 t4 t5 : Tok}
    (B : Below A₀ base outer h₀) (F : Fr h₀ L s.heap m) (X₀ : (hd.heap_39 w.params).In h₀) (N : News h₀ L s.heap news) (T : Top p loose mean mg mb h₀)
    (hA : A.frames = some (env :: outer)) (hf : env.frame = some L) (hke : env.scope.kind = .function) (hroom : A.depth < 800) (hu : A.units < 5000) (hH : A.handled = none)
    (nd : ND news) (ns : (sa, oS) ∈ news) (P : PTab w led oS ts) (hled : ∀ p ∈ led, p ∈ news) (lo : (sa == sysModules) = false) (h16 : ts.length ≤ 16) (nt : (ta, stpT d t1 t2 t3 t4 t5) ∈ news) (ok : StpOk d)
    (k : ∀ h' tk D oD l, Fr h₀ L h' m → News h₀ L h' ((D, oD) :: (l ++ news)) → ND ((D, oD) :: (l ++ news)) → (D == sysModules) = false → PTab w l oD (goneF d ts) → R (.ok (.ret (.ref D))) { s with heap := h', toks := tk }) :
    codeAny (model PR w) A (.call (.ref 246) ⟨[.ref sa, .ref ta], []⟩) R s := by
  obtain ⟨aH, aD, aF, aG, aU⟩ := A
  dsimp only at hA hroom hu hH
  subst hA hH
  refine' code_def B F X₀ N T rfl hf hke ?k6 ?k7 (Nat.lt_of_lt_of_le hroom (by decide)) ?k9 ?kB ?_ ?c2 ?c3 ?c4 ?c5
  case k6 => k_is
  case k7 => k_is
  case k9 => exact BindsTo.of_eq rfl
  case kB => exact locs rfl
  case c2 => exact rfl
  case c3 => exact rfl
  case c4 => exact rfl
  case c5 => decide
  intro g L' h₁ FG F' N' B' X' T'
  clear B F X₀ N T FG
  k_unmd
  k_fold
  k_steps
  unfold Stop
  rename Fr _ _ _ _ => lF
  rename News _ _ _ _ => lN
  rename Obj.IsDictOf (intKind _ _) _ _ => hd0
  rename (_ == sysModules) = false => loD
  rename (∀ p : Addr × Obj, p ∈ _ → p.1 < _) => q1
  rename Addr => D
  rename Obj => oA
  have nd1 : ND ((D, oA) :: news) := nd_new nd q1
  refine pyIter_pairs_inv (od := oS) (ts := ts) (led := led) (fun i m' nw => (m' (Str.ofString "states") = some (.ref sa) ∧ m' (Str.ofString "clock") = some (.int d.clock t1) ∧ m' (Str.ofString "low") = some (.int d.low t2) ∧ m' (Str.ofString "high") = some (optV d.high t3) ∧ m' (Str.ofString "first") = some (.int d.fst t4) ∧ m' (Str.ofString "second") = some (.int d.snd t5) ∧ m' (Str.ofString "ahead") = some (.ref D)) ∧
      ∃ oA r' l, r' = l ++ news ∧ nw = (D, oA) :: r' ∧ ND nw ∧ PTab w l oA ((ts.take i).foldl (fun acc e => goneW d acc e 3) []))
    rfl lF lN (.tail _ ns) P lo ⟨⟨rfl, rfl, rfl, rfl, rfl, rfl, rfl⟩, oA, news, [], rfl, rfl, nd1, PTab.start hd0⟩ (fun i m' nw h => ?keep) ?turn ?done
  case keep =>
    obtain ⟨_, oA, r', l, el, rfl, _⟩ := h
    have hr : ∀ p ∈ news, p ∈ r' := fun p hp => el ▸ List.mem_append_right _ hp
    exact .tail _ (hr _ ns)
  case done =>
    rintro m' _ h' tk' ⟨⟨e1, e2, e3, e4, e5, e6, e7⟩, oA, r', l, el, rfl, ndr, PA⟩ F' N'
    rw [List.take_length] at PA
    obtain ⟨m', rfl⟩ := kst_all (m := m') (ps := [(Str.ofString "ahead", _)]) (List.forall_mem_cons.mpr ⟨e7, fun _ h => nomatch h⟩)
    dsimp only [kstB] at F'
    clear lF lN
    k_steps
    refine' leaveK_ ?k1 ?k2 ?_; (case k1 => k_asm); (case k2 => k_asm)
    intro kF kN
    subst el
    exact k _ _ D oA l kF kN ndr loD PA
  case turn =>
    rintro I i a b sp ka u1 u2 n m' _ h' tk' it hi hka ⟨⟨e1, e2, e3, e4, e5, e6, e7⟩, oA, r', l, el, rfl, ndr, PA⟩ hoff F' N'
    have hr : ∀ p ∈ news, p ∈ r' := fun p hp => el ▸ List.mem_append_right _ hp
    obtain ⟨m', rfl⟩ := kst_all (m := m') (ps := [(Str.ofString "states", _), (Str.ofString "clock", _), (Str.ofString "low", _), (Str.ofString "high", _), (Str.ofString "first", _), (Str.ofString "second", _), (Str.ofString "ahead", _)]) (List.forall_mem_cons.mpr ⟨e1, List.forall_mem_cons.mpr ⟨e2, List.forall_mem_cons.mpr ⟨e3, List.forall_mem_cons.mpr ⟨e4, List.forall_mem_cons.mpr ⟨e5, List.forall_mem_cons.mpr ⟨e6, List.forall_mem_cons.mpr ⟨e7, fun _ h => nomatch h⟩⟩⟩⟩⟩⟩⟩)
    dsimp only [kstB] at F'
    clear lF lN k
    have hka := hr _ (hled _ hka)
    have nsr := hr _ ns
    k_steps
    unfold Stop
    rename Fr _ _ _ _ => lF
    rename News _ _ _ _ => lN
    rename IsRange _ _ _ _ _ _ _ _ => hR
    have hlen := gone_len d (ts.take i) []
    have hti := List.length_take_le' i ts
    have hgi := gone_next d hi
    generalize hacc : (ts.take i).foldl (fun acc e => goneW d acc e 3) [] = acc at *
    simp only [List.length_nil] at hlen
    have hal : acc.length ≤ 48 := by omega
    have hlk : lookT ts (a, b) = some sp := (lookT_mem3 P.keys3).mp (List.mem_of_getElem? hi)
    have ndA := nd_comm [(I, it)] [(D, oA)] (r := r') (nd_c.mpr ⟨hoff, ndr⟩)
    have lN2 := news_comm [_] [_] lN
    have hka2 : (ka, tup2 a b u1 u2 n) ∈ r' := hka
    obtain ⟨okc, ok0, ok2, okh, okf, oks⟩ := ok
    refine pyIter_range_inv (n := 3) (fun j m' nw => (m' (Str.ofString "states") = some (.ref sa) ∧ m' (Str.ofString "clock") = some (.int d.clock t1) ∧ m' (Str.ofString "low") = some (.int d.low t2) ∧ m' (Str.ofString "high") = some (optV d.high t3) ∧ m' (Str.ofString "first") = some (.int d.fst t4) ∧ m' (Str.ofString "second") = some (.int d.snd t5) ∧ m' (Str.ofString "ahead") = some (.ref D) ∧ m' (Str.ofString "a") = some (.int a u1) ∧ m' (Str.ofString "b") = some (.int b u2)) ∧
        ∃ oA r2 l2, (∀ p ∈ r', p ∈ r2) ∧ r2 = l2 ++ news ∧ nw = (D, oA) :: (I, it) :: r2 ∧ ND nw ∧ PTab w l2 oA (goneW d acc ((a, b), sp) j))
      rfl hR (by decide) (by decide) lF lN2 ⟨⟨rfl, rfl, rfl, rfl, rfl, rfl, rfl, rfl, rfl⟩, oA, r', l, (fun _ h => h), el, rfl, ndA, PA⟩ ?turn2 ?done2
    case done2 =>
      rintro m2 _ h2 tk2 ⟨⟨e1, e2, e3, e4, e5, e6, e7, _, _⟩, oA, r2, l2, hr2, el2, rfl, ndr, PA⟩ F2 N2
      have N3 := news_comm [_] [_] N2
      have ndB := nd_comm [_] [_] ndr
      k_steps
      exact ⟨_, _, _, _, rfl, F2, N3, (nd_c.mp ndB).1, ⟨e1, e2, e3, e4, e5, e6, e7⟩, oA, r2, l2, el2, rfl, (nd_c.mp ndB).2, PA.cast hgi.symm⟩
    case turn2 =>
      rintro I2 j m2 _ t h2 tk2 it2 hj ⟨⟨e1, e2, e3, e4, e5, e6, e7, e8, e9⟩, oA, r2, l2, hr2, el2, rfl, ndr, PA⟩ hoff2 F2 N2
      have hl2 : ∀ p ∈ l2, p ∈ r2 := fun p hp => el2 ▸ List.mem_append_left _ hp
      obtain ⟨m2, rfl⟩ := kst_all (m := m2) (ps := [(Str.ofString "states", _), (Str.ofString "clock", _), (Str.ofString "low", _), (Str.ofString "high", _), (Str.ofString "first", _), (Str.ofString "second", _), (Str.ofString "ahead", _), (Str.ofString "a", _), (Str.ofString "b", _)]) (List.forall_mem_cons.mpr ⟨e1, List.forall_mem_cons.mpr ⟨e2, List.forall_mem_cons.mpr ⟨e3, List.forall_mem_cons.mpr ⟨e4, List.forall_mem_cons.mpr ⟨e5, List.forall_mem_cons.mpr ⟨e6, List.forall_mem_cons.mpr ⟨e7, List.forall_mem_cons.mpr ⟨e8, List.forall_mem_cons.mpr ⟨e9, fun _ h => nomatch h⟩⟩⟩⟩⟩⟩⟩⟩⟩)
      dsimp only [kstB] at F2
      clear e1 e2 e3 e4 e5 e6 e7 e8 e9 lF lN lN2 hR ndA
      have nsr := hr2 _ nsr
      have hw := goneW_next d acc ((a, b), sp) j
      have hwl := goneW_len d acc ((a, b), sp) j
      generalize hac : goneW d acc ((a, b), sp) j = ac at *
      have P3 : PTab w r2 oA ac := PA.mono hl2
      have P2 : PTab w r2 oS ts := P.mono fun p hp => hr2 _ (hr _ (hled p hp))
      have ndI := (nd_c (p := (I2, it2))).mpr ⟨hoff2, ndr⟩
      generalize hrd : rdOf d a b ((0 : Int) + (j : Int)) = rd at *
      k_steps
      unfold Stop
      rename Fr _ _ _ _ => lF
      rename News _ _ _ _ => lN
      refine e_read (d := d) lF lN rfl rfl rfl okc fun v1 tk3 => ?_
      k_steps
      unfold Stop
      rename Fr _ _ _ _ => lF
      rename News _ _ _ _ => lN
      refine t_if (d := d) lF lN rfl rfl rfl fun tk4 => ?_
      have erd : (if d.clock = 0 then a else b) + ((0 : Int) + (j : Int)) = rd := hrd
      rw [erd]
      cases hg : goneOk d rd with
      | false =>
        k_steps
        rename Fr _ _ _ _ => lF
        rename News _ _ _ _ => lN
        refine ⟨_, _, _, _, rfl, lF, lN, hoff2, ⟨rfl, rfl, rfl, rfl, rfl, rfl, rfl, rfl, rfl⟩, oA, r2, l2, hr2, el2, rfl, ndr, PA.cast ?_⟩
        rw [hw]
        unfold goneStep
        rw [if_neg (by dsimp only; rw [hrd, hg]; exact Bool.false_ne_true)]
      | true =>
        k_steps
        unfold Stop
        rename Fr _ _ _ _ => lF
        rename News _ _ _ _ => lN
        refine e_key1 (d := d) lF lN (by assumption) (by assumption) rfl rfl rfl okf fun h5 v5 tk5 F5 N5 => ?_
        clear lF lN
        k_steps
        unfold Stop
        rename Fr _ _ _ _ => lF
        rename News _ _ _ _ => lN
        refine e_key2 (d := d) lF lN (by assumption) (by assumption) rfl rfl rfl oks fun h6 v6 tk6 F6 N6 => ?_
        have hNB := fun (p : Addr × Obj) hp => Heap.lt_size (N6 p hp).1
        clear lF lN
        k_steps
        unfold Stop
        rename Fr _ _ _ _ => lF
        rename News _ _ _ _ => lN
        have nd3 := nd_new (o := { cls := .type "tuple", data := .seq #[Value.int (if d.fst = 0 then (if 3 < a + ((0 : Int) + (j : Int)) then 3 else a + ((0 : Int) + (j : Int))) else 0) v5, Value.int (if d.snd = 0 then (if 3 < b + ((0 : Int) + (j : Int)) then 3 else b + ((0 : Int) + (j : Int))) else 0) v6] }) ndI hNB
        have lN3 := News.perm lN fun p hp => List.mem_cons_of_mem _ hp
        have lN4 := news_comm [_, _] [_] lN3
        have nd4 := nd_comm [_, _] [_] nd3
        refine pt_set (led' := (_, _) :: l2) lF lN4 (upd_head nd4 rfl) PA (fun p hp => .tail _ (.tail _ (.tail _ (.tail _ (hl2 p hp))))) (.tail _ (.head _)) (fun p hp => .tail _ hp) (.head _) (by units_room) (by omega) fun h8 o8 tk8 F8 N8 P8 => ?_
        clear lF lN lN3 lN4
        k_steps
        have N8' : News g L' h8 ((D, o8) :: (h6.objs.size, ({ cls := .type "tuple", data := .seq #[Value.int (if d.fst = 0 then (if 3 < a + ((0 : Int) + (j : Int)) then 3 else a + ((0 : Int) + (j : Int))) else 0) v5, Value.int (if d.snd = 0 then (if 3 < b + ((0 : Int) + (j : Int)) then 3 else b + ((0 : Int) + (j : Int))) else 0) v6] } : Obj)) :: (I2, it2) :: (I, it) :: r2) := N8
        have N9 : News g L' h8 ((I2, it2) :: (D, o8) :: (I, it) :: (h6.objs.size, ({ cls := .type "tuple", data := .seq #[Value.int (if d.fst = 0 then (if 3 < a + ((0 : Int) + (j : Int)) then 3 else a + ((0 : Int) + (j : Int))) else 0) v5, Value.int (if d.snd = 0 then (if 3 < b + ((0 : Int) + (j : Int)) then 3 else b + ((0 : Int) + (j : Int))) else 0) v6] } : Obj)) :: r2) := News.perm N8' fun p hp => by
          simp only [List.mem_cons] at hp ⊢
          rcases hp with h | h | h | h | h
          · exact .inr (.inr (.inl h))
          · exact .inl h
          · exact .inr (.inr (.inr (.inl h)))
          · exact .inr (.inl h)
          · exact .inr (.inr (.inr (.inr h)))
        have nd9 : ND ((I2, it2) :: (D, o8) :: (I, it) :: (h6.objs.size, ({ cls := .type "tuple", data := .seq #[Value.int (if d.fst = 0 then (if 3 < a + ((0 : Int) + (j : Int)) then 3 else a + ((0 : Int) + (j : Int))) else 0) v5, Value.int (if d.snd = 0 then (if 3 < b + ((0 : Int) + (j : Int)) then 3 else b + ((0 : Int) + (j : Int))) else 0) v6] } : Obj)) :: r2) := nd_sx [(h6.objs.size, ({ cls := .type "tuple", data := .seq #[Value.int (if d.fst = 0 then (if 3 < a + ((0 : Int) + (j : Int)) then 3 else a + ((0 : Int) + (j : Int))) else 0) v5, Value.int (if d.snd = 0 then (if 3 < b + ((0 : Int) + (j : Int)) then 3 else b + ((0 : Int) + (j : Int))) else 0) v6] } : Obj))] [(I2, it2), (D, o8), (I, it)] (nd_same nd3 rfl)
        refine ⟨_, _, _, _, rfl, F8, N9, (nd_c.mp nd9).1, ⟨rfl, rfl, rfl, rfl, rfl, rfl, rfl, rfl, rfl⟩, o8, (h6.objs.size, ({ cls := .type "tuple", data := .seq #[Value.int (if d.fst = 0 then (if 3 < a + ((0 : Int) + (j : Int)) then 3 else a + ((0 : Int) + (j : Int))) else 0) v5, Value.int (if d.snd = 0 then (if 3 < b + ((0 : Int) + (j : Int)) then 3 else b + ((0 : Int) + (j : Int))) else 0) v6] } : Obj)) :: r2, _, (fun p hp => .tail _ (hr2 p hp)), congrArg (List.cons _) el2, rfl, (nd_c.mp nd9).2, P8.cast ?_⟩
        rw [hw]
        have hgs : goneStep d ac ((a, b), sp) ((0 : Int) + (j : Int)) = leastT ac (gkey d a b ((0 : Int) + (j : Int))) (sp + ((0 : Int) + (j : Int))) := by
          unfold goneStep
          exact if_pos (hrd ▸ hg)
        rw [hgs]
        rfl

end
section -- Pt3
open PySem PySem.W PyProof.Rows
set_option maxRecDepth 100000
/-- where a row stands: how many steps, the events at which the clocks were set back last, the place, the bounds put in, the strongest ones, the states -/
structure Pt where
  n : Int
  b0 : Int
  b1 : Int
  spot : Int
  E : Edges
  B : Ties
  S : Ties
def startPt : Pt := ⟨0, 0, 0, 0, [(0, 0, 0)], [((0, 0), 0)], [((0, 0), 0)]⟩
/-- from which place to which a step goes -/
def fromOf : Nat → Int
  | 2 => 1
  | _ => 0
def toOf : Nat → Int
  | 1 => 1
  | _ => 0
def Pt.bk (d : Stp) (p : Pt) : Int := if d.clock = 0 then p.b0 else p.b1
def winE (U : Int) (d : Stp) (p : Pt) : Edges := match d.high with
  | none => [(p.bk d, p.n + 1, -(d.low * U))]
  | some x => [(p.bk d, p.n + 1, -(d.low * U)), (p.n + 1, p.bk d, x * U)]
def winB (U : Int) (d : Stp) (p : Pt) : Ties :=
  let B := putT (putT (putT p.B (p.n + 1, 0) (8 * U)) (p.n, p.n + 1) 0) (p.bk d, p.n + 1) (-d.low * U)
  match d.high with
  | none => B
  | some x => putT B (p.n + 1, p.bk d) (x * U)
def nextPt (U : Int) (d : Stp) (e : Nat) (p : Pt) : Pt where
  n := p.n + 1
  b0 := if d.fst = 0 then p.b0 else p.n + 1
  b1 := if d.snd = 0 then p.b1 else p.n + 1
  spot := if e = 3 then p.spot else toOf e
  E := p.E ++ [(p.n + 1, 0, 8 * U)] ++ [(p.n, p.n + 1, 0)] ++ winE U d p ++ [(0, 1, U)]
  B := winB U d p
  S := goneF d p.S
def ptOf (U : Int) (ds : Nat → Stp) (row : List Nat) : Pt := row.foldl (fun p e => nextPt U (ds e) e p) startPt
theorem ptOf_snoc (U : Int) (ds : Nat → Stp) (row : List Nat) (e : Nat) : ptOf U ds (row ++ [e]) = nextPt U (ds e) e (ptOf U ds row) := by
  unfold ptOf
  rw [List.foldl_append]
  rfl
theorem fold_n (U : Int) (ds : Nat → Stp) : ∀ (row : List Nat) (p : Pt), (row.foldl (fun p e => nextPt U (ds e) e p) p).n = p.n + (row.length : Int)
  | [], p => by simp
  | e :: row, p => by
    rw [List.foldl_cons, fold_n U ds row, List.length_cons]
    show p.n + 1 + _ = _
    omega
theorem ptOf_n (U : Int) (ds : Nat → Stp) (row : List Nat) : (ptOf U ds row).n = (row.length : Int) := by
  unfold ptOf
  rw [fold_n]
  show (0 : Int) + _ = _
  omega
/-- the tree's shape -/
def spotOf (row : List Nat) : Int := row.foldl (fun s e => if e = 3 then s else toOf e) 0
theorem spotOf_snoc (row : List Nat) (e : Nat) : spotOf (row ++ [e]) = if e = 3 then spotOf row else toOf e := by
  unfold spotOf
  rw [List.foldl_append]
  rfl
theorem fold_spot (U : Int) (ds : Nat → Stp) : ∀ (row : List Nat) (p : Pt), (row.foldl (fun p e => nextPt U (ds e) e p) p).spot = row.foldl (fun s e => if e = 3 then s else toOf e) p.spot
  | [], _ => rfl
  | e :: row, p => by
    rw [List.foldl_cons, fold_spot U ds row, List.foldl_cons]
    rfl
theorem ptOf_spot (U : Int) (ds : Nat → Stp) (row : List Nat) : (ptOf U ds row).spot = spotOf row := fold_spot U ds row startPt
def opens (row : List Nat) : Bool := decide (row.length < 2) || (decide (row.length < 4) && decide (row[0]? = some 1))
def kidOk (row : List Nat) (e : Nat) : Bool := (decide (e = 3) == decide (row.length = 3)) && (decide (e = 3) || decide (fromOf e = spotOf row))
def kids (row : List Nat) (k : Nat) : List (List Nat) := if opens row then ((List.range k).filter (kidOk row)).map fun e => row ++ [e] else []
def sched : Nat → List (List Nat)
  | 0 => [[]]
  | i + 1 => sched i ++ (match (sched i)[i]? with | some r => kids r 4 | none => [])
theorem sched_lt : ∀ i, i < 10 → i < (sched i).length := by decide
theorem sched_end : (sched 10).length = 10 := by decide

end
section -- Row3
open PySem PySem.W PyProof.Rows PySem.Calls
set_option maxRecDepth 100000
@[reducible] def tupO (vs : List Value) : Obj := { cls := .type "tuple", data := .seq vs.toArray 0 }
@[reducible] def tup6 (ra : Addr) (sp : Int) (t : Tok) (n ba sa da : Addr) : Obj := { cls := .type "tuple", data := .seq [.ref ra, .int sp t, .ref n, .ref ba, .ref sa, .ref da].toArray 0 }
/-- one entry of the list of rows, as it stands in a ledger -/
structure RowHas (w : World) (r : List (Addr × Obj)) (p : Pt) (row : List Nat) (v : NetV) (ta ra ba sa da : Addr) (rv : List Value) (so bo : Obj) (t0 t1 t2 : Tok) : Prop where
  tup : (ta, tup6 ra p.spot t0 v.self ba sa da) ∈ r
  rw_ : (ra, tupO rv) ∈ r
  iv : IntsAre rv (row.map fun (e : Nat) => (e : Int))
  net : v.In w r
  ok : v.Ok w r p.E
  back : (ba, tup2 p.b0 p.b1 t1 t2 0) ∈ r
  st : (sa, so) ∈ r
  stP : PTab w r so p.S
  stL : (sa == sysModules) = false
  bd : (da, bo) ∈ r
  bdP : PTab w r bo p.B
  bdL : (da == sysModules) = false
def RowAt (w : World) (r : List (Addr × Obj)) (p : Pt) (row : List Nat) (x : Value) : Prop := ∃ v ta ra ba sa da rv so bo t0 t1 t2, x = .ref ta ∧ RowHas w r p row v ta ra ba sa da rv so bo t0 t1 t2
theorem RowAt.mono {w : World} {r r' : List (Addr × Obj)} {p : Pt} {row : List Nat} {x : Value} (hs : ∀ q ∈ r, q ∈ r') (h : RowAt w r p row x) : RowAt w r' p row x := by
  obtain ⟨v, ta, ra, ba, sa, da, rv, so, bo, t0, t1, t2, rfl, h⟩ := h
  exact ⟨v, ta, ra, ba, sa, da, rv, so, bo, t0, t1, t2, rfl, hs _ h.tup, hs _ h.rw_, h.iv, h.net.mono hs, h.ok.mono hs, hs _ h.back, hs _ h.st, h.stP.mono hs, h.stL, hs _ h.bd, h.bdP.mono hs, h.bdL⟩
structure RowsAt (w : World) (r : List (Addr × Obj)) (U : Int) (ds : Nat → Stp) (vs : List Value) (rows : List (List Nat)) : Prop where
  len : vs.length = rows.length
  at' : ∀ (i : Nat) (x : Value) (row : List Nat), vs[i]? = some x → rows[i]? = some row → RowAt w r (ptOf U ds row) row x
theorem RowsAt.mono {w : World} {r r' : List (Addr × Obj)} {U : Int} {ds : Nat → Stp} {vs : List Value} {rows : List (List Nat)} (hs : ∀ q ∈ r, q ∈ r') (h : RowsAt w r U ds vs rows) : RowsAt w r' U ds vs rows :=
  ⟨h.len, fun i x row a b => (h.at' i x row a b).mono hs⟩
theorem RowsAt.snoc {w : World} {r : List (Addr × Obj)} {U : Int} {ds : Nat → Stp} {vs : List Value} {rows : List (List Nat)} (h : RowsAt w r U ds vs rows) {x : Value} {row : List Nat} (hx : RowAt w r (ptOf U ds row) row x) : RowsAt w r U ds (vs ++ [x]) (rows ++ [row]) := by
  refine ⟨by simp [h.len], fun i y row' a b => ?_⟩
  by_cases hi : i < vs.length
  · rw [List.getElem?_append_left hi] at a
    rw [List.getElem?_append_left (h.len ▸ hi)] at b
    exact h.at' i y row' a b
  · rw [List.getElem?_append_right (by omega)] at a
    rw [List.getElem?_append_right (by have := h.len; omega)] at b
    have e : i - vs.length = 0 := by
      by_cases q : i - vs.length = 0
      · exact q
      · obtain ⟨j, hj⟩ := Nat.exists_eq_succ_of_ne_zero q
        rw [hj] at a
        exact nomatch a
    rw [← h.len] at b
    rw [e] at a b
    cases a
    cases b
    exact hx
theorem RowsAt.nil {w : World} {r : List (Addr × Obj)} {U : Int} {ds : Nat → Stp} : RowsAt w r U ds [] [] := ⟨rfl, fun i x row a => by simp at a⟩
/-- one entry of the list of those kept -/
structure KeptHas (w : World) (r : List (Addr × Obj)) (p : Pt) (v : NetV) (ka ta da : Addr) (tv : List Value) (n : Nat) (bo : Obj) : Prop where
  tup : (ka, tupO [.ref v.self, .ref ta, .ref da]) ∈ r
  net : v.In w r
  ok : v.Ok w r p.E
  sat : v.sat = true
  tms : (ta, listOf tv.toArray n) ∈ r
  iv : IntsAre tv ((List.range (p.n.toNat + 1)).map fun (i : Nat) => -(v.D (i : Int)))
  bd : (da, bo) ∈ r
  bdP : PTab w r bo p.B
  bdL : (da == sysModules) = false
def KeptAt (w : World) (r : List (Addr × Obj)) (U : Int) (ds : Nat → Stp) (x : Value) : Prop := ∃ (row : List Nat) (i : Nat) (v : NetV) (ka ta da : Addr) (tv : List Value) (n : Nat) (bo : Obj), (sched 10)[i]? = some row ∧ x = .ref ka ∧ KeptHas w r (ptOf U ds row) v ka ta da tv n bo
theorem KeptAt.mono {w : World} {r r' : List (Addr × Obj)} {U : Int} {ds : Nat → Stp} {x : Value} (hs : ∀ q ∈ r, q ∈ r') (h : KeptAt w r U ds x) : KeptAt w r' U ds x := by
  obtain ⟨row, i, v, ka, ta, da, tv, n, bo, hi, rfl, h⟩ := h
  exact ⟨row, i, v, ka, ta, da, tv, n, bo, hi, rfl, hs _ h.tup, h.net.mono hs, h.ok.mono hs, h.sat, hs _ h.tms, h.iv, hs _ h.bd, h.bdP.mono hs, h.bdL⟩
/-- what stands in the law's frame at a turn -/
@[reducible] def basePs (U : Int) (tU : Tok) (st rA kA : Addr) : List (Str × Value) := [(Str.ofString "unit", .int U tU), (Str.ofString "steps", .ref st), (Str.ofString "rows", .ref rA), (Str.ofString "kept", .ref kA)]
@[reducible] def turnPs (U : Int) (tU : Tok) (st rA kA ra : Addr) (sp : Int) (y3 : Tok) (ba sa da : Addr) (n : Nat) (y4 : Tok) : List (Str × Value) := [(Str.ofString "unit", .int U tU), (Str.ofString "steps", .ref st), (Str.ofString "rows", .ref rA), (Str.ofString "kept", .ref kA),
  (Str.ofString "row", .ref ra), (Str.ofString "spot", .int sp y3), (Str.ofString "back", .ref ba), (Str.ofString "states", .ref sa), (Str.ofString "bounds", .ref da), (Str.ofString "size", .int (n : Int) y4)]
def MHas (u : Str → Option Value) (ps : List (Str × Value)) : Prop := ∀ q ∈ ps, u q.1 = some q.2
theorem MHas.nil {u : Str → Option Value} : MHas u [] := fun _ h => nomatch h
theorem MHas.cons {u : Str → Option Value} {q : Str × Value} {ps : List (Str × Value)} (h : u q.1 = some q.2) (h' : MHas u ps) : MHas u (q :: ps) := List.forall_mem_cons.mpr ⟨h, h'⟩
theorem MHas.sub {u : Str → Option Value} {ps ps' : List (Str × Value)} (h : MHas u ps) (hs : ∀ q ∈ ps', q ∈ ps) : MHas u ps' := fun q hq => h q (hs q hq)

end
section -- SegA3d
open PySem PySem.W PyProof.Rows PySem.Calls
set_option maxRecDepth 100000
set_option maxHeartbeats 8000000
local macro_rules | `(tactic| walk_at "no such line") => `(tactic| skip)
local macro_rules | `(tactic| walk_at "no such line") => `(tactic| skip)
local macro_rules | `(tactic| walk_at "no such line") => `(tactic| skip)
local macro_rules | `(tactic| walk_at "no such line") => `(tactic| skip)
local macro_rules | `(tactic| walk_at "no such line") => `(tactic| skip)
local macro_rules | `(tactic| walk_at "no such line") => `(tactic| skip)
local macro_rules | `(tactic| walk_at "no such line") => `(tactic| skip)
local macro_rules | `(tactic| walk_at "no such line") => `(tactic| skip)
local macro_rules | `(tactic| walk_at "no such line") => `(tactic| skip)
theorem kfill_SegA3d : (PySem.Challenge.rw_vs0022_03 = PySem.Challenge.rw_vs0022_03) ∧ (hd.heap_39 = hd.heap_39) := by
  w_top off
  k_fill
  exact ⟨rfl, rfl⟩
local macro_rules | `(tactic| walk_at "eval Dict") => `(tactic| (k_here; k_dflt (refine' Dict_tup_lt ?tf ?F ?N ?big ?al ?ln ?ne ?le ?_; (case tf => exact rfl); (case F => k_asm); (case N => k_asm); (case big => exact TopRead.nolimit (by k_asm)); (case al => exact rfl); (case ln => exact rfl); (case ne => exact List.cons_ne_nil _ _); (case le => decide)); intro d' h' o' F' N' l1 lo' id'; (try k_lt l1)))
local macro_rules | `(tactic| walk_at "TupStores") => `(tactic| refine stop_here ?_)
section
variable {w : World} {base h₀ : Heap} {L : Nat} {fa : Addr} {cd : Value} {s : Shared} {mg mb : Str → Option Value} {p : Program} {loose : List Str} {mean : ExcName → Option Value} {Q : Flow → Shared → Prop} {E : Value → Shared → Prop} {o2 : Obj} {tl : List Stmt}
theorem segA3d {u : Str → Option Value} {U : Int} {tU : Tok} {st : Addr} {v : NetV} {r0 : List (Addr × Obj)} (B : Below callerA base [] h₀) (F : Fr h₀ L s.heap u) (X₀ : (hd.heap_39 w.params).In h₀) (T : Top p loose mean mg mb h₀) (m1 : u (Str.ofString "unit") = some (.int U tU)) (m2 : u (Str.ofString "steps") = some (.ref st))
    (N : News h₀ L s.heap ((L+1+1, o2) :: r0)) (nd : ND ((L+1+1, o2) :: r0)) (c2 : o2.data = .cell (some (.ref v.self))) (I : v.In w r0) (O : v.Ok w r0 [(0, 0, 0)])
    (k : ∀ h' tk m' rA kA x r', (∀ p ∈ r0, p ∈ r') → Fr h₀ L h' m' → m' (Str.ofString "unit") = some (.int U tU) → m' (Str.ofString "steps") = some (.ref st) → m' (Str.ofString "rows") = some (.ref rA) → m' (Str.ofString "kept") = some (.ref kA) → RowAt w r' startPt [] x → News h₀ L h' ((L+1+1, o2) :: (kA, listOf ([] : List Value).toArray 0) :: (rA, listOf [x].toArray 0) :: r') → ND ((L+1+1, o2) :: (kA, listOf ([] : List Value).toArray 0) :: (rA, listOf [x].toArray 0) :: r') →
      wpAny (model PR w) (lawA L fa cd) (execs tl (lawEnv L fa cd)) Q E { s with heap := h', toks := tk }) :
    wpAny (model PR w) (lawA L fa cd) (execs (b5.hd :: b6.hd :: tl) (lawEnv L fa cd)) Q E s := by
  dsimp only [lawA, lawEnv, lawG, b5, b6] at k ⊢
  obtain ⟨u, rfl⟩ := kst_all (m := u) (ps := [(Str.ofString "unit", _), (Str.ofString "steps", _)]) (List.forall_mem_cons.mpr ⟨m1, List.forall_mem_cons.mpr ⟨m2, fun _ h => nomatch h⟩⟩)
  dsimp only [kstB] at F
  k_steps
  unfold Stop
  rename Fr _ _ _ _ => lF
  rename News _ _ _ _ => lN
  rename (_ < _ ∧ _ < _ ∧ _ < _ ∧ _ < _ ∧ AllLt _ _) => q4
  rename (_ < _ ∧ _ < _ ∧ _ < _ ∧ AllLt _ _) => q3
  rename (_ < _ ∧ _ < _ ∧ AllLt _ _) => q2
  rename (_ < _ ∧ AllLt _ _) => q1
  have n1 := nd_new (o := o2) nd (lt_cons q1.1 (lt_all q1.2))
  have n2 := nd_new (o := o2) n1 (lt_cons q2.1 (lt_cons q2.2.1 (lt_all q2.2.2)))
  have n3 := nd_new (o := o2) n2 (lt_cons q3.1 (lt_cons q3.2.1 (lt_cons q3.2.2.1 (lt_all q3.2.2.2))))
  have n4 := nd_new (o := o2) n3 (lt_cons q4.1 (lt_cons q4.2.1 (lt_cons q4.2.2.1 (lt_cons q4.2.2.2.1 (lt_all q4.2.2.2.2)))))
  have n5 := nd_comm [_] [_] n4
  have lN2 := news_comm [_] [_] lN
  refine ts_one (led := (_, _) :: r0) lF lN2 (upd_head n5 rfl) (by assumption) (.tail _ (.head _)) (.head _) (by units_room) fun h6 o6 tk6 F6 N6 P6 => ?_
  clear lF lN lN2 n1 n2 n3 n4
  simp only [List.append_eq, List.nil_append, List.cons_append] at N6 n5
  have n6 := nd_same (l' := (_, o6) :: _) n5 rfl
  clear n5 q1 q2 q3 q4
  k_steps
  unfold Stop
  rename Fr _ _ _ _ => lF
  rename News _ _ _ _ => lN
  rename (_ < _ ∧ _ < _ ∧ _ < _ ∧ _ < _ ∧ _ < _ ∧ _ < _ ∧ AllLt _ _) => q6
  rename (_ < _ ∧ _ < _ ∧ _ < _ ∧ _ < _ ∧ _ < _ ∧ AllLt _ _) => q5
  have n7 := nd_new (o := o2) n6 (lt_cons q5.1 (lt_cons q5.2.1 (lt_cons q5.2.2.1 (lt_cons q5.2.2.2.1 (lt_cons q5.2.2.2.2.1 (lt_all q5.2.2.2.2.2))))))
  have n8 := nd_new (o := o2) n7 (lt_cons q6.1 (lt_cons q6.2.1 (lt_cons q6.2.2.1 (lt_cons q6.2.2.2.1 (lt_cons q6.2.2.2.2.1 (lt_cons q6.2.2.2.2.2.1 (lt_all q6.2.2.2.2.2.2)))))))
  have n9 := nd_comm [_] [_] n8
  have lN2 := news_comm [_] [_] lN
  refine ts_one (led := (_, _) :: r0) lF lN2 (upd_head n9 rfl) (by assumption) (.tail _ (.head _)) (.head _) (by units_room) fun h7 o7 tk7 F7 N7 P7 => ?_
  clear lF lN lN2 n6 n7 n8
  simp only [List.append_eq, List.nil_append, List.cons_append] at N7 n9
  have n10 := nd_same (l' := (_, o7) :: _) n9 rfl
  clear n9 q5 q6
  k_steps
  rename Fr _ _ _ _ => lF
  rename News _ _ _ _ => lN
  rename (_ < _ ∧ _ < _ ∧ _ < _ ∧ _ < _ ∧ _ < _ ∧ _ < _ ∧ _ < _ ∧ _ < _ ∧ _ < _ ∧ AllLt _ _) => q9
  rename (_ < _ ∧ _ < _ ∧ _ < _ ∧ _ < _ ∧ _ < _ ∧ _ < _ ∧ _ < _ ∧ _ < _ ∧ AllLt _ _) => q8
  rename (_ < _ ∧ _ < _ ∧ _ < _ ∧ _ < _ ∧ _ < _ ∧ _ < _ ∧ _ < _ ∧ AllLt _ _) => q7
  have n11 := nd_new (o := o2) n10 (lt_cons q7.1 (lt_cons q7.2.1 (lt_cons q7.2.2.1 (lt_cons q7.2.2.2.1 (lt_cons q7.2.2.2.2.1 (lt_cons q7.2.2.2.2.2.1 (lt_cons q7.2.2.2.2.2.2.1 (lt_all q7.2.2.2.2.2.2.2))))))))
  have n12 := nd_new (o := o2) n11 (lt_cons q8.1 (lt_cons q8.2.1 (lt_cons q8.2.2.1 (lt_cons q8.2.2.2.1 (lt_cons q8.2.2.2.2.1 (lt_cons q8.2.2.2.2.2.1 (lt_cons q8.2.2.2.2.2.2.1 (lt_cons q8.2.2.2.2.2.2.2.1 (lt_all q8.2.2.2.2.2.2.2.2)))))))))
  have n13 := nd_new (o := o2) n12 (lt_cons q9.1 (lt_cons q9.2.1 (lt_cons q9.2.2.1 (lt_cons q9.2.2.2.1 (lt_cons q9.2.2.2.2.1 (lt_cons q9.2.2.2.2.2.1 (lt_cons q9.2.2.2.2.2.2.1 (lt_cons q9.2.2.2.2.2.2.2.1 (lt_cons q9.2.2.2.2.2.2.2.2.1 (lt_all q9.2.2.2.2.2.2.2.2.2))))))))))
  have lN2 := news_mid (l1 := [_, _, _, _, _, _, _, _, _]) lN
  have n14 := nd_mid (l1 := [_, _, _, _, _, _, _, _, _]) n13
  simp only [List.append_eq, List.nil_append, List.cons_append] at lN2 n14
  refine k _ _ _ _ _ _ _ (fun p hp => by repeat (first | exact hp | refine List.mem_cons_of_mem _ ?_)) lF rfl rfl rfl rfl ?_ lN2 (nd_same n14 rfl)
  refine ⟨v, _, _, _, _, _, [], _, _, _, s.toks + 1, s.toks + 1 + 1, rfl, .head _, ?_, IntsAre.nil, I.mono (fun p hp => by repeat (first | exact hp | refine List.mem_cons_of_mem _ ?_)), O.mono (fun p hp => by repeat (first | exact hp | refine List.mem_cons_of_mem _ ?_)), ?_, ?_, P6.mono ?_, by assumption, .tail _ (.head _), P7.mono ?_, by assumption⟩
  · repeat (first | exact .head _ | refine .tail _ ?_)
  · repeat (first | exact .head _ | refine .tail _ ?_)
  · repeat (first | exact .head _ | refine .tail _ ?_)
  · exact List.forall_mem_cons.mpr ⟨by repeat (first | exact .head _ | refine .tail _ ?_), fun p hp => by repeat (first | exact hp | refine List.mem_cons_of_mem _ ?_)⟩
  · exact List.forall_mem_cons.mpr ⟨by repeat (first | exact .head _ | refine .tail _ ?_), fun p hp => by repeat (first | exact hp | refine List.mem_cons_of_mem _ ?_)⟩
end

end
section -- Law3b
open PySem PySem.W PyProof.Rows PySem.Calls
set_option maxRecDepth 100000
set_option maxHeartbeats 8000000
/-- the parts of the loop over the rows -/
@[reducible] def forAll : Stmt → Option (Expr × Expr × List Stmt)
  | .For t i b [] _ => some (t, i, b)
  | _ => none
@[reducible] def ifBody : Stmt → Option (Expr × List Stmt)
  | .If t b _ _ => some (t, b)
  | _ => none
def lF7 : Got (forAll b7.hd) := ⟨(_, _, _), rfl⟩
def t0 : Uncons lF7.val.2.2 := ⟨_, _, rfl⟩
def t1 : Uncons t0.tl := ⟨_, _, rfl⟩
def t2 : Uncons t1.tl := ⟨_, _, rfl⟩
def t3 : Uncons t2.tl := ⟨_, _, rfl⟩
theorem t_end : t3.tl = [] := rfl
def iS : Got (ifBody t2.hd) := ⟨(_, _), rfl⟩
def s0 : Uncons iS.val.2 := ⟨_, _, rfl⟩
def s1 : Uncons s0.tl := ⟨_, _, rfl⟩
def s2 : Uncons s1.tl := ⟨_, _, rfl⟩
def s3 : Uncons s2.tl := ⟨_, _, rfl⟩
def s4 : Uncons s3.tl := ⟨_, _, rfl⟩
theorem s_end : s4.tl = [] := rfl
def iK : Got (ifBody t3.hd) := ⟨(_, _), rfl⟩
def kF : Got ((iK.val.2[0]?).bind forAll) := ⟨(_, _, _), rfl⟩
def iC : Got ((kF.val.2.2[0]?).bind ifBody) := ⟨(_, _), rfl⟩
def c0 : Uncons iC.val.2 := ⟨_, _, rfl⟩
def c1 : Uncons c0.tl := ⟨_, _, rfl⟩
def c2 : Uncons c1.tl := ⟨_, _, rfl⟩
def c3 : Uncons c2.tl := ⟨_, _, rfl⟩
def c4 : Uncons c3.tl := ⟨_, _, rfl⟩
def c5 : Uncons c4.tl := ⟨_, _, rfl⟩
def c6 : Uncons c5.tl := ⟨_, _, rfl⟩
def c7 : Uncons c6.tl := ⟨_, _, rfl⟩
def c8 : Uncons c7.tl := ⟨_, _, rfl⟩
def c9 : Uncons c8.tl := ⟨_, _, rfl⟩
def c10 : Uncons c9.tl := ⟨_, _, rfl⟩
def c11 : Uncons c10.tl := ⟨_, _, rfl⟩
def c12 : Uncons c11.tl := ⟨_, _, rfl⟩
theorem c_end : c12.tl = [] := rfl

end
section -- PairLen
open PySem PySem.W PyProof.Rows PySem.Calls
set_option maxRecDepth 100000
set_option maxHeartbeats 4000000
section
variable {prog : Program} {w : World} {A : Around} {E : Value → Shared → Prop} {s : Shared}
theorem meets_raw_len {d : Addr} (lo : (d == sysModules) = false) :
    MeetsIn prog w (Builtin.«dict.__len__» ⟨[.ref d], []⟩) (fun _ R s => ∃ es ep, DRaw s.heap d es ep ∧ R (.ok (.ret (.int es.size s.toks))) { s with toks := s.toks + 1 }) :=
  .of_wp fun A R s ⟨es, ep, hm, h⟩ => by
    obtain ⟨o, ho, hc, hd⟩ := hm
    show wpAny _ _ (dictSize d >>= _) _ _ s
    unfold dictSize
    refine wpAny_bind (wpAny_bind (wpAny_dictEntries ho hd (wpAny_pure ?_)))
    show wpAny _ _ (Builtin.Dict.pendingCount d >>= _) _ _ s
    refine wpAny_bind (wpAny_pendingCount_other lo ?_)
    refine wpAny_ret_mkInt ?_
    rw [Nat.add_zero]; exact h
theorem raw_lenBody {d : Addr} {es : Array DictEntry} {ep : Nat} {Q : Value → Shared → Prop} (lo : (d == sysModules) = false) (x : DRaw s.heap d es ep) (hfit : (es.size : Int) < 2 ^ 63)
    (h : Q (.int es.size (s.toks + 1)) { s with toks := s.toks + 1 + 1 }) : wpAny (model prog w) A (Builtin.«len» ⟨[.ref d], []⟩) (fun fin s' => ∃ r, fin = .done (.ret r) ∧ Q r s') E s := by
  unfold Builtin.«len»
  refine wpAny_bind (m := oneArg "len" _) (wpAny_pure ?_)
  refine wpAny_bind (m := callSpecial? (.ref d) (Str.ofString "__len__")) (wpAny_callSpecial?_slot (name := Str.ofString "__len__") x.typeIs F.slot_dict_len
    (call_meetsIn F.slot_dict_len x.typeIs F.entry_dict_len (F.args_dict_len_1 _) (meets_raw_len lo) ⟨es, ep, x, ?_⟩))
  show wpAny _ _ _ _ _ { s with toks := s.toks + 1 }
  refine wpAny_bind (wpAny_holding (wpAny_pure ?_))
  refine wpAny_bind (wpAny_letGo ?_)
  show wpAny _ _ (if ((es.size : Nat) : Int) < 0 then _ else _) _ _ _
  rw [if_neg (by omega)]
  show wpAny _ _ (if ((es.size : Nat) : Int) ≥ 2 ^ 63 then _ else _) _ _ _
  rw [if_neg (by omega)]
  exact wpAny_bind (wpAny_mkInt (wpAny_pure ⟨_, rfl, h⟩))
theorem raw_len {d : Addr} {es : Array DictEntry} {ep : Nat} {Q : Value → Shared → Prop} (lo : (d == sysModules) = false) (x : DRaw s.heap d es ep) (hfit : (es.size : Int) < 2 ^ 63)
    (h : Q (.int es.size (s.toks + 1)) { s with toks := s.toks + 1 + 1 }) : wpAny (model prog w) A (call (.builtin "len") [.ref d]) Q E s :=
  Calls.call_function_entry kind_len plain_len entry_len (args_len1 _) (raw_lenBody lo x hfit h)
theorem raw_truthy {d : Addr} {es : Array DictEntry} {ep : Nat} {Q : Bool → Shared → Prop} (lo : (d == sysModules) = false) (x : DRaw s.heap d es ep) (hfit : (es.size : Int) < 2 ^ 63)
    (h : Q (decide (0 < es.size)) { s with toks := s.toks + 1 + 1 }) : wpAny (model prog w) A (truthy (.ref d)) Q E s := by
  have hne : ((es.size : Int) != 0) = decide (0 < es.size) := by
    rw [Bool.eq_iff_iff, bne_iff_ne, decide_eq_true_iff]
    omega
  have key : wpAny (model prog w) A (runValue (.builtin "len" ⟨[.ref d], []⟩)) (fun r s' => r = .int es.size (s.toks + 1) ∧ Q (decide (0 < es.size)) s') E s := by
    refine wpAny_runValue (codeAny_builtin entry_len ?_)
    rw [Around.under_plainId plain_len _]
    exact wpAny_mono (raw_lenBody (Q := fun r s' => r = .int es.size (s.toks + 1) ∧ Q (decide (0 < es.size)) s') lo x hfit ⟨rfl, h⟩)
      (fun fin s' h' => by obtain ⟨r, rfl, hq⟩ := h'; exact hq) fun _ _ e => e
  unfold truthy
  first
    | refine wpAny_bind (wpAny_callSpecial?_none (name := Str.ofString "__bool__") x.typeIs noBool_dict ?_)
    | refine wpAny_bind (wpAny_pure (wpAny_bind (wpAny_callSpecial?_none (name := Str.ofString "__bool__") x.typeIs noBool_dict ?_)))
  first
    | refine wpAny_bind (wpAny_specialOf (name := Str.ofString "__len__") x.typeIs F.slot_dict_len.lookup ?_)
    | refine wpAny_bind (wpAny_pure (wpAny_bind (wpAny_specialOf (name := Str.ofString "__len__") x.typeIs F.slot_dict_len.lookup ?_)))
  first
    | exact wpAny_bind (wpAny_mono key (fun r s' h' => by obtain ⟨rfl, hq⟩ := h'; exact wpAny_pure (hne ▸ hq)) fun _ _ e => e)
    | exact wpAny_bind (wpAny_pure (wpAny_bind (wpAny_mono key (fun r s' h' => by obtain ⟨rfl, hq⟩ := h'; exact wpAny_pure (hne ▸ hq)) fun _ _ e => e)))
end
section
variable {w : World} {A : Around} {E : Value → Shared → Prop} {s : Shared} {h₀ : Heap} {L d : Addr} {news led : List (Addr × Obj)} {o : Obj} {ts : Ties}
theorem PTab.raw (P : PTab w led o ts) {h : Heap} (hg : h.get? d = some o) : ∃ es ep, DRaw h d es ep ∧ es.size = ts.length := by
  obtain ⟨es, ep, xs, q1, q2, q3, hn, hP⟩ := P.ex
  exact ⟨es, ep, ⟨o, hg, q1, q2⟩, by rw [← Array.length_toList, q3, List.length_map, hP.len]⟩
theorem pt_len {Q : Value → Shared → Prop} (N : News h₀ L s.heap news) (hm : (d, o) ∈ news) (P : PTab w led o ts) (lo : (d == sysModules) = false) (hz : ts.length ≤ 60) (h : Q (.int (ts.length : Int) (s.toks + 1)) { s with toks := s.toks + 1 + 1 }) :
    wpAny (model PR w) A (call (.builtin "len") [.ref d]) Q E s := by
  obtain ⟨es, ep, x, e⟩ := P.raw (N.get hm)
  refine raw_len lo x (by omega) ?_
  rw [e]; exact h
theorem pt_truthy {Q : Bool → Shared → Prop} (N : News h₀ L s.heap news) (hm : (d, o) ∈ news) (P : PTab w led o ts) (lo : (d == sysModules) = false) (hz : ts.length ≤ 60) (h : Q (decide (0 < ts.length)) { s with toks := s.toks + 1 + 1 }) :
    wpAny (model PR w) A (truthy (.ref d)) Q E s := by
  obtain ⟨es, ep, x, e⟩ := P.raw (N.get hm)
  refine raw_truthy lo x (by omega) ?_
  rw [e]; exact h
end

end
section -- Plain03
open PySem PySem.W PyProof.Rows PySem.Calls
set_option maxRecDepth 100000
set_option maxHeartbeats 8000000
local macro_rules | `(tactic| walk_at "no such line") => `(tactic| skip)
local macro_rules | `(tactic| walk_at "no such line") => `(tactic| skip)
local macro_rules | `(tactic| walk_at "no such line") => `(tactic| skip)
local macro_rules | `(tactic| walk_at "no such line") => `(tactic| skip)
local macro_rules | `(tactic| walk_at "no such line") => `(tactic| skip)
local macro_rules | `(tactic| walk_at "no such line") => `(tactic| skip)
local macro_rules | `(tactic| walk_at "no such line") => `(tactic| skip)
local macro_rules | `(tactic| walk_at "no such line") => `(tactic| skip)
local macro_rules | `(tactic| walk_at "no such line") => `(tactic| skip)
theorem kfill_Plain02 : (PySem.Challenge.rw_vs0022_03 = PySem.Challenge.rw_vs0022_03) ∧ (hd.heap_39 = hd.heap_39) := by
  w_top off
  k_fill
  exact ⟨rfl, rfl⟩
local macro_rules | `(tactic| walk_at "getMethod ref") => `(tactic| (k_here; (with_reducible show wpAny _ _ (getMethod (Value.ref _) (Str.ofString "values") _) _ _ _); k_dflt (refine kob_method (knd := PySem.intKind _ _) PySem.F.slot_dict_values PySem.F.type_dict_values (by k_asm) (by k_mem) (by assumption) ?_)))
local macro_rules | `(tactic| walk_at "call builtin:dict.values") => `(tactic| (k_here; k_dflt (refine kdl_view_values (knd := PySem.intKind _ _) (by k_asm) (by k_asm) (by k_mem) (by assumption) (by assumption) ?_); intro vw' h' F' N' l1; (try dsimp only)))
local macro_rules | `(tactic| walk_at "eval ListComp") => `(tactic| (k_here; k_dflt (refine listComp_W (F₀ := by k_asm) (by with_unfolding_all rfl) (by decide) (by rfl) (by decide) (by rfl) ?_)))
theorem dist_val {w : World} {o : Obj} {dv : List (Int × Value)} {ks : List Int} {D : Int → Int} {i : Nat} {k : Int} {v : Value} (ho : o.IsDictOf (intKind PR w) dv) (h : DistIs dv ks D) (e : dv[i]? = some (k, v)) : ∃ t, v = .int (D k) t := by
  have hm := List.mem_of_getElem? e
  obtain ⟨t, ht⟩ := h.2 k (h.1 ▸ List.mem_map_of_mem (f := (·.1)) hm)
  have hn := isdict_nodup ho
  refine ⟨t, Option.some.inj (Eq.trans ?_ ht)⟩
  clear ht h ho
  induction dv generalizing i with
  | nil => exact nomatch hm
  | cons p r ih =>
    rw [List.map_cons, List.nodup_cons] at hn
    rcases List.mem_cons.mp hm with rfl | hm'
    · simp [valueAt]
    · have hne : p.1 ≠ k := fun q => hn.1 (q ▸ List.mem_map_of_mem (f := (·.1)) hm')
      obtain ⟨j, hj⟩ := List.getElem?_of_mem hm'
      rw [ih hj hm' hn.2]
      simp [valueAt, hne]
theorem bools_rep : ∀ n : Nat, LSm.BoolsAre (List.replicate n (Value.bool true)) (List.replicate n true)
  | 0 => .nil
  | n + 1 => .cons _ (bools_rep n)
theorem plain_spec {w : World} {A₀ A : Around} {base h₀ : Heap} {outer : List Env} {env : Env} {L : Addr} {m mg mb : Str → Option Value} {p : Program} {loose : List Str} {mean : ExcName → Option Value}
    {s : Shared} {news cl : List (Addr × Obj)} {R : Result → Shared → Prop} {v : NetV} {E : Edges}
    (B : Below A₀ base outer h₀) (F : Fr h₀ L s.heap m) (X₀ : (hd.heap_39 w.params).In h₀) (N : News h₀ L s.heap news) (T : Top p loose mean mg mb h₀)
    (hA : A.frames = some (env :: outer)) (hf : env.frame = some L) (hke : env.scope.kind = .function) (hroom : A.depth < 800) (hH : A.handled = none)
    (I : v.In w news) (O : v.Ok w cl E) (h6 : Six E)
    (k : ∀ h' tk, Fr h₀ L h' m → News h₀ L h' news → R (.ok (.ret (.bool true))) { s with heap := h', toks := tk }) :
    codeAny (model PR w) A (.call (.ref 220) ⟨[.ref v.self], []⟩) R s := by
  obtain ⟨aH, aD, aF, aG, aU⟩ := A
  dsimp only at hA hroom hH
  subst hA hH
  have hlen := (O.lens h6).1
  obtain ⟨n1, n2, n3, n4⟩ := I
  obtain ⟨lo1, lo2, hoc, hod, hD, hC, hO⟩ := O
  refine' code_def B F X₀ N T rfl hf hke ?k6 ?k7 (Nat.lt_of_lt_of_le hroom (by decide)) ?k9 ?kB ?_ ?c2 ?c3 ?c4 ?c5
  case k6 => k_is
  case k7 => k_is
  case k9 => exact BindsTo.of_eq rfl
  case kB => exact locs rfl
  case c2 => exact rfl
  case c3 => exact rfl
  case c4 => exact rfl
  case c5 => decide
  intro g L' h₁ FG F' N' B' X' T'
  clear B F X₀ N T FG
  k_fold
  k_steps
  rename Fr _ _ _ _ => lF
  rename News _ _ _ _ => lN
  refine src_values (knd := intKind PR w) (fun nw => ∀ p ∈ news, p ∈ nw) rfl lF lN (.head _) (fun nw h => h _ n3) (fun p hp => .tail _ hp) hod (by rw [sizeLine_eq]; omega) fun g' => ?_
  refine compRest_inv (fun i ys nw => ys = List.replicate i (.bool true) ∧ (∀ p ∈ news, p ∈ nw)) ?turn ?done _ 0 [] _ (Nat.zero_add _) ⟨rfl, fun p hp => .tail _ hp⟩
  case turn =>
    rintro i ys nws v I oI C oC D m₂ h tk E' hi ⟨rfl, hs⟩ ⟨k', hk'⟩ hC hx F N off ne
    obtain ⟨t, rfl⟩ := dist_val hod hD hk'
    clear lF lN k
    k_steps
    rename Fr _ _ _ _ => lF
    rename News _ _ _ _ => lN
    exact LCg.CompEnd.intro lF lN nws (fun p hp => hp) off hs ⟨by rw [List.replicate_succ']; rfl, hs⟩
  case done =>
    rintro ys nws ⟨rfl, hs⟩
    k_steps
    rename Fr _ _ _ _ => lF
    rename News _ _ _ _ => lN
    refine LSm.all_bools (bs := List.replicate v.dv.length true) lF lN rfl (PySem.IsL.isList (n := (List.replicate v.dv.length (Value.bool true)).length) (lN _ (.head _)).1) (bools_rep _) fun h3 tk3 F3 N3 => ?_
    have e : (List.replicate v.dv.length true).all id = true := by simp
    rw [e]
    clear lF lN
    k_steps
    refine' leaveK_ ?k1 ?k2 ?_; (case k1 => k_asm); (case k2 => k_asm)
    intro qF qN
    exact k _ _ qF (fun p hp => qN p (.tail _ (hs p hp)))

end
section -- TurnA
open PySem PySem.W PyProof.Rows PySem.Calls
set_option maxRecDepth 100000
set_option maxHeartbeats 8000000
local macro_rules | `(tactic| walk_at "no such line") => `(tactic| skip)
local macro_rules | `(tactic| walk_at "no such line") => `(tactic| skip)
local macro_rules | `(tactic| walk_at "no such line") => `(tactic| skip)
local macro_rules | `(tactic| walk_at "no such line") => `(tactic| skip)
local macro_rules | `(tactic| walk_at "no such line") => `(tactic| skip)
local macro_rules | `(tactic| walk_at "no such line") => `(tactic| skip)
local macro_rules | `(tactic| walk_at "no such line") => `(tactic| skip)
local macro_rules | `(tactic| walk_at "no such line") => `(tactic| skip)
local macro_rules | `(tactic| walk_at "no such line") => `(tactic| skip)
local macro_rules | `(tactic| walk_at "no such line") => `(tactic| skip)
theorem kfill_TurnA : (PySem.Challenge.rw_vs0022_03 = PySem.Challenge.rw_vs0022_03) ∧ (hd.heap_39 = hd.heap_39) := by
  w_top off
  k_fill
  exact ⟨rfl, rfl⟩
local macro_rules | `(tactic| passes_own) => `(tactic| assumption)
local macro_rules | `(tactic| walk_at "call ref") => `(tactic| (k_here; (with_reducible show wpAny _ _ (call (Value.ref 220) [Value.ref _]) _ _ _); k_dflt (refine' wpAny_call (plain_spec ?B ?F ?X ?N ?T ?hA ?hf ?hke ?hr ?hH ?I ?O ?h6 ?_); (case B => k_asm); (case F => k_asm); (case X => k_asm); (case N => k_asm); (case T => k_asm); (case hA => exact rfl); (case hf => exact rfl); (case hke => exact rfl); (case hr => (simp only [depth_deeper, depth_in1, depth_caller]; decide)); (case hH => exact rfl); (case I => exact NetV.In.mono (by assumption) (fun p hp => by repeat (first | exact hp | refine List.mem_cons_of_mem _ ?_))); (case O => assumption); (case h6 => assumption)); intro h' tk' F' N'; (try dsimp only)))
local macro_rules | `(tactic| walk_at "call ref") => `(tactic| (k_here; (with_reducible show wpAny _ _ (call (Value.ref 159) _) _ _ _); k_dflt (refine' wpAny_call (checkVb ?hb ?B ?F ?X ?N ?T ?hA ?hf ?hke ?hr ?I ?_); (case hb => assumption); (case B => k_asm); (case F => k_asm); (case X => k_asm); (case N => k_asm); (case T => k_asm); (case hA => exact rfl); (case hf => exact rfl); (case hke => exact rfl); (case hr => (simp only [depth_deeper, depth_in1, depth_caller]; decide)); (case I => exact NetV.In.mono (by assumption) (fun p hp => by repeat (first | exact hp | refine List.mem_cons_of_mem _ ?_)))); intro h' tk' F' N'; (try dsimp only)))
local macro_rules | `(tactic| walk_at "call builtin:len") => `(tactic| refine stop_here ?_)
section
variable {w : World} {base h₀ : Heap} {L : Nat} {fa : Addr} {cd : Value} {s : Shared} {mg mb : Str → Option Value} {p : Program} {loose : List Str} {mean : ExcName → Option Value} {Q : Flow → Shared → Prop} {E : Value → Shared → Prop} {o2 : Obj} {tl : List Stmt}
theorem turnA {u : Str → Option Value} {U : Int} {tU : Tok} {st rA kA : Addr} {r : List (Addr × Obj)} {I : Addr} {it : Obj} {pt : Pt} {row : List Nat} {v : NetV} {ta ra ba sa da : Addr} {rv : List Value} {so bo : Obj} {y0 y1 y2 : Tok} {cv : Option Value}
    (B : Below callerA base [] h₀) (F : Fr h₀ L s.heap u) (X₀ : (hd.heap_39 w.params).In h₀) (T : Top p loose mean mg mb h₀) (hE : PassesOwn (model PR w) (lawA L fa cd) (lawEnv L fa cd) E)
    (hm : MHas u (basePs U tU st rA kA))
    (N : News h₀ L s.heap ((I, it) :: (L+1+1, o2) :: r)) (nd : ND ((I, it) :: (L+1+1, o2) :: r)) (c2 : o2.data = .cell cv) (R : RowHas w r pt row v ta ra ba sa da rv so bo y0 y1 y2) (h6 : Six pt.E) (hl : row.length ≤ 4) (hz : pt.S.length ≤ 16) (hsat : v.sat = decide (0 < pt.S.length))
    (k : ∀ h' tk m' o2' y3 y4, Fr h₀ L h' m' → MHas m' (turnPs U tU st rA kA ra pt.spot y3 ba sa da row.length y4) →
      o2'.data = .cell (some (.ref v.self)) → News h₀ L h' ((I, it) :: (L+1+1, o2') :: r) →
      wpAny (model PR w) (lawA L fa cd) (execs tl (lawEnv L fa cd)) Q E { s with heap := h', toks := tk }) :
    wpAny (model PR w) (lawA L fa cd) (assign lF7.val.1 (lawEnv L fa cd) (.ref ta)) (fun _ s₂ => wpAny (model PR w) (lawA L fa cd) (execs (t0.hd :: t1.hd :: tl) (lawEnv L fa cd)) Q E s₂) E s := by
  dsimp only [lawA, lawEnv, lawG, lF7, t0, t1] at hE k ⊢
  obtain ⟨u, rfl⟩ := kst_all (m := u) hm
  dsimp only [basePs, kstB] at F
  obtain ⟨x1, x2, x3, x4, x5, x6, x7, x8, x9, x10, x11, x12⟩ := R
  dsimp only [tup6, tupO] at x1 x2
  have i1 := x4.i1
  have i2 := x4.i2
  obtain ⟨ndI, nd2⟩ := nd_c.mp nd
  obtain ⟨ndL, ndr⟩ := nd_c.mp nd2
  have ⟨neI, ndI2⟩ := all_cons.mp ndI
  k_steps
  unfold Stop
  rename Fr _ _ _ _ => lF
  rename News _ _ _ _ => lN
  have hlen : rv.length = row.length := by rw [x3.length, List.length_map]
  refine ktm_lenK (k := (row.length : Int)) lN (.tail _ (.tail _ x2)) (by omega) (by omega) ?_

  k_steps
  unfold Stop
  rename Fr _ _ _ _ => lF
  rename News _ _ _ _ => lN
  refine pt_len lN (.tail _ (.tail _ x7)) x8 x9 (by omega) ?_
  have hb : v.sat = decide ((0 : Int) < (pt.S.length : Int)) := by rw [hsat]; exact decide_eq_decide.mpr (by omega)
  k_steps
  · exfalso
    rename ((_ != _) = true) => hb2
    rw [← hsat, ← hb] at hb2
    simp at hb2
  · exact k _ _ _ _ _ _ lF (by repeat (first | exact MHas.nil | refine MHas.cons rfl ?_)) (by assumption) lN
end

end
section -- StepL3
open PySem PySem.W PyProof.Rows PySem.Calls
set_option maxRecDepth 100000
set_option maxHeartbeats 8000000
local macro_rules | `(tactic| walk_at "no such line") => `(tactic| skip)
local macro_rules | `(tactic| walk_at "no such line") => `(tactic| skip)
local macro_rules | `(tactic| walk_at "no such line") => `(tactic| skip)
local macro_rules | `(tactic| walk_at "no such line") => `(tactic| skip)
local macro_rules | `(tactic| walk_at "no such line") => `(tactic| skip)
local macro_rules | `(tactic| walk_at "no such line") => `(tactic| skip)
local macro_rules | `(tactic| walk_at "no such line") => `(tactic| skip)
local macro_rules | `(tactic| walk_at "no such line") => `(tactic| skip)
local macro_rules | `(tactic| walk_at "no such line") => `(tactic| skip)
local macro_rules | `(tactic| walk_at "no such line") => `(tactic| skip)
local macro_rules | `(tactic| walk_at "no such line") => `(tactic| skip)
local macro_rules | `(tactic| walk_at "no such line") => `(tactic| skip)
local macro_rules | `(tactic| walk_at "no such line") => `(tactic| skip)
local macro_rules | `(tactic| walk_at "no such line") => `(tactic| skip)
theorem kfill_StepL3 : (PySem.Challenge.rw_vs0022_03 = PySem.Challenge.rw_vs0022_03) ∧ (hd.heap_39 = hd.heap_39) := by
  w_top off
  k_fill
  exact ⟨rfl, rfl⟩
/-- the list of steps as it stands in a ledger -/
structure StepsAt (r : List (Addr × Obj)) (ds : Nat → Stp) (st : Addr) : Prop where
  ex : ∃ (sv : List Value) (sn : Nat), (st, listOf sv.toArray sn) ∈ r ∧ ∀ e : Nat, e < 4 → ∃ a t1 t2 t3 t4 t5, sv[e]? = some (.ref a) ∧ (a, stpT (ds e) t1 t2 t3 t4 t5) ∈ r
theorem StepsAt.mono {r r' : List (Addr × Obj)} {ds : Nat → Stp} {st : Addr} (hs : ∀ q ∈ r, q ∈ r') (h : StepsAt r ds st) : StepsAt r' ds st := by
  obtain ⟨sv, sn, h1, h2⟩ := h.ex
  refine ⟨sv, sn, hs _ h1, fun e he => ?_⟩
  obtain ⟨a, t1, t2, t3, t4, t5, q1, q2⟩ := h2 e he
  exact ⟨a, t1, t2, t3, t4, t5, q1, hs _ q2⟩
theorem row_item {prog : Program} {w : World} {A : Around} {E : Value → Shared → Prop} {s : Shared} {value slice : Expr} {Q : Value → Shared → Prop} {h₀ : Heap} {L l : Addr} {news : List (Addr × Obj)} {vs : List Value} {x : Value} {k : Int} {i : Nat} {t : Tok} (N : News h₀ L s.heap news) (hm : (l, tupO vs) ∈ news) (hk : k = (i : Int)) (hi : i < 100) (hx : vs[i]? = some x) (h : Q x s)
    (hs : subscripted slice false (.ref l) (.int k t) = operate [.ref l, .int k t] (getItem (.ref l) (.int k t)) := by with_unfolding_all rfl) :
    wpAny (model prog w) A (subscriptTail value slice (.ref l) (.int k t)) Q E s := by
  have hl : IsTup s.heap l vs.toArray := ⟨_, (N _ hm).1, rfl, 0, rfl⟩
  have hlt : i < vs.length := by
    rw [List.getElem?_eq_some_iff] at hx
    exact hx.1
  refine tail_any hl.typeIs slot_tuple_getitem.lookup (getItem_tuple hl (j := i) (x := x) (by omega) (by omega) ?_ (by simpa using hx) h) hs
  unfold seqIndex?
  rw [hk]
  simp only [show ¬ ((i : Int) < 0) by omega, if_false]
  rw [if_pos]
  · simp
  · simp only [Bool.and_eq_true, decide_eq_true_eq, List.size_toArray]
    omega
def wF : Got (forAll s3.hd) := ⟨(_, _, _), rfl⟩
def w0 : Uncons wF.val.2.2 := ⟨_, _, rfl⟩
def w1 : Uncons w0.tl := ⟨_, _, rfl⟩
def w2 : Uncons w1.tl := ⟨_, _, rfl⟩
def w3 : Uncons w2.tl := ⟨_, _, rfl⟩
def w4 : Uncons w3.tl := ⟨_, _, rfl⟩
theorem w_end : w4.tl = [] := rfl
def wT : Got (ifBody w2.hd) := ⟨(_, _), rfl⟩
section
variable {w : World} {g : Heap} {L : Nat} {fa : Addr} {cd : Value} {m : Str → Option Value} {s : Shared} {news : List (Addr × Obj)} {E : Value → Shared → Prop} {d : Stp} {rd U : Int} {t1 t2 t3 t4 : Tok}
theorem t_win {Q : Bool → Shared → Prop} (F : Fr g L s.heap m) (N : News g L s.heap news) (m1 : m (Str.ofString "low") = some (.int d.low t1)) (m2 : m (Str.ofString "high") = some (optV d.high t2)) (m3 : m (Str.ofString "read") = some (.int rd t3)) (m4 : m (Str.ofString "unit") = some (.int U t4))
    (ok : StpOk d) (hlo : d.low * U ≤ rd) (hhi : ∀ x, d.high = some x → rd ≤ x * U) (k : ∀ tk, Q false { s with toks := tk }) :
    wpAny (model PR w) (lawA L fa cd) (isTrue wT.val.1 (lawEnv L fa cd) (eval wT.val.1 (lawEnv L fa cd))) Q E s := by
  dsimp only [lawA, lawEnv, lawG, wT]
  obtain ⟨m, rfl⟩ := kst_all (m := m) (ps := [(Str.ofString "low", _), (Str.ofString "high", _), (Str.ofString "read", _), (Str.ofString "unit", _)]) (List.forall_mem_cons.mpr ⟨m1, List.forall_mem_cons.mpr ⟨m2, List.forall_mem_cons.mpr ⟨m3, List.forall_mem_cons.mpr ⟨m4, fun _ h => nomatch h⟩⟩⟩⟩)
  dsimp only [kstB] at F
  obtain ⟨okc, ok0, ok2, okh, okf, oks⟩ := ok
  generalize d.low = lw at *
  cases hh : d.high with
  | none =>
    rw [hh] at F
    dsimp only [optV] at F
    k_steps
    all_goals first | exact k _ | (exfalso; omega)
  | some x =>
    rw [hh] at F
    dsimp only [optV] at F
    obtain ⟨hx1, hx2⟩ := okh x hh
    have hx3 := hhi x hh
    k_steps
    all_goals first | exact k _ | (exfalso; omega)
end

end
section -- PairMin
open PySem PySem.W PyProof.Rows PySem.Calls
set_option maxRecDepth 100000
set_option maxHeartbeats 4000000
section
variable {prog : Program} {w : World} {A : Around} {E : Value → Shared → Prop} {s : Shared}
theorem meets_raw_values {d : Addr} (hd : (d == sysModules) = false) :
    MeetsIn prog w (Builtin.«dict.values» ⟨[.ref d], []⟩) (fun _ R s => (∃ es ep, DRaw s.heap d es ep) ∧
      R (.ok (.ret (.ref s.heap.objs.size))) { s with heap := s.heap.push { cls := .type "dict_values", data := .fields #[.ref d] } }) :=
  .of_wp fun A R s ⟨⟨es, ep, hm⟩, h⟩ => by
    refine wpAny_bind ?_
    unfold Builtin.Dict.noArgs
    refine wpAny_bind (wpAny_notOrdered_dict hm.typeIs ?_)
    show wpAny _ _ (pure d) _ _ s
    refine wpAny_pure ?_
    show wpAny _ _ (Builtin.Dict.showsAll d >>= _) _ _ s
    unfold Builtin.Dict.showsAll
    rw [if_neg (by rw [hd]; exact Bool.false_ne_true)]
    refine wpAny_bind (wpAny_pure ?_)
    exact wpAny_bind (wpAny_newObj_type (wpAny_pure ⟨_, rfl, h⟩))
theorem rawv_iter {v d : Addr} {es : Array DictEntry} {ep : Nat} {Q : Value → Shared → Prop} (hv : s.heap.IsValuesView v d) (hm : DRaw s.heap d es ep)
    (hQ : Q (.ref s.heap.objs.size) { s with heap := s.heap.push { cls := .type "dict_valueiterator", data := .fields #[.ref d, .int 0 0, .int es.size 0, .int ep 0] } }) :
    wpAny (model prog w) A (pyIter (.ref v)) Q E s := by
  obtain ⟨ov, hov, hcv, hdv⟩ := id hv
  obtain ⟨o, ho, hc, hdat⟩ := id hm
  refine wpAny_pyIter_slot hv.typeIs F.slot_dict_values_iter (wpAny_call_entry F.slot_dict_values_iter hv.typeIs F.entry_dict_values_iter ?_ (F.args_dict_values_iter_1 _))
  unfold Builtin.«dict_values.__iter__»
  refine wpAny_bind (wpAny_pure ?_)
  refine wpAny_bind ?_
  unfold Builtin.Dict_items.dictOf
  refine wpAny_bind (wpAny_field hov hdv (x := .ref d) rfl (wpAny_pure ?_))
  refine wpAny_bind ?_
  unfold Builtin.Dict_items.newIterator
  refine wpAny_bind (wpAny_dictEntries ho hdat ?_)
  refine wpAny_bind (wpAny_dictEpoch ho hdat ?_)
  have hown : Builtin.Dict_items.ownsTuple "dict_valueiterator" = false := by decide
  simp only [hown, Bool.false_eq_true, if_false]
  refine wpAny_newObj_type (wpAny_pure ⟨_, rfl, "dict_valueiterator", _, ⟨_, Heap.get?_push_size _ rfl, rfl⟩, F.slot_dict_valueiterator_next.lookup, ?_⟩)
  simpa [rawInt] using hQ
theorem rawv_next {it d : Addr} {i ep : Nat} {es : Array DictEntry} {e : DictEntry} {Q : Option Value → Shared → Prop} (hit : s.heap.IsValIter it d i es.size ep) (x : DRaw s.heap d es ep) (hx : es[i]? = some e)
    (hQ : ∀ h', h'.IsValIter it d (i + 1) es.size ep → Heap.SameBut it s.heap h' → Q (some e.val) { s with heap := h' }) :
    wpAny (model prog w) A (pyNext (.ref it)) Q E s := by
  obtain ⟨o, ho, hc, hd⟩ := id hit
  obtain ⟨od, hod, hcd, hdd⟩ := id x
  unfold pyNext
  refine wpAny_bind (wpAny_attempt (wpAny_callSpecial?_slot (name := Str.ofString "__next__") hit.typeIs F.slot_dict_valueiterator_next
    (wpAny_call_entry F.slot_dict_valueiterator_next hit.typeIs F.entry_dict_valueiterator_next ?_ (F.args_dict_valueiterator_next_1 _))))
  refine wpAny_bind (wpAny_pure (wpAny_bind (wpAny_bind ?_)))
  first | refine wpAny_bind (wpAny_typeNameOfWhole_valiter hit.typeIs (wpAny_pure ?_)) | refine wpAny_bind (wpAny_typeNameOf_valiter hit.typeIs (wpAny_pure ?_))
  refine wpAny_bind (wpAny_fieldsOf ho hd ?_)
  simp only [show Builtin.Dict_items.ownsTuple "dict_valueiterator" = false by decide, Bool.false_eq_true, if_false]
  show wpAny _ _ (if (Value.ref d == Value.none) = true then _ else _) _ _ s
  rw [if_neg (show ¬ ((Value.ref d == Value.none) = true) from Bool.false_ne_true)]
  refine wpAny_bind (wpAny_pure (wpAny_bind (wpAny_dictEntries hod hdd ?_)))
  rw [if_neg (by simp)]
  refine wpAny_bind (wpAny_pure (wpAny_bind (wpAny_dictEpoch hod hdd ?_)))
  rw [if_neg (by simp)]
  refine wpAny_pure ?_
  simp only [show ¬ ((i : Int) < 0) from by omega, if_false, Int.toNat_natCast, hx]
  refine wpAny_bind ?_
  first | refine wpAny_bind (wpAny_typeNameOfWhole_valiter hit.typeIs (wpAny_pure ?_)) | refine wpAny_bind (wpAny_typeNameOf_valiter hit.typeIs (wpAny_pure ?_))
  refine wpAny_bind (wpAny_isOneOf_valiter hit.typeIs ?_)
  show wpAny _ _ (setField (.ref it) 1 (rawInt ((i : Int) + 1)) >>= _) _ _ s
  refine wpAny_bind (wpAny_setField ho hd (by simp) ?_)
  have hit' : (s.heap.update it (Obj.mapFields (·.setIfInBounds 1 (rawInt ((i : Int) + 1))))).IsValIter it d (i + 1) es.size ep :=
    ⟨_, Heap.get?_update_self _ ho (Obj.isFreed_of_fields (Obj.data_mapFields hd _)), (Obj.cls_mapFields ..).trans hc, by rw [Obj.data_mapFields hd]; simp [rawInt]⟩
  refine wpAny_bind (wpAny_holding ?_)
  refine wpAny_bind (wpAny_isOneOf_valiter (s := { s with heap := s.heap.update it (Obj.mapFields (·.setIfInBounds 1 (rawInt ((i : Int) + 1)))) }) hit'.typeIs ?_)
  refine wpAny_bind (wpAny_isOneOf_valiter (s := { s with heap := s.heap.update it (Obj.mapFields (·.setIfInBounds 1 (rawInt ((i : Int) + 1)))) }) hit'.typeIs ?_)
  show wpAny _ _ (pure e.val) _ _ _
  exact wpAny_pure (wpAny_pure ⟨_, rfl, wpAny_pure (hQ _ hit' (Heap.SameBut.update ..))⟩)
theorem rawv_end {it d : Addr} {ep : Nat} {es : Array DictEntry} {Q : Option Value → Shared → Prop} (hh : A.handled = none) (hit : s.heap.IsValIter it d es.size es.size ep) (x : DRaw s.heap d es ep)
    (hQ : ∀ h', Heap.ExtBut it s.heap h' → Q none { s with heap := h' }) : wpAny (model prog w) A (pyNext (.ref it)) Q E s := by
  obtain ⟨o, ho, hc, hd⟩ := id hit
  obtain ⟨od, hod, hcd, hdd⟩ := id x
  unfold pyNext
  refine wpAny_bind (wpAny_attempt (wpAny_callSpecial?_slot (name := Str.ofString "__next__") hit.typeIs F.slot_dict_valueiterator_next
    (wpAny_call_entry F.slot_dict_valueiterator_next hit.typeIs F.entry_dict_valueiterator_next ?_ (F.args_dict_valueiterator_next_1 _))))
  refine wpAny_bind (wpAny_pure (wpAny_bind (wpAny_bind ?_)))
  first | refine wpAny_bind (wpAny_typeNameOfWhole_valiter hit.typeIs (wpAny_pure ?_)) | refine wpAny_bind (wpAny_typeNameOf_valiter hit.typeIs (wpAny_pure ?_))
  refine wpAny_bind (wpAny_fieldsOf ho hd ?_)
  simp only [show Builtin.Dict_items.ownsTuple "dict_valueiterator" = false by decide, Bool.false_eq_true, if_false]
  show wpAny _ _ (if (Value.ref d == Value.none) = true then _ else _) _ _ s
  rw [if_neg (show ¬ ((Value.ref d == Value.none) = true) from Bool.false_ne_true)]
  refine wpAny_bind (wpAny_pure (wpAny_bind (wpAny_dictEntries hod hdd ?_)))
  rw [if_neg (by simp)]
  refine wpAny_bind (wpAny_pure (wpAny_bind (wpAny_dictEpoch hod hdd ?_)))
  rw [if_neg (by simp)]
  refine wpAny_pure ?_
  simp only [show ¬ ((es.size : Int) < 0) from by omega, if_false, Int.toNat_natCast, Array.getElem?_eq_none (Nat.le_refl _)]
  refine wpAny_bind ?_
  first | refine wpAny_bind (wpAny_typeNameOfWhole_valiter hit.typeIs (wpAny_pure ?_)) | refine wpAny_bind (wpAny_typeNameOf_valiter hit.typeIs (wpAny_pure ?_))
  show wpAny _ _ (setField (.ref it) 0 .none >>= _) _ _ s
  refine wpAny_bind (wpAny_setField ho hd (by simp) ?_)
  show wpAny _ _ (newExc (.type "StopIteration") [] >>= _) _ _ _
  refine wpAny_bind ?_
  simp only [newExc, newTuple]
  refine wpAny_bind (wpAny_newObj_type ?_ (by size_fits))
  refine wpAny_bind (m := firstArgMember _ _) (wpAny_of_eq (a := Value.none) (by first | rfl | (simp only [firstArgMember]; rfl)) ?_)
  refine wpAny_newObj_type ?_ (by size_fits)
  simp only [raiseNew]
  refine wpAny_bind (wpAny_handled ?_)
  rw [show A.in1.handled = none from hh]
  refine wpAny_bind (wpAny_pure (wpAny_throw ?_))
  refine wpAny_bind (wpAny_isInstance (T := "StopIteration") (b := true) ⟨_, Heap.get?_push_size _ rfl, rfl⟩ isSubtype_stop ?_)
  exact wpAny_pure (hQ _ (((Heap.SameBut.update ..).extBut.push _).push _))
theorem rawv_walks (hh : A.handled = none) (I d : Addr) (hne : d ≠ I) (es : Array DictEntry) (ep : Nat) :
    Walks prog w A I [I, d] [I] es.size (fun i v => ∃ e, es[i]? = some e ∧ v = e.val) (fun i h => h.IsValIter I d i es.size ep ∧ DRaw h d es ep) where
  sub := fun b hb => by simp at hb; simp [hb]
  frame := fun _ _ _ st hk => ⟨let ⟨o, e, r⟩ := st.1; ⟨o, hk I (by simp) o e, r⟩, let ⟨o, e, r⟩ := st.2; ⟨o, hk d (by simp) o e, r⟩⟩
  item := fun i s Q E hi st hQ => by
    refine rawv_next st.1 st.2 (e := es[i]) (by simp [hi]) fun h' hit' hs' => ?_
    exact hQ _ h' s.toks ⟨es[i], by simp [hi], rfl⟩ ⟨hit', let ⟨o, e, r⟩ := st.2; ⟨o, hs'.extBut _ _ hne e, r⟩⟩ fun b o hb e => hs'.extBut b o (fun h => hb (by simp [h])) e
  done := fun s Q E st hQ => rawv_end hh st.1 st.2 fun h' he' => hQ h' s.toks fun b o hb e => he' b o (fun h => hb (by simp [h])) e
  self := fun _ _ _ _ st hQ => wpAny_pyIter_valiter st.1 hQ
end
section
variable {w : World} {A : Around} {E : Value → Shared → Prop} {s : Shared} {h₀ : Heap} {L d : Addr} {m : Str → Option Value} {news led : List (Addr × Obj)} {o : Obj} {ts : Ties}
theorem pt_values {Q : Value → Shared → Prop} (F : Fr h₀ L s.heap m) (N : News h₀ L s.heap news) (hm : (d, o) ∈ news) (P : PTab w led o ts) (lo : (d == sysModules) = false)
    (h : ∀ (D : Addr) h', Fr h₀ L h' m → News h₀ L h' ((D, { cls := .type "dict_values", data := .fields #[.ref d] }) :: news) → (∀ q ∈ news, q.1 < D) → Q (.ref D) { s with heap := h' }) :
    wpAny (model PR w) A (call (.builtin "dict.values") [.ref d]) Q E s := by
  obtain ⟨es, ep, x, _⟩ := P.raw (N.get hm)
  exact call_meetsIn PySem.F.slot_dict_values x.typeIs PySem.F.entry_dict_values (PySem.F.args_dict_values_1 _) (meets_raw_values lo) ⟨⟨es, ep, x⟩, h _ _ (F.push _) (News.push F N _) fun q hq => Heap.lt_size (N q hq).1⟩
theorem pt_min {Q : Value → Shared → Prop} {D : Addr} (hh : A.handled = none) (F : Fr h₀ L s.heap m) (N : News h₀ L s.heap news) (hv : (D, ({ cls := .type "dict_values", data := .fields #[.ref d] } : Obj)) ∈ news) (hm : (d, o) ∈ news) (P : PTab w led o ts) (hne : 0 < ts.length)
    (h : ∀ h' M (t : Tok) tk, Fr h₀ L h' m → News h₀ L h' news → M ∈ ts.map (·.2) → (∀ a, a ∈ ts.map (·.2) → M ≤ a) → Q (.int M t) { s with heap := h', toks := tk }) :
    wpAny (model PR w) A (call (.builtin "min") [.ref D]) Q E s := by
  obtain ⟨es, ep, xs, q1, q2, q3, hn, hP⟩ := P.ex
  have hd : DRaw s.heap d es ep := ⟨o, N.get hm, q1, q2⟩
  have hV : s.heap.IsValuesView D d := ⟨_, N.get hv, rfl, rfl⟩
  have hlt : d < s.heap.objs.size := Heap.lt_size (N.get hm)
  have hne' : d ≠ s.heap.objs.size := Nat.ne_of_lt hlt
  have hsz : es.size = ts.length := by rw [← Array.length_toList, q3, List.length_map, hP.len]
  have hval : ∀ (i : Nat) (v : Value), (∃ e : DictEntry, es[i]? = some e ∧ v = e.val) → ∃ t, v = Value.int ((ts.map (·.2)).getD i 0) t := by
    rintro i v ⟨e, he, rfl⟩
    rw [← Array.getElem?_toList, q3, List.getElem?_map, Option.map_eq_some_iff] at he
    obtain ⟨x, hx, rfl⟩ := he
    obtain ⟨a, u, v, b, t1, t2, t3, n, rfl, h1, h2⟩ := hP.at' hx
    exact ⟨t3, by rw [List.getD, List.getElem?_map, h1]; rfl⟩
  refine call_min_walk (rawv_iter hV hd ⟨_, _, _, _, _, _, _, rfl, rawv_walks (A := A.in1) hh _ d hne' es ep, ⟨⟨_, Heap.get?_push_size _ rfl, rfl, rfl⟩, let ⟨o, e, r⟩ := hd; ⟨o, Heap.get?_push_of_some _ e, r⟩⟩, fun b hb => ?_, by omega, CmpOf.ints_lt (fun i => (ts.map (·.2)).getD i 0) hval, fun v h' tk hP' hk => ?_⟩)
  · show b < (s.heap.push _).objs.size
    rw [Heap.size_push]
    rcases List.mem_cons.mp hb with rfl | hb
    · exact Nat.lt_succ_self _
    · rcases List.mem_cons.mp hb with rfl | hb
      · exact Nat.lt_succ_of_lt hlt
      · cases hb
  · obtain ⟨t, rfl⟩ := hval _ _ hP'
    obtain ⟨h1, h2⟩ := argBest_lt (fun i => (ts.map (·.2)).getD i 0) (es.size - 1)
    have hk' : ∀ b o, s.heap.get? b = some o → h'.get? b = some o := fun b o e => hk b o (fun hm => by
      rcases List.mem_cons.mp hm with e1 | hm
      · exact absurd (e1 ▸ Heap.lt_size e) (Nat.lt_irrefl _)
      · cases hm) (Heap.get?_push_of_some _ e)
    refine h _ _ t tk (F.grownK hk') (N.grown hk') (getD_mem (by rw [List.length_map]; omega)) fun a ha => ?_
    obtain ⟨j, hj, rfl⟩ := mem_getD ha
    rw [List.length_map] at hj
    exact h2 j (by omega)
end

end
section -- TurnB1
open PySem PySem.W PyProof.Rows PySem.Calls
set_option maxRecDepth 100000
set_option maxHeartbeats 8000000
local macro_rules | `(tactic| walk_at "no such line") => `(tactic| skip)
local macro_rules | `(tactic| walk_at "no such line") => `(tactic| skip)
local macro_rules | `(tactic| walk_at "no such line") => `(tactic| skip)
local macro_rules | `(tactic| walk_at "no such line") => `(tactic| skip)
local macro_rules | `(tactic| walk_at "no such line") => `(tactic| skip)
local macro_rules | `(tactic| walk_at "no such line") => `(tactic| skip)
theorem kfill_TurnB1 : (PySem.Challenge.rw_vs0022_03 = PySem.Challenge.rw_vs0022_03) ∧ (hd.heap_39 = hd.heap_39) := by
  w_top off
  k_fill
  exact ⟨rfl, rfl⟩
local macro_rules | `(tactic| passes_own) => `(tactic| assumption)
local macro_rules | `(tactic| walk_at "exec Assign cons ListComp") => `(tactic| (k_here; k_dflt (refine LCg.Assign_ListComp_U (F₀ := by k_asm) (by rfl) (by with_unfolding_all rfl) (by with_unfolding_all rfl) (by decide) (by rfl) (by decide) (by rfl) (by rfl) (by rfl) ?_)))
local macro_rules | `(tactic| walk_at "call ref") => `(tactic| ((with_reducible show wpAny _ _ (call (Value.ref 166) _) _ _ _); (refine stop_here ?_)))
local macro_rules | `(tactic| walk_at "CompSrc") => `(tactic| refine stop_here ?_)
local macro_rules | `(tactic| walk_at "call builtin:min") => `(tactic| refine stop_here ?_)
local macro_rules | `(tactic| walk_at "call builtin:sorted") => `(tactic| refine stop_here ?_)
local macro_rules | `(tactic| walk_at "compareOp NotEq ref ref") => `(tactic| refine stop_here ?_)
local macro_rules | `(tactic| walk_at "subscriptTail") => `(tactic| (k_here; (with_reducible show wpAny _ _ (subscriptTail _ _ (Value.ref _) (Value.int _ _)) _ _ _); k_dflt (refine ksa_sub (by k_asm) (by k_mem) (by assumption) (by omega) (by (simp only [List.length_map, List.length_range]; omega)) (by omega) ?_); intro t'; (try dsimp only)))
local macro_rules | `(tactic| walk_at "getMethod ref") => `(tactic| (k_here; (with_reducible show wpAny _ _ (getMethod (Value.ref _) (Str.ofString "values") _) _ _ _); k_dflt (refine pt_method PySem.F.slot_dict_values PySem.F.type_dict_values (by k_asm) (by k_mem) (by assumption) (fun p hp => by repeat (first | exact hp | refine List.mem_cons_of_mem _ ?_)) ?_)))
local macro_rules | `(tactic| walk_at "call builtin:dict.values") => `(tactic| (k_here; k_dflt (refine pt_values (by k_asm) (by k_asm) (by k_mem) (by assumption) (by assumption) ?_); intro vw' h' F' N' l1; (try dsimp only)))
theorem off1_all {D : Addr} : ∀ {l : List (Addr × Obj)}, LCg.Off1 D l → ∀ p ∈ l, p.1 ≠ D
  | [], _, _, hp => nomatch hp
  | _ :: _, h, _, hp => by
    cases hp with
    | head => exact h.1
    | tail _ hp => exact off1_all h.2 _ hp
theorem range_mono {f : Nat → Int} {n : Nat} (h : ∀ i, i < n → f i ≤ f (i + 1)) : ((List.range (n + 1)).map f).Pairwise (· ≤ ·) := by
  rw [List.pairwise_map]
  refine List.Pairwise.imp_of_mem ?_ List.pairwise_lt_range
  intro i j hi hj hlt
  rw [List.mem_range] at hi hj
  have key : ∀ d, i + d ≤ n → f i ≤ f (i + d) := by
    intro d
    induction d with
    | zero => intro _; exact Int.le_refl _
    | succ d ih => intro hd; exact Int.le_trans (ih (by omega)) (h (i + d) (by omega))
  have := key (j - i) (by omega)
  rw [show i + (j - i) = j by omega] at this
  exact this
section
variable {w : World} {base h₀ : Heap} {L : Nat} {fa : Addr} {cd : Value} {s : Shared} {mg mb : Str → Option Value} {p : Program} {loose : List Str} {mean : ExcName → Option Value} {Q : Flow → Shared → Prop} {E : Value → Shared → Prop} {o2 : Obj} {tl : List Stmt}
theorem turnB1 {u : Str → Option Value} {U : Int} {tU y3 y4 : Tok} {st rA kA : Addr} {r : List (Addr × Obj)} {I : Addr} {it : Obj} {pt : Pt} {row : List Nat} {v : NetV} {ta ra ba sa da : Addr} {rv : List Value} {so bo : Obj} {y0 y1 y2 : Tok}
    (B : Below callerA base [] h₀) (F : Fr h₀ L s.heap u) (X₀ : (hd.heap_39 w.params).In h₀) (T : Top p loose mean mg mb h₀) (hE : PassesOwn (model PR w) (lawA L fa cd) (lawEnv L fa cd) E)
    (hm : MHas u (turnPs U tU st rA kA ra pt.spot y3 ba sa da row.length y4))
    (N : News h₀ L s.heap ((I, it) :: (L+1+1, o2) :: r)) (nd : ND ((I, it) :: (L+1+1, o2) :: r)) (c2 : o2.data = .cell (some (.ref v.self))) (R : RowHas w r pt row v ta ra ba sa da rv so bo y0 y1 y2) (h6 : Six pt.E) (hl : row.length ≤ 4) (hz : pt.S.length ≤ 16) (hne : 0 < pt.S.length)
    (hks : ∀ i, i ≤ row.length → (i : Int) ∈ v.ks) (hMb : ∀ M, M ∈ pt.S.map (·.2) → 0 ≤ M ∧ M ≤ 8) (hz0 : v.D 0 = 0) (hlast : ∀ M, M ∈ pt.S.map (·.2) → (∀ a, a ∈ pt.S.map (·.2) → M ≤ a) → -(v.D (row.length : Int)) = U * M) (hmono : ∀ i, i < row.length → -(v.D (i : Int)) ≤ -(v.D ((i : Int) + 1)))
    (k : ∀ h' tk m' tm tv n, Fr h₀ L h' m' → MHas m' ((Str.ofString "times", .ref tm) :: turnPs U tU st rA kA ra pt.spot y3 ba sa da row.length y4) →
      IntsAre tv ((List.range (row.length + 1)).map fun (j : Nat) => -(v.D (j : Int))) → News h₀ L h' ((tm, listOf tv.toArray n) :: (I, it) :: (L+1+1, o2) :: r) → (∀ q ∈ (I, it) :: (L+1+1, o2) :: r, q.1 ≠ tm) →
      wpAny (model PR w) (lawA L fa cd) (execs tl (lawEnv L fa cd)) Q E { s with heap := h', toks := tk }) :
    wpAny (model PR w) (lawA L fa cd) (execs (s0.hd :: s1.hd :: tl) (lawEnv L fa cd)) Q E s := by
  dsimp only [lawA, lawEnv, lawG, s0, s1] at hE k ⊢
  obtain ⟨u, rfl⟩ := kst_all (m := u) hm
  dsimp only [turnPs, kstB] at F
  obtain ⟨x1, x2, x3, x4, x5, x6, x7, x8, x9, x10, x11, x12⟩ := R
  have i1 := x4.i1
  have i2 := x4.i2
  k_steps
  unfold Stop
  rename Fr _ _ _ _ => lF
  rename News _ _ _ _ => lN
  rename IsRange _ _ _ _ _ _ _ _ => hR
  refine LCg.CompSrc.range (n := row.length + 1) (by rfl) lF lN hR ?q1 ?q2 ?q3 fun g' => ?_
  case q1 => (have e5 : row.length = 0 ∨ row.length = 1 ∨ row.length = 2 ∨ row.length = 3 ∨ row.length = 4 := by omega); rcases e5 with e | e | e | e | e <;> rw [e] <;> decide
  case q2 => (have e5 : row.length = 0 ∨ row.length = 1 ∨ row.length = 2 ∨ row.length = 3 ∨ row.length = 4 := by omega); rcases e5 with e | e | e | e | e <;> rw [e] <;> decide
  case q3 => (rw [sizeLine_eq]; omega)
  clear lF lN hR
  refine compRest_inv (fun i ys nw => IntsAre ys ((List.range i).map fun (j : Nat) => -(v.D (j : Int))) ∧ nw = (I, it) :: (L+1+1, o2) :: r) ?turn ?done _ 0 [] _ (Nat.zero_add _) ⟨.nil, rfl⟩
  case turn =>
    rintro i ys nws x I2 oI C oC D m₂ h tk E' hi ⟨hys, rfl⟩ ⟨tx, rfl⟩ hC hx F N off ne
    k_steps
    unfold Stop
    rename Fr _ _ _ _ => lF
    rename News _ _ _ _ => lN
    refine' wpAny_call (getV (by assumption) lF (by assumption) lN (by assumption) ?hA ?hf ?hke ?hr (x4.mono fun p hp => by repeat (first | exact hp | refine List.mem_cons_of_mem _ ?_)) x5 ?hx fun h2 tk2 t2 F2 N2 => ?_)
    case hA => exact rfl
    case hf => exact rfl
    case hke => exact rfl
    case hr => simp only [depth_deeper, depth_in1, depth_caller]; decide
    case hx => exact (by have := hks i (by omega); simpa using this)
    (try dsimp only)
    clear lF lN
    k_steps
    refine LCg.CompEnd.intro F2 N2 _ (fun p hp => hp) off trivial ⟨?_, rfl⟩
    rw [List.range_succ, List.map_append, Int.zero_add]
    exact hys.append (.cons _ _ .nil)
  case done =>
    rintro ys nws ⟨hys, rfl⟩ D h tk F N off
    replace N : News h₀ L h ((D, listOf ys.toArray ys.length) :: (I, it) :: (L+1+1, o2) :: r) := N
    have egd : ∀ i : Nat, i ≤ row.length → ((List.range (row.length + 1)).map fun (j : Nat) => -(v.D (j : Int))).getD i 0 = -(v.D (i : Int)) := fun i hi => by
      rw [List.getD, List.getElem?_map, List.getElem?_range (by omega)]
      rfl
    have e0 : ((List.range (row.length + 1)).map fun (j : Nat) => -(v.D (j : Int))).getD (Int.toNat 0) 0 = 0 := by
      rw [show Int.toNat 0 = 0 from rfl, egd 0 (Nat.zero_le _)]
      show -(v.D 0) = 0
      omega
    have e1 : ((List.range (row.length + 1)).map fun (j : Nat) => -(v.D (j : Int))).getD (Int.toNat (row.length : Int)) 0 = -(v.D (row.length : Int)) := by
      rw [Int.toNat_natCast]
      exact egd _ (Nat.le_refl _)
    k_steps
    · exact absurd e0 (by assumption)
    unfold Stop
    rename Fr _ _ _ _ => lF
    rename News _ _ _ _ => lN
    refine pt_min rfl lF lN (.head _) (.tail _ (.tail _ (.tail _ (.tail _ x7)))) x8 hne fun h3 M t3 tk3 F3 N3 m1 m2 => ?_
    have eM := hlast M m1 m2
    have ⟨hM0, hM8⟩ := hMb M m1
    clear lF lN
    k_steps
    · exact absurd (e1.trans eM) (by assumption)
    unfold Stop
    rename Fr _ _ _ _ => lF
    rename News _ _ _ _ => lN
    refine kso_sorted lF lN (News.isList lN (.tail _ (.head _))) hys (by rw [List.length_map, List.length_range]; omega) fun D5 vs5 ns5 c5 h5 F5 N5 l5 i5 e5 p5 o5 _ => ?_
    have hms : ((List.range (row.length + 1)).map fun (j : Nat) => -(v.D (j : Int))) = ns5 := ksm_same p5.symm (range_mono fun i hi => by rw [show ((i + 1 : Nat) : Int) = (i : Int) + 1 by omega]; exact hmono i hi) o5
    clear lF lN
    k_steps
    unfold Stop
    rename Fr _ _ _ _ => lF
    rename News _ _ _ _ => lN
    refine ke_ne_ints (News.isList lN (.tail _ (.tail _ (.head _)))) (News.isList lN (.head _)) hys i5 (by units_room) ?_
    rw [decide_eq_true hms]
    k_steps
    rename Fr _ _ _ _ => lF
    rename News _ _ _ _ => lN
    exact k _ _ _ _ _ _ lF (by repeat (first | exact MHas.nil | refine MHas.cons rfl ?_)) hys (News.perm lN fun p hp => .tail _ (.tail _ hp)) (off1_all off)
end

end
section -- TurnB2
open PySem PySem.W PyProof.Rows PySem.Calls
set_option maxRecDepth 100000
set_option maxHeartbeats 8000000
local macro_rules | `(tactic| walk_at "no such line") => `(tactic| skip)
local macro_rules | `(tactic| walk_at "no such line") => `(tactic| skip)
local macro_rules | `(tactic| walk_at "no such line") => `(tactic| skip)
local macro_rules | `(tactic| walk_at "no such line") => `(tactic| skip)
local macro_rules | `(tactic| walk_at "no such line") => `(tactic| skip)
local macro_rules | `(tactic| walk_at "no such line") => `(tactic| skip)
local macro_rules | `(tactic| walk_at "no such line") => `(tactic| skip)
local macro_rules | `(tactic| walk_at "no such line") => `(tactic| skip)
theorem kfill_TurnB2 : (PySem.Challenge.rw_vs0022_03 = PySem.Challenge.rw_vs0022_03) ∧ (hd.heap_39 = hd.heap_39) := by
  w_top off
  k_fill
  exact ⟨rfl, rfl⟩
local macro_rules | `(tactic| passes_own) => `(tactic| assumption)
local macro_rules | `(tactic| walk_at "pyIter ref") => `(tactic| refine stop_here ?_)
local macro_rules | `(tactic| walk_at "exec For Name Call cons nil") => `(tactic| (k_here; (rename Fr _ _ _ _ => lF'); (with_unfolding_all refine' For_invVF lF' ?k1 ?k2 ?_; (case k1 => exact rfl); (case k2 => exact rfl); k_whole)))
local macro_rules | `(tactic| walk_at "subscriptTail") => `(tactic| (k_here; (with_reducible show wpAny _ _ (subscriptTail _ _ (Value.ref _) (Value.int _ _)) _ _ _); k_dflt (refine ksa_sub (by k_asm) (by k_mem) (by assumption) (by omega) (by (simp only [List.length_map, List.length_range, List.length_cons, List.length_nil]; omega)) (by omega) ?_); intro t'; (try dsimp only)))
local macro_rules | `(tactic| walk_at "subscriptTail") => `(tactic| ((first | (with_reducible show wpAny _ _ (subscriptTail (Expr.Name (Str.ofString "row") _) _ (Value.ref _) (Value.int _ _)) _ _ _) | (with_reducible show wpAny _ _ (subscriptTail (Expr.Name (Str.ofString "steps") _) _ (Value.ref _) (Value.int _ _)) _ _ _)); (refine stop_here ?_)))
local macro_rules | `(tactic| walk_at "isTrue BoolOp") => `(tactic| refine stop_here ?_)
local macro_rules | `(tactic| walk_at "setItem ref int") => `(tactic| refine stop_here ?_)
local macro_rules | `(tactic| walk_at "getMethod ref") => `(tactic| (k_here; (with_reducible show wpAny _ _ (getMethod (Value.ref _) (Str.ofString "append") _) _ _ _); k_dflt (refine' listMethod_K ?N ?m PySem.F.slot_list_append PySem.F.type_list_append ?_; (case N => k_asm); (case m => k_mem))))
local macro_rules | `(tactic| walk_at "call builtin:list.append") => `(tactic| refine stop_here ?_)
theorem upd_one {d : Addr} {o o' o0 : Obj} {l l0 : List (Addr × Obj)} (h : ND ((d, o0) :: l0)) (e : l.map (·.1) = l0.map (·.1)) : Upd d o o' ((d, o) :: l) ((d, o') :: l) :=
  .head fun q hq he => (List.nodup_cons.mp (show (d :: l.map (·.1)).Nodup from e ▸ h)).1 (he ▸ List.mem_map_of_mem hq)
theorem upd_two {I d : Addr} {it o o' o0 : Obj} {l l0 : List (Addr × Obj)} (h : ND ((d, o0) :: l0)) (e : l.map (·.1) = l0.map (·.1)) (hI : @Ne Nat I d) : Upd d o o' ((I, it) :: (d, o) :: l) ((I, it) :: (d, o') :: l) :=
  .tail hI (.head fun q hq he => (List.nodup_cons.mp (show (d :: l.map (·.1)).Nodup from e ▸ h)).1 (he ▸ List.mem_map_of_mem hq))
theorem perm_in (l0 l1 P r : List (Addr × Obj)) : (l0 ++ (l1 ++ (P ++ r))).Perm (l0 ++ (P ++ (l1 ++ r))) := by
  refine List.Perm.append_left l0 ?_
  rw [← List.append_assoc, ← List.append_assoc]
  exact List.Perm.append_right r List.perm_append_comm
theorem news_in (l0 l1 P : List (Addr × Obj)) {r : List (Addr × Obj)} {h₀ h : Heap} {L : Addr} (N : News h₀ L h (l0 ++ (l1 ++ (P ++ r)))) : News h₀ L h (l0 ++ (P ++ (l1 ++ r))) := N.perm fun _ hp => (perm_in l0 l1 P r).mem_iff.mpr hp
theorem nd_in (l0 l1 P : List (Addr × Obj)) {r : List (Addr × Obj)} (N : ND (l0 ++ (l1 ++ (P ++ r)))) : ND (l0 ++ (P ++ (l1 ++ r))) := ((perm_in l0 l1 P r).map (·.1)).nodup_iff.mp N
theorem ints_cast {vs : List Value} {ns ns' : List Int} (h : IntsAre vs ns) (e : ns = ns') : IntsAre vs ns' := e ▸ h
theorem ints_at : ∀ {vs : List Value} {ns : List Int}, IntsAre vs ns → ∀ {j : Nat} {n : Int}, ns[j]? = some n → ∃ t, vs[j]? = some (.int n t)
  | _, _, .nil, _, _, h => by simp at h
  | _, _, .cons _ t _, 0, _, h => by simp at h; subst h; exact ⟨t, rfl⟩
  | _, _, .cons _ _ r, j + 1, _, h => ints_at r (j := j) (by simpa using h)
theorem hoff_same {I : Addr} {l l0 : List (Addr × Obj)} (h : ∀ q ∈ l0, q.1 ≠ I) (e : l.map (·.1) = l0.map (·.1)) : ∀ p ∈ l, p.1 ≠ I := off_same h e
theorem ptOf_take {U : Int} {ds : Nat → Stp} {row : List Nat} {j e : Nat} (h : row[j]? = some e) : ptOf U ds (row.take (j + 1)) = nextPt U (ds e) e (ptOf U ds (row.take j)) := by
  rw [List.take_add_one, h]
  exact ptOf_snoc U ds (row.take j) e
section
variable {w : World} {base h₀ : Heap} {L : Nat} {fa : Addr} {cd : Value} {s : Shared} {mg mb : Str → Option Value} {p : Program} {loose : List Str} {mean : ExcName → Option Value} {Q : Flow → Shared → Prop} {E : Value → Shared → Prop} {o2 : Obj} {tl : List Stmt}
theorem turnB2 {u : Str → Option Value} {U : Int} {tU y3 y4 : Tok} {st rA kA : Addr} {P r : List (Addr × Obj)} {I : Addr} {it : Obj} {ds : Nat → Stp} {row : List Nat} {v : NetV} {ta ra ba sa da tm : Addr} {rv tv kv : List Value} {so bo : Obj} {y0 y1 y2 : Tok} {sp : Int} {tn kn : Nat}
    (B : Below callerA base [] h₀) (F : Fr h₀ L s.heap u) (X₀ : (hd.heap_39 w.params).In h₀) (T : Top p loose mean mg mb h₀) (hE : PassesOwn (model PR w) (lawA L fa cd) (lawEnv L fa cd) E)
    (hm : MHas u ((Str.ofString "times", .ref tm) :: turnPs U tU st rA kA ra sp y3 ba sa da row.length y4))
    (N : News h₀ L s.heap ((tm, listOf tv.toArray tn) :: (I, it) :: (L+1+1, o2) :: (kA, listOf kv.toArray kn) :: (P ++ r))) (nd : ND ((tm, listOf tv.toArray tn) :: (I, it) :: (L+1+1, o2) :: (kA, listOf kv.toArray kn) :: (P ++ r))) (c2 : o2.data = .cell (some (.ref v.self))) (R : RowHas w r (ptOf U ds row) row v ta ra ba sa da rv so bo y0 y1 y2) (hl : row.length ≤ 4)
    (S : StepsAt r ds st) (ok : ∀ e, StpOk (ds e)) (hrow : ∀ e ∈ row, e < 4) (hi : IntsAre tv ((List.range (row.length + 1)).map fun (j : Nat) => -(v.D (j : Int)))) (hz0 : v.D 0 = 0) (hsat : v.sat = true) (hkl : kv.length ≤ 20)
    (hwin : ∀ (j e : Nat), row[j]? = some e → (ds e).low * U ≤ -(v.D ((j : Int) + 1)) - -(v.D ((ptOf U ds (row.take j)).bk (ds e))) ∧ ∀ x, (ds e).high = some x → -(v.D ((j : Int) + 1)) - -(v.D ((ptOf U ds (row.take j)).bk (ds e))) ≤ x * U)
    (k : ∀ h' tk m' ka r' kn', (∀ q ∈ r, q ∈ r') → Fr h₀ L h' m' → MHas m' (turnPs U tU st rA kA ra sp y3 ba sa da row.length y4) → KeptHas w r' (ptOf U ds row) v ka tm da tv tn bo →
      News h₀ L h' ((I, it) :: (L+1+1, o2) :: (kA, listOf (kv ++ [Value.ref ka]).toArray kn') :: (P ++ r')) → ND ((I, it) :: (L+1+1, o2) :: (kA, listOf (kv ++ [Value.ref ka]).toArray kn') :: (P ++ r')) →
      wpAny (model PR w) (lawA L fa cd) (execs tl (lawEnv L fa cd)) Q E { s with heap := h', toks := tk }) :
    wpAny (model PR w) (lawA L fa cd) (execs (s2.hd :: s3.hd :: s4.hd :: tl) (lawEnv L fa cd)) Q E s := by
  dsimp only [lawA, lawEnv, lawG, s2, s3, s4] at hE k ⊢
  obtain ⟨u, rfl⟩ := kst_all (m := u) hm
  dsimp only [turnPs, kstB] at F
  obtain ⟨x1, x2, x3, x4, x5, x6, x7, x8, x9, x10, x11, x12⟩ := R
  obtain ⟨sv, sn, hst, hsv⟩ := S.ex
  k_steps
  unfold Stop
  rename IsRange _ _ _ _ _ _ _ _ => hR
  rename Fr _ _ _ _ => lF
  rename News _ _ _ _ => lN
  rename (_ < _ ∧ _ < _ ∧ _ < _ ∧ _ < _ ∧ AllLt _ _) => q1
  have ndc := nd_new (o := o2) nd (lt_cons q1.1 (lt_cons q1.2.1 (lt_cons q1.2.2.1 (lt_cons q1.2.2.2.1 (lt_all q1.2.2.2.2)))))
  have e5 : row.length = 0 ∨ row.length = 1 ∨ row.length = 2 ∨ row.length = 3 ∨ row.length = 4 := by omega
  clear q1
  refine pyIter_range_inv (n := row.length) (fun j m' nw => MHas m' ((Str.ofString "clocks", .ref _) :: (Str.ofString "times", .ref tm) :: turnPs U tU st rA kA ra sp y3 ba sa da row.length y4) ∧
      ∃ (cv : List Value) (cn : Nat), nw = (_, listOf cv.toArray cn) :: (tm, listOf tv.toArray tn) :: (I, it) :: (L+1+1, o2) :: (kA, listOf kv.toArray kn) :: (P ++ r) ∧ ND nw ∧ IntsAre cv [-(v.D (ptOf U ds (row.take j)).b0), -(v.D (ptOf U ds (row.take j)).b1)])
    rfl hR ?q1 ?q2 lF lN ⟨(by repeat (first | exact MHas.nil | refine MHas.cons rfl ?_)), [.int 0 _, .int 0 _], 0, rfl, nd_same ndc rfl, ?q3⟩ ?turn ?done
  case q1 => rcases e5 with e | e | e | e | e <;> rw [e] <;> decide
  case q2 => rcases e5 with e | e | e | e | e <;> rw [e] <;> decide
  case q3 =>
    refine ints_cast (.cons 0 _ (.cons 0 _ .nil)) ?_
    show [(0 : Int), 0] = [-(v.D 0), -(v.D 0)]
    rw [hz0]; rfl
  case done =>
    rintro m' _ h' tk' ⟨hm, cv, cn, rfl, ndr, hc⟩ F' N'
    obtain ⟨m', rfl⟩ := kst_all (m := m') hm
    dsimp only [turnPs, kstB] at F'
    clear lF lN
    k_steps
    unfold Stop
    rename Fr _ _ _ _ => lF
    rename News _ _ _ _ => lN
    rename (_ < _ ∧ _ < _ ∧ _ < _ ∧ _ < _ ∧ _ < _ ∧ AllLt _ _) => q2
    have d1 := nd_new (o := o2) ndr (lt_cons q2.1 (lt_cons q2.2.1 (lt_cons q2.2.2.1 (lt_cons q2.2.2.2.1 (lt_cons q2.2.2.2.2.1 (lt_all q2.2.2.2.2.2))))))
    have d2 := nd_comm [_, _, _, _, _] [_] d1
    have N2 : News h₀ L _ _ := news_comm [_, _, _, _, _] [_] lN
    refine append_K lF N2 (upd_one d2 rfl) (fun h5 F5 N5 => ?_) (by rw [sizeLine_eq, List.size_toArray]; omega)
    rw [List.push_toArray] at N5
    clear lF lN N2
    k_steps
    rename Fr _ _ _ _ => lF
    have d3 := nd_comm [_, _, _, _] [_, _] d2
    refine k _ _ _ _ _ _ (fun q hq => .tail _ (.tail _ (.tail _ hq))) lF (by repeat (first | exact MHas.nil | refine MHas.cons rfl ?_)) ⟨.head _, (x4.mono fun q hq => .tail _ (.tail _ (.tail _ hq))), (x5.mono fun q hq => .tail _ (.tail _ (.tail _ hq))), hsat, .tail _ (.tail _ (.head _)), ?_, .tail _ (.tail _ (.tail _ x10)), x11.mono fun q hq => .tail _ (.tail _ (.tail _ hq)), x12⟩ (news_in [_, _, _] [_, _, _] P (news_comm [_, _, _, _] [_, _] N5)) (nd_same (nd_in [_, _, _] [_, _, _] P d3) (by simp))
    rw [ptOf_n, Int.toNat_natCast]
    exact hi
  case turn =>
    rintro I2 j m' _ t h' tk' it2 hj ⟨hm, cv, cn, rfl, ndr, hc⟩ hoff F' N'
    obtain ⟨m', rfl⟩ := kst_all (m := m') hm
    dsimp only [turnPs, kstB] at F'
    clear lF lN k ndc
    have hje : row[j]? = some row[j] := List.getElem?_eq_getElem hj
    have he4 := hrow _ (List.getElem_mem hj)
    generalize row[j] = e at hje he4
    have hrj : ∃ t, rv[j]? = some (.int (e : Int) t) := ints_at x3 (by rw [List.getElem?_map, hje]; rfl)
    obtain ⟨te, hrj⟩ := hrj
    obtain ⟨sA, z1, z2, z3, z4, z5, hse, hsm⟩ := hsv e he4
    replace hsm : _ ∈ P ++ r := List.mem_append_right _ hsm
    have hw := hwin j e hje
    have hok := ok e
    have hnx := ptOf_take (U := U) (ds := ds) hje
    have hpn := ptOf_n U ds (row.take j)
    rw [List.length_take_of_le (by omega)] at hpn
    rw [hnx]
    generalize ptOf U ds (row.take j) = pj at *
    generalize ds e = d at *
    obtain ⟨okc, ok0, ok2, okh, okf, oks⟩ := id hok
    have hc0 : 0 ≤ d.clock := by omega
    k_steps
    unfold Stop
    rename Fr _ _ _ _ => lF
    rename News _ _ _ _ => lN
    refine row_item lN (.tail _ (.tail _ (.tail _ (.tail _ (.tail _ (.tail _ (List.mem_append_right _ x2))))))) (i := j) (by omega) (by omega) hrj ?_
    k_steps
    unfold Stop
    rename Fr _ _ _ _ => lF
    rename News _ _ _ _ => lN
    refine item_at lN (.tail _ (.tail _ (.tail _ (.tail _ (.tail _ (.tail _ (List.mem_append_right _ hst))))))) (i := e) rfl (by omega) hse ?_
    k_steps
    unfold Stop
    rename Fr _ _ _ _ => lF
    rename News _ _ _ _ => lN
    have ex : ((List.range (row.length + 1)).map fun (j : Nat) => -(v.D (j : Int))).getD (0 + (j : Int) + 1).toNat 0 = -(v.D ((j : Int) + 1)) := by
      rw [show (0 + (j : Int) + 1).toNat = j + 1 by omega, List.getD, List.getElem?_map, List.getElem?_range (by omega)]
      show -(v.D ((j + 1 : Nat) : Int)) = _
      rw [show ((j + 1 : Nat) : Int) = (j : Int) + 1 by omega]
    have ec : [-(v.D pj.b0), -(v.D pj.b1)].getD d.clock.toNat 0 = -(v.D (pj.bk d)) := by
      unfold Pt.bk
      rcases okc with e | e
      · rw [e, if_pos rfl]; rfl
      · rw [e, if_neg (by decide)]; rfl
    rw [ex, ec] at lF
    refine t_win (d := d) lF lN rfl rfl rfl rfl hok hw.1 hw.2 fun tk3 => ?_
    have hIc := (all_cons.mp hoff).1
    have b0' : (nextPt U d e pj).b0 = if d.fst = 0 then pj.b0 else (j : Int) + 1 := by rw [← hpn]; rfl
    have b1' : (nextPt U d e pj).b1 = if d.snd = 0 then pj.b1 else (j : Int) + 1 := by rw [← hpn]; rfl
    rw [b0', b1']
    clear hw ec b0' b1' okh
    rcases okf with ef | ef <;> rcases oks with es | es <;> rw [ef, es] at lF <;> rw [ef, es]
    all_goals (first | rw [if_pos rfl] | rw [if_neg (show ¬ (1 : Int) = 0 by decide)])
    all_goals (first | rw [if_pos rfl] | rw [if_neg (show ¬ (1 : Int) = 0 by decide)] | skip)
    · k_steps
      rename Fr _ _ _ _ => lF
      rename News _ _ _ _ => lN
      exact ⟨_, _, _, _, rfl, lF, lN, hoff, (by repeat (first | exact MHas.nil | refine MHas.cons rfl ?_)), cv, cn, rfl, ndr, hc⟩
    · k_steps
      unfold Stop
      rename Fr _ _ _ _ => lF
      rename News _ _ _ _ => lN
      rw [ex]
      refine ksa_set lF lN (upd_two ndr rfl (Ne.symm hIc)) hc (by decide) (show (1 : Int) < ((2 : Nat) : Int) by decide) (by decide) fun h5 F5 N5 hc5 _ _ => ?_
      clear lF lN
      k_steps
      exact ⟨_, _, _, _, rfl, F5, N5, (off_same hoff (by rfl)), (by repeat (first | exact MHas.nil | refine MHas.cons rfl ?_)), _, cn, rfl, nd_same ndr rfl, hc5⟩
    · k_steps
      unfold Stop
      rename Fr _ _ _ _ => lF
      rename News _ _ _ _ => lN
      rw [ex]
      refine ksa_set lF lN (upd_two ndr rfl (Ne.symm hIc)) hc (by decide) (show (0 : Int) < ((2 : Nat) : Int) by decide) (by decide) fun h5 F5 N5 hc5 _ _ => ?_
      clear lF lN
      k_steps
      exact ⟨_, _, _, _, rfl, F5, N5, (off_same hoff (by rfl)), (by repeat (first | exact MHas.nil | refine MHas.cons rfl ?_)), _, cn, rfl, nd_same ndr rfl, hc5⟩
    · k_steps
      unfold Stop
      rename Fr _ _ _ _ => lF
      rename News _ _ _ _ => lN
      rw [ex]
      refine ksa_set lF lN (upd_two ndr rfl (Ne.symm hIc)) hc (by decide) (show (0 : Int) < ((2 : Nat) : Int) by decide) (by decide) fun h5 F5 N5 hc5 _ _ => ?_
      clear lF lN
      k_steps
      unfold Stop
      rename Fr _ _ _ _ => lF
      rename News _ _ _ _ => lN
      rw [ex]
      refine ksa_set lF lN (upd_two ndr rfl (Ne.symm hIc)) hc5 (by decide) (show (1 : Int) < ((2 : Nat) : Int) by decide) (by decide) fun h6 F6 N6 hc6 _ _ => ?_
      clear lF lN
      k_steps
      exact ⟨_, _, _, _, rfl, F6, N6, (off_same hoff (by rfl)), (by repeat (first | exact MHas.nil | refine MHas.cons rfl ?_)), _, cn, rfl, nd_same ndr rfl, hc6⟩
end

end
section -- TurnB
open PySem PySem.W PyProof.Rows PySem.Calls
set_option maxRecDepth 100000
set_option maxHeartbeats 8000000
local macro_rules | `(tactic| walk_at "no such line") => `(tactic| skip)
local macro_rules | `(tactic| walk_at "no such line") => `(tactic| skip)
local macro_rules | `(tactic| walk_at "no such line") => `(tactic| skip)
local macro_rules | `(tactic| walk_at "no such line") => `(tactic| skip)
local macro_rules | `(tactic| walk_at "no such line") => `(tactic| skip)
local macro_rules | `(tactic| walk_at "no such line") => `(tactic| skip)
local macro_rules | `(tactic| walk_at "no such line") => `(tactic| skip)
local macro_rules | `(tactic| walk_at "no such line") => `(tactic| skip)
local macro_rules | `(tactic| walk_at "no such line") => `(tactic| skip)
local macro_rules | `(tactic| walk_at "no such line") => `(tactic| skip)
local macro_rules | `(tactic| walk_at "no such line") => `(tactic| skip)
local macro_rules | `(tactic| walk_at "no such line") => `(tactic| skip)
local macro_rules | `(tactic| walk_at "no such line") => `(tactic| skip)
local macro_rules | `(tactic| walk_at "no such line") => `(tactic| skip)
local macro_rules | `(tactic| walk_at "no such line") => `(tactic| skip)
local macro_rules | `(tactic| walk_at "no such line") => `(tactic| skip)
theorem kfill_TurnB : (PySem.Challenge.rw_vs0022_03 = PySem.Challenge.rw_vs0022_03) ∧ (hd.heap_39 = hd.heap_39) := by
  w_top off
  k_fill
  exact ⟨rfl, rfl⟩
local macro_rules | `(tactic| passes_own) => `(tactic| assumption)
local macro_rules | `(tactic| walk_at "truthy ref") => `(tactic| refine stop_here ?_)
theorem RowHas.up {w : World} {r r' : List (Addr × Obj)} {p : Pt} {row : List Nat} {v : NetV} {ta ra ba sa da : Addr} {rv : List Value} {so bo : Obj} {t0 t1 t2 : Tok} (hs : ∀ q ∈ r, q ∈ r') (h : RowHas w r p row v ta ra ba sa da rv so bo t0 t1 t2) : RowHas w r' p row v ta ra ba sa da rv so bo t0 t1 t2 :=
  ⟨hs _ h.tup, hs _ h.rw_, h.iv, h.net.mono hs, h.ok.mono hs, hs _ h.back, hs _ h.st, h.stP.mono hs, h.stL, hs _ h.bd, h.bdP.mono hs, h.bdL⟩
section
variable {w : World} {base h₀ : Heap} {L : Nat} {fa : Addr} {cd : Value} {s : Shared} {mg mb : Str → Option Value} {p : Program} {loose : List Str} {mean : ExcName → Option Value} {Q : Flow → Shared → Prop} {E : Value → Shared → Prop} {o2 : Obj} {tl : List Stmt}
theorem turnB {u : Str → Option Value} {U : Int} {tU y3 y4 : Tok} {st rA kA : Addr} {P r : List (Addr × Obj)} {I : Addr} {it : Obj} {ds : Nat → Stp} {row : List Nat} {v : NetV} {ta ra ba sa da : Addr} {rv kv : List Value} {so bo : Obj} {y0 y1 y2 : Tok} {kn : Nat}
    (B : Below callerA base [] h₀) (F : Fr h₀ L s.heap u) (X₀ : (hd.heap_39 w.params).In h₀) (T : Top p loose mean mg mb h₀) (hE : PassesOwn (model PR w) (lawA L fa cd) (lawEnv L fa cd) E)
    (hm : MHas u (turnPs U tU st rA kA ra (ptOf U ds row).spot y3 ba sa da row.length y4))
    (N : News h₀ L s.heap ((I, it) :: (L+1+1, o2) :: (kA, listOf kv.toArray kn) :: (P ++ r))) (nd : ND ((I, it) :: (L+1+1, o2) :: (kA, listOf kv.toArray kn) :: (P ++ r))) (hcel : o2.data = .cell (some (.ref v.self))) (R : RowHas w r (ptOf U ds row) row v ta ra ba sa da rv so bo y0 y1 y2) (h6 : Six (ptOf U ds row).E) (hl : row.length ≤ 4) (hz : (ptOf U ds row).S.length ≤ 16)
    (S : StepsAt r ds st) (ok : ∀ e, StpOk (ds e)) (hrow : ∀ e ∈ row, e < 4) (hkl : kv.length ≤ 20)
    (hlaw : 0 < (ptOf U ds row).S.length → v.sat = true ∧ (∀ i, i ≤ row.length → (i : Int) ∈ v.ks) ∧ (∀ M, M ∈ (ptOf U ds row).S.map (·.2) → 0 ≤ M ∧ M ≤ 8) ∧ v.D 0 = 0 ∧ (∀ M, M ∈ (ptOf U ds row).S.map (·.2) → (∀ a, a ∈ (ptOf U ds row).S.map (·.2) → M ≤ a) → -(v.D (row.length : Int)) = U * M) ∧ (∀ i, i < row.length → -(v.D (i : Int)) ≤ -(v.D ((i : Int) + 1))) ∧
      ∀ (j e : Nat), row[j]? = some e → (ds e).low * U ≤ -(v.D ((j : Int) + 1)) - -(v.D ((ptOf U ds (row.take j)).bk (ds e))) ∧ ∀ x, (ds e).high = some x → -(v.D ((j : Int) + 1)) - -(v.D ((ptOf U ds (row.take j)).bk (ds e))) ≤ x * U)
    (k : ∀ h' tk m' kv' kn' r', (∀ q ∈ r, q ∈ r') → Fr h₀ L h' m' → MHas m' (turnPs U tU st rA kA ra (ptOf U ds row).spot y3 ba sa da row.length y4) → (kv' = kv ∨ ∃ ka tm tv n, kv' = kv ++ [Value.ref ka] ∧ KeptHas w r' (ptOf U ds row) v ka tm da tv n bo) →
      News h₀ L h' ((I, it) :: (L+1+1, o2) :: (kA, listOf kv'.toArray kn') :: (P ++ r')) → ND ((I, it) :: (L+1+1, o2) :: (kA, listOf kv'.toArray kn') :: (P ++ r')) →
      wpAny (model PR w) (lawA L fa cd) (execs tl (lawEnv L fa cd)) Q E { s with heap := h', toks := tk }) :
    wpAny (model PR w) (lawA L fa cd) (execs (t2.hd :: tl) (lawEnv L fa cd)) Q E s := by
  dsimp only [lawA, lawEnv, lawG, t2] at hE k ⊢
  obtain ⟨u, rfl⟩ := kst_all (m := u) hm
  dsimp only [turnPs, kstB] at F
  k_steps
  unfold Stop
  rename Fr _ _ _ _ => lF
  rename News _ _ _ _ => lN
  refine pt_truthy lN (.tail _ (.tail _ (.tail _ (List.mem_append_right _ R.st)))) R.stP R.stL (by omega) ?_
  have hm1 : MHas _ (turnPs U tU st rA kA ra (ptOf U ds row).spot y3 ba sa da row.length y4) := hm
  by_cases hp : 0 < (ptOf U ds row).S.length
  · rw [decide_eq_true hp]
    obtain ⟨hsat, hks, hMb, hz0, hlast, hmono, hwin⟩ := hlaw hp
    rw [if_pos rfl]
    refine turnB1 (r := (kA, listOf kv.toArray kn) :: (P ++ r)) (by assumption) lF (by assumption) (by assumption) hE hm1 lN nd hcel (R.up fun q hq => .tail _ (List.mem_append_right _ hq)) h6 hl hz hp hks hMb hz0 hlast hmono fun h2 tk2 m2 tm tv n F2 M2 hi N2 off2 => ?_
    refine turnB2 (P := P) (r := r) (by assumption) F2 (by assumption) (by assumption) hE M2 N2 (nd_c.mpr ⟨off2, nd⟩) hcel R hl S ok hrow hi hz0 hsat hkl hwin fun h3 tk3 m3 ka r3 kn3 hr3 F3 M3 K3 N3 nd3 => ?_
    k_steps
    exact k _ _ _ _ kn3 r3 hr3 F3 M3 (.inr ⟨ka, tm, tv, n, rfl, K3⟩) N3 nd3
  · rw [decide_eq_false hp]
    k_steps
    rename Fr _ _ _ _ => lF
    exact k _ _ _ kv kn r (fun _ h => h) lF (by repeat (first | exact MHas.nil | refine MHas.cons rfl ?_)) (.inl rfl) lN nd
end

end
section -- Ins03
open PySem PySem.W PyProof.Rows PySem.Calls
set_option maxRecDepth 100000
set_option maxHeartbeats 8000000
local macro_rules | `(tactic| walk_at "no such line") => `(tactic| skip)
local macro_rules | `(tactic| walk_at "no such line") => `(tactic| skip)
local macro_rules | `(tactic| walk_at "no such line") => `(tactic| skip)
local macro_rules | `(tactic| walk_at "no such line") => `(tactic| skip)
local macro_rules | `(tactic| walk_at "no such line") => `(tactic| skip)
local macro_rules | `(tactic| walk_at "no such line") => `(tactic| skip)
local macro_rules | `(tactic| walk_at "no such line") => `(tactic| skip)
local macro_rules | `(tactic| walk_at "no such line") => `(tactic| skip)
local macro_rules | `(tactic| walk_at "no such line") => `(tactic| skip)
local macro_rules | `(tactic| walk_at "no such line") => `(tactic| skip)
local macro_rules | `(tactic| walk_at "no such line") => `(tactic| skip)
local macro_rules | `(tactic| walk_at "no such line") => `(tactic| skip)
local macro_rules | `(tactic| walk_at "no such line") => `(tactic| skip)
local macro_rules | `(tactic| walk_at "no such line") => `(tactic| skip)
local macro_rules | `(tactic| walk_at "no such line") => `(tactic| skip)
local macro_rules | `(tactic| walk_at "no such line") => `(tactic| skip)
local macro_rules | `(tactic| walk_at "no such line") => `(tactic| skip)
theorem kfill_Ins03 : (PySem.Challenge.rw_vs0022_03 = PySem.Challenge.rw_vs0022_03) ∧ (hd.heap_39 = hd.heap_39) := by
  w_top off
  k_fill
  exact ⟨rfl, rfl⟩
local macro_rules | `(tactic| walk_at "call ref") => `(tactic| ((with_reducible show wpAny _ _ (call (Value.ref 152) _) _ _ _); (refine stop_here ?_)))
section
variable {w : World} {A₀ A : Around} {base h₀ : Heap} {outer : List Env} {env : Env} {L : Addr} {m mg mb : Str → Option Value} {p : Program} {loose : List Str} {mean : ExcName → Option Value} {s : Shared} {rest cl : List (Addr × Obj)} {R : Result → Shared → Prop} {v : NetV} {E : Edges} {x y lb rb : Int} {tx ty tl tr : Tok}
theorem insN (B : Below A₀ base outer h₀) (F : Fr h₀ L s.heap m) (X₀ : (hd.heap_39 w.params).In h₀) (N : News h₀ L s.heap (v.led w rest)) (T : Top p loose mean mg mb h₀)
    (hA : A.frames = some (env :: outer)) (hf : env.frame = some L) (hke : env.scope.kind = .function) (hroom : A.depth < 700)
    (nd : ND (v.led w rest)) (O : v.Ok w cl E) (hcl : ∀ p ∈ cl, p ∈ rest) (h6 : Six E) (hx : 0 ≤ x ∧ x ≤ 5) (hy : 0 ≤ y ∧ y ≤ 5)
    (k : ∀ h' tk (v' : NetV) (new : List (Addr × Obj)), v'.self = v.self → Fr h₀ L h' m → News h₀ L h' (v'.led w (new ++ rest)) → ND (v'.led w (new ++ rest)) → v'.Ok w (new ++ cl) (E ++ [(x, y, -lb)]) → R (.ok (.ret .none)) { s with heap := h', toks := tk }) :
    codeAny (model PR w) A (.call (.ref 188) ⟨[.ref v.self, .int x tx, .int y ty], [(Str.ofString "left_bound", .int lb tl), (Str.ofString "right_bound", .none)]⟩) R s := by
  obtain ⟨aH, aD, aF, aG, aU⟩ := A
  dsimp only at hA hroom
  subst hA
  refine' code_def B F X₀ N T rfl hf hke ?k6 ?k7 (Nat.lt_of_lt_of_le hroom (by decide)) ?k9 ?kB ?_ ?c2 ?c3 ?c4 ?c5
  case k6 => k_is
  case k7 => k_is
  case k9 => exact BindsTo.of_eq rfl
  case kB => exact locs rfl
  case c2 => exact rfl
  case c3 => exact rfl
  case c4 => exact rfl
  case c5 => decide
  intro g L' h₁ FG F' N' B' X' T'
  clear B F X₀ N T FG
  k_fold
  k_steps
  unfold Stop
  rename Fr _ _ _ _ => lF
  rename News _ _ _ _ => lN
  refine' wpAny_call (addV (b := -lb) (by assumption) lF (by assumption) lN (by assumption) ?hA ?hf ?hke ?hr nd O hcl h6 hx hy fun h2 tk2 v2 new2 hv2 F2 N2 nd2 O2 => ?_)
  case hA => exact rfl
  case hf => exact rfl
  case hke => exact rfl
  case hr => simp only [depth_deeper, depth_in1]; omega
  clear lF lN
  (try dsimp only)
  k_steps
  rename Fr _ _ _ _ => lF
  rename News _ _ _ _ => lN
  refine' leaveK_ ?k1 ?k2 ?_; (case k1 => k_asm); (case k2 => k_asm)
  intro kF kN
  exact k _ _ v2 new2 hv2 kF kN nd2 O2
theorem insB (B : Below A₀ base outer h₀) (F : Fr h₀ L s.heap m) (X₀ : (hd.heap_39 w.params).In h₀) (N : News h₀ L s.heap (v.led w rest)) (T : Top p loose mean mg mb h₀)
    (hA : A.frames = some (env :: outer)) (hf : env.frame = some L) (hke : env.scope.kind = .function) (hroom : A.depth < 700)
    (nd : ND (v.led w rest)) (O : v.Ok w cl E) (hcl : ∀ p ∈ cl, p ∈ rest) (h6 : Six E) (hx : 0 ≤ x ∧ x ≤ 5) (hy : 0 ≤ y ∧ y ≤ 5)
    (k : ∀ h' tk (v' : NetV) (new : List (Addr × Obj)), v'.self = v.self → Fr h₀ L h' m → News h₀ L h' (v'.led w (new ++ rest)) → ND (v'.led w (new ++ rest)) → v'.Ok w (new ++ cl) (E ++ [(x, y, -lb)] ++ [(y, x, rb)]) → R (.ok (.ret .none)) { s with heap := h', toks := tk }) :
    codeAny (model PR w) A (.call (.ref 188) ⟨[.ref v.self, .int x tx, .int y ty], [(Str.ofString "left_bound", .int lb tl), (Str.ofString "right_bound", .int rb tr)]⟩) R s := by
  obtain ⟨aH, aD, aF, aG, aU⟩ := A
  dsimp only at hA hroom
  subst hA
  refine' code_def B F X₀ N T rfl hf hke ?k6 ?k7 (Nat.lt_of_lt_of_le hroom (by decide)) ?k9 ?kB ?_ ?c2 ?c3 ?c4 ?c5
  case k6 => k_is
  case k7 => k_is
  case k9 => exact BindsTo.of_eq rfl
  case kB => exact locs rfl
  case c2 => exact rfl
  case c3 => exact rfl
  case c4 => exact rfl
  case c5 => decide
  intro g L' h₁ FG F' N' B' X' T'
  clear B F X₀ N T FG
  k_fold
  k_steps
  unfold Stop
  rename Fr _ _ _ _ => lF
  rename News _ _ _ _ => lN
  refine' wpAny_call (addV (b := -lb) (by assumption) lF (by assumption) lN (by assumption) ?hA ?hf ?hke ?hr nd O hcl h6 hx hy fun h2 tk2 v2 new2 hv2 F2 N2 nd2 O2 => ?_)
  case hA => exact rfl
  case hf => exact rfl
  case hke => exact rfl
  case hr => simp only [depth_deeper, depth_in1]; omega
  clear lF lN
  (try dsimp only)
  rw [← hv2] at F2
  k_steps
  unfold Stop
  rename Fr _ _ _ _ => lF
  rename News _ _ _ _ => lN
  refine' wpAny_call (addV (b := rb) (by assumption) lF (by assumption) lN (by assumption) ?hA ?hf ?hke ?hr nd2 O2 (fun q hq => ?hc) (h6.append (Six.one hx hy)) hy hx fun h3 tk3 v3 new3 hv3 F3 N3 nd3 O3 => ?_)
  case hA => exact rfl
  case hf => exact rfl
  case hke => exact rfl
  case hr => simp only [depth_deeper, depth_in1]; omega
  case hc => exact (List.mem_append.mp hq).elim (List.mem_append_left _) fun hq => List.mem_append_right _ (hcl q hq)
  clear lF lN
  (try dsimp only)
  k_steps
  rename Fr _ _ _ _ => lF
  rename News _ _ _ _ => lN
  refine' leaveK_ ?k1 ?k2 ?_; (case k1 => k_asm); (case k2 => k_asm)
  intro kF kN
  rw [← List.append_assoc] at kN nd3 O3
  exact k _ _ v3 (new3 ++ new2) (hv3.trans hv2) kF kN nd3 O3
end

end
section -- KidL3
open PySem PySem.W PyProof.Rows PySem.Calls
set_option maxRecDepth 100000
set_option maxHeartbeats 8000000
/-- the names in the law's frame while a row's next one is made -/
@[reducible] def kidPs (U : Int) (tU : Tok) (st rA kA ra : Addr) (sp : Int) (y3 : Tok) (ba sa da : Addr) (sz : Int) (y4 : Tok) (e : Int) (te : Tok) : List (Str × Value) := [(Str.ofString "unit", .int U tU), (Str.ofString "steps", .ref st), (Str.ofString "rows", .ref rA), (Str.ofString "kept", .ref kA),
  (Str.ofString "row", .ref ra), (Str.ofString "spot", .int sp y3), (Str.ofString "back", .ref ba), (Str.ofString "states", .ref sa), (Str.ofString "bounds", .ref da), (Str.ofString "size", .int sz y4), (Str.ofString "e", .int e te)]
@[reducible] def stepPs (d : Stp) (z1 z2 z3 z4 z5 : Tok) (lg : Addr) (l : List (Str × Value)) : List (Str × Value) := (Str.ofString "longer", .ref lg) :: (Str.ofString "clock", .int d.clock z1) :: (Str.ofString "low", .int d.low z2) :: (Str.ofString "high", optV d.high z3) :: (Str.ofString "first", .int d.fst z4) :: (Str.ofString "second", .int d.snd z5) :: l
theorem led_front {w : World} {h₀ h : Heap} {L : Addr} {v : NetV} {new P r : List (Addr × Obj)} (N : News h₀ L h (v.led w (new ++ (P ++ r)))) : News h₀ L h (v.led w (P ++ (new ++ r))) :=
  N.perm fun p hp => by
    simp only [List.mem_cons, List.mem_append] at hp ⊢
    rcases hp with h | h | h | h | h | h | h
    · exact .inl h
    · exact .inr (.inl h)
    · exact .inr (.inr (.inl h))
    · exact .inr (.inr (.inr (.inl h)))
    · exact .inr (.inr (.inr (.inr (.inr (.inl h)))))
    · exact .inr (.inr (.inr (.inr (.inl h))))
    · exact .inr (.inr (.inr (.inr (.inr (.inr h)))))
theorem led_frontd {w : World} {v : NetV} {new P r : List (Addr × Obj)} (N : ND (v.led w (new ++ (P ++ r)))) : ND (v.led w (P ++ (new ++ r))) := by
  have q : (new ++ (P ++ r)).Perm (P ++ (new ++ r)) := by
    rw [← List.append_assoc, ← List.append_assoc]
    exact List.Perm.append_right r List.perm_append_comm
  have p : (v.led w (new ++ (P ++ r))).Perm (v.led w (P ++ (new ++ r))) := .cons _ (.cons _ (.cons _ (.cons _ q)))
  exact (p.map (·.1)).nodup_iff.mp N
section
variable {w : World} {A₀ A : Around} {base h₀ : Heap} {outer : List Env} {env : Env} {L : Addr} {m mg mb : Str → Option Value} {p : Program} {loose : List Str} {mean : ExcName → Option Value} {s : Shared} {r : List (Addr × Obj)} {R : Result → Shared → Prop} {v : NetV} {E : Edges} {x y b lb rb : Int} {tx ty tb tl tr : Tok} {P : List (Addr × Obj)} {a : Addr}
theorem addX (ha : v.self = a) (B : Below A₀ base outer h₀) (F : Fr h₀ L s.heap m) (X₀ : (hd.heap_39 w.params).In h₀) (N : News h₀ L s.heap (v.led w (P ++ r))) (T : Top p loose mean mg mb h₀)
    (hA : A.frames = some (env :: outer)) (hf : env.frame = some L) (hke : env.scope.kind = .function) (hroom : A.depth < 800)
    (nd : ND (v.led w (P ++ r))) (O : v.Ok w r E) (h6 : Six E) (hx : 0 ≤ x ∧ x ≤ 5) (hy : 0 ≤ y ∧ y ≤ 5)
    (k : ∀ h' tk (v' : NetV) (r' : List (Addr × Obj)), (∀ q ∈ r, q ∈ r') → v'.self = a → Fr h₀ L h' m → News h₀ L h' (v'.led w (P ++ r')) → ND (v'.led w (P ++ r')) → v'.Ok w r' (E ++ [(x, y, b)]) → R (.ok (.ret .none)) { s with heap := h', toks := tk }) :
    codeAny (model PR w) A (.call (.ref 152) ⟨[.ref a, .int x tx, .int y ty, .int b tb], []⟩) R s :=
  addA ha B F X₀ N T hA hf hke hroom nd O (fun _ hp => List.mem_append_right _ hp) h6 hx hy fun h' tk v' new e F' N' nd' O' => k h' tk v' (new ++ r) (fun _ hq => List.mem_append_right _ hq) e F' (led_front N') (led_frontd nd') O'
theorem insNX (ha : v.self = a) (B : Below A₀ base outer h₀) (F : Fr h₀ L s.heap m) (X₀ : (hd.heap_39 w.params).In h₀) (N : News h₀ L s.heap (v.led w (P ++ r))) (T : Top p loose mean mg mb h₀)
    (hA : A.frames = some (env :: outer)) (hf : env.frame = some L) (hke : env.scope.kind = .function) (hroom : A.depth < 700)
    (nd : ND (v.led w (P ++ r))) (O : v.Ok w r E) (h6 : Six E) (hx : 0 ≤ x ∧ x ≤ 5) (hy : 0 ≤ y ∧ y ≤ 5)
    (k : ∀ h' tk (v' : NetV) (r' : List (Addr × Obj)), (∀ q ∈ r, q ∈ r') → v'.self = a → Fr h₀ L h' m → News h₀ L h' (v'.led w (P ++ r')) → ND (v'.led w (P ++ r')) → v'.Ok w r' (E ++ [(x, y, -lb)]) → R (.ok (.ret .none)) { s with heap := h', toks := tk }) :
    codeAny (model PR w) A (.call (.ref 188) ⟨[.ref a, .int x tx, .int y ty], [(Str.ofString "left_bound", .int lb tl), (Str.ofString "right_bound", .none)]⟩) R s := by
  subst ha
  exact insN B F X₀ N T hA hf hke hroom nd O (fun _ hp => List.mem_append_right _ hp) h6 hx hy fun h' tk v' new e F' N' nd' O' => k h' tk v' (new ++ r) (fun _ hq => List.mem_append_right _ hq) e F' (led_front N') (led_frontd nd') O'
theorem insBX (ha : v.self = a) (B : Below A₀ base outer h₀) (F : Fr h₀ L s.heap m) (X₀ : (hd.heap_39 w.params).In h₀) (N : News h₀ L s.heap (v.led w (P ++ r))) (T : Top p loose mean mg mb h₀)
    (hA : A.frames = some (env :: outer)) (hf : env.frame = some L) (hke : env.scope.kind = .function) (hroom : A.depth < 700)
    (nd : ND (v.led w (P ++ r))) (O : v.Ok w r E) (h6 : Six E) (hx : 0 ≤ x ∧ x ≤ 5) (hy : 0 ≤ y ∧ y ≤ 5)
    (k : ∀ h' tk (v' : NetV) (r' : List (Addr × Obj)), (∀ q ∈ r, q ∈ r') → v'.self = a → Fr h₀ L h' m → News h₀ L h' (v'.led w (P ++ r')) → ND (v'.led w (P ++ r')) → v'.Ok w r' (E ++ [(x, y, -lb)] ++ [(y, x, rb)]) → R (.ok (.ret .none)) { s with heap := h', toks := tk }) :
    codeAny (model PR w) A (.call (.ref 188) ⟨[.ref a, .int x tx, .int y ty], [(Str.ofString "left_bound", .int lb tl), (Str.ofString "right_bound", .int rb tr)]⟩) R s := by
  subst ha
  exact insB B F X₀ N T hA hf hke hroom nd O (fun _ hp => List.mem_append_right _ hp) h6 hx hy fun h' tk v' new e F' N' nd' O' => k h' tk v' (new ++ r) (fun _ hq => List.mem_append_right _ hq) e F' (led_front N') (led_frontd nd') O'
theorem bk_item {prog : Program} {A : Around} {Ev : Value → Shared → Prop} {value slice : Expr} {Q : Value → Shared → Prop} {l : Addr} {news : List (Addr × Obj)} {p : Pt} {d : Stp} {t u1 u2 : Tok} {n : Nat} (N : News h₀ L s.heap news) (hm : (l, tup2 p.b0 p.b1 u1 u2 n) ∈ news) (hc : d.clock = 0 ∨ d.clock = 1) (h : ∀ t, Q (.int (p.bk d) t) s)
    (hs : subscripted slice false (.ref l) (.int d.clock t) = operate [.ref l, .int d.clock t] (getItem (.ref l) (.int d.clock t)) := by with_unfolding_all rfl) :
    wpAny (model prog w) A (subscriptTail value slice (.ref l) (.int d.clock t)) Q Ev s := by
  have hl : IsTup s.heap l #[.int p.b0 u1, .int p.b1 u2] := ⟨_, (N _ hm).1, rfl, n, rfl⟩
  unfold Pt.bk at h
  rcases hc with e | e
  · rw [e] at h hs ⊢
    exact tail_any hl.typeIs slot_tuple_getitem.lookup (getItem_tuple hl (j := 0) (x := .int p.b0 u1) (by decide) (by decide) rfl rfl (h u1)) hs
  · rw [e] at h hs ⊢
    exact tail_any hl.typeIs slot_tuple_getitem.lookup (getItem_tuple hl (j := 1) (x := .int p.b1 u2) (by decide) (by decide) rfl rfl (h u2)) hs
end

end
section -- Kid1
open PySem PySem.W PyProof.Rows PySem.Calls
set_option maxRecDepth 100000
set_option maxHeartbeats 8000000
local macro_rules | `(tactic| walk_at "no such line") => `(tactic| skip)
local macro_rules | `(tactic| walk_at "no such line") => `(tactic| skip)
local macro_rules | `(tactic| walk_at "no such line") => `(tactic| skip)
local macro_rules | `(tactic| walk_at "no such line") => `(tactic| skip)
local macro_rules | `(tactic| walk_at "no such line") => `(tactic| skip)
local macro_rules | `(tactic| walk_at "no such line") => `(tactic| skip)
local macro_rules | `(tactic| walk_at "no such line") => `(tactic| skip)
local macro_rules | `(tactic| walk_at "no such line") => `(tactic| skip)
local macro_rules | `(tactic| walk_at "no such line") => `(tactic| skip)
local macro_rules | `(tactic| walk_at "no such line") => `(tactic| skip)
local macro_rules | `(tactic| walk_at "no such line") => `(tactic| skip)
local macro_rules | `(tactic| walk_at "no such line") => `(tactic| skip)
local macro_rules | `(tactic| walk_at "no such line") => `(tactic| skip)
local macro_rules | `(tactic| walk_at "no such line") => `(tactic| skip)
local macro_rules | `(tactic| walk_at "no such line") => `(tactic| skip)
local macro_rules | `(tactic| walk_at "no such line") => `(tactic| skip)
local macro_rules | `(tactic| walk_at "no such line") => `(tactic| skip)
theorem kfill_Kid1 : (PySem.Challenge.rw_vs0022_03 = PySem.Challenge.rw_vs0022_03) ∧ (hd.heap_39 = hd.heap_39) := by
  w_top off
  k_fill
  exact ⟨rfl, rfl⟩
local macro_rules | `(tactic| passes_own) => `(tactic| assumption)
local macro_rules | `(tactic| walk_at "call ref") => `(tactic| ((first | (with_reducible show wpAny _ _ (call (Value.ref 152) _) _ _ _) | (with_reducible show wpAny _ _ (call (Value.ref 145) _) _ _ _) | (with_reducible show wpAny _ _ (call (Value.ref 188) _ _) _ _ _)); (refine stop_here ?_)))
local macro_rules | `(tactic| walk_at "subscriptTail") => `(tactic| ((first | (with_reducible show wpAny _ _ (subscriptTail (Expr.Name (Str.ofString "back") _) _ (Value.ref _) (Value.int _ _)) _ _ _) | (with_reducible show wpAny _ _ (subscriptTail (Expr.Name (Str.ofString "steps") _) _ (Value.ref _) (Value.int _ _)) _ _ _)); (refine stop_here ?_)))
section
variable {w : World} {base h₀ : Heap} {L : Nat} {fa : Addr} {cd : Value} {s : Shared} {mg mb : Str → Option Value} {p : Program} {loose : List Str} {mean : ExcName → Option Value} {Q : Flow → Shared → Prop} {E : Value → Shared → Prop} {tl : List Stmt}
theorem kid1 {u : Str → Option Value} {U : Int} {tU y3 y4 te : Tok} {st rA kA : Addr} {P r : List (Addr × Obj)} {o2 : Obj} {ds : Nat → Stp} {e : Nat} {pt : Pt} {row : List Nat} {v : NetV} {ta ra ba sa da : Addr} {rv : List Value} {so bo : Obj} {y0 y1 y2 : Tok}
    (B : Below callerA base [] h₀) (F : Fr h₀ L s.heap u) (X₀ : (hd.heap_39 w.params).In h₀) (T : Top p loose mean mg mb h₀) (hE : PassesOwn (model PR w) (lawA L fa cd) (lawEnv L fa cd) E)
    (hm : MHas u (kidPs U tU st rA kA ra pt.spot y3 ba sa da pt.n y4 (0 + (e : Int)) te))
    (N : News h₀ L s.heap (P ++ r)) (nd : ND (P ++ r)) (hc0 : (L+1+1, o2) ∈ P) (hcel : o2.data = .cell (some (.ref v.self))) (R : RowHas w r pt row v ta ra ba sa da rv so bo y0 y1 y2) (h6 : Six pt.E) (hn : 0 ≤ pt.n ∧ pt.n ≤ 3)
    (S : StepsAt r ds st) (he : e < 4)
    (k : ∀ h' tk m' (v' : NetV) r' lg z1 z2 z3 z4 z5, (∀ q ∈ r, q ∈ r') → v'.self = lg → Fr h₀ L h' m' → MHas m' (stepPs (ds e) z1 z2 z3 z4 z5 lg (kidPs U tU st rA kA ra pt.spot y3 ba sa da pt.n y4 (0 + (e : Int)) te)) →
      News h₀ L h' (v'.led w (P ++ r')) → ND (v'.led w (P ++ r')) → v'.Ok w r' (pt.E ++ [(pt.n + 1, 0, 8 * U)] ++ [(pt.n, pt.n + 1, 0)]) →
      wpAny (model PR w) (lawA L fa cd) (execs tl (lawEnv L fa cd)) Q E { s with heap := h', toks := tk }) :
    wpAny (model PR w) (lawA L fa cd) (execs (c0.hd :: c1.hd :: c2.hd :: c3.hd :: tl) (lawEnv L fa cd)) Q E s := by
  dsimp only [lawA, lawEnv, lawG, Mine.c0, Mine.c1, Mine.c2, Mine.c3] at hE k ⊢
  obtain ⟨u, rfl⟩ := kst_all (m := u) hm
  dsimp only [kidPs, kstB] at F
  obtain ⟨x1, x2, x3, x4, x5, x6, x7, x8, x9, x10, x11, x12⟩ := R
  obtain ⟨sv, sn, hst, hsv⟩ := S.ex
  obtain ⟨sA, z1, z2, z3, z4, z5, hse, hsm⟩ := hsv e he
  have i1 := x4.i1
  have i2 := x4.i2
  have hc0' : (L+1+1, o2) ∈ P ++ r := List.mem_append_left _ hc0
  k_steps
  unfold Stop
  rename Fr _ _ _ _ => lF
  rename News _ _ _ _ => lN
  refine item_at lN (List.mem_append_right _ hst) (i := e) (by omega) (by omega) hse ?_
  k_steps
  unfold Stop
  rename Fr _ _ _ _ => lF
  rename News _ _ _ _ => lN
  refine' wpAny_call (copyV (by assumption) lF (by assumption) lN (by assumption) ?hA ?hf ?hke ?hr nd (x4.mono fun q hq => List.mem_append_right _ hq) x5 h6 fun h2 tk2 v2 F2 N2 nd2 O2 _ => ?_)
  case hA => exact rfl
  case hf => exact rfl
  case hke => exact rfl
  case hr => simp only [depth_deeper, depth_in1, depth_caller]; decide
  clear lF lN
  (try dsimp only)
  k_steps
  unfold Stop
  rename Fr _ _ _ _ => lF
  rename News _ _ _ _ => lN
  refine' wpAny_call (addX (v := v2) rfl (by assumption) lF (by assumption) lN (by assumption) ?hA ?hf ?hke ?hr nd2 O2 h6 ?hx ?hy fun h3 tk3 v3 r3 hr3 hv3 F3 N3 nd3 O3 => ?_)
  case hA => exact rfl
  case hf => exact rfl
  case hke => exact rfl
  case hr => simp only [depth_deeper, depth_in1, depth_caller]; decide
  case hx => omega
  case hy => decide
  clear lF lN
  (try dsimp only)
  have j1 : (v2.self, instObj CS v3.sd) ∈ v3.led w (P ++ r3) := hv3 ▸ .head _
  k_steps
  unfold Stop
  rename Fr _ _ _ _ => lF
  rename News _ _ _ _ => lN
  have h63 : Six (pt.E ++ [(pt.n + 1, 0, 8 * U)]) := h6.append (Six.one (by omega) (by decide))
  refine' wpAny_call (addX (v := v3) hv3 (by assumption) lF (by assumption) lN (by assumption) ?hA ?hf ?hke ?hr nd3 O3 h63 ?hx ?hy fun h4 tk4 v4 r4 hr4 hv4 F4 N4 nd4 O4 => ?_)
  case hA => exact rfl
  case hf => exact rfl
  case hke => exact rfl
  case hr => simp only [depth_deeper, depth_in1, depth_caller]; decide
  case hx => omega
  case hy => omega
  clear lF lN
  (try dsimp only)
  k_steps
  rename Fr _ _ _ _ => lF
  exact k _ _ _ v4 r4 _ _ _ _ _ _ (fun q hq => hr4 q (hr3 q hq)) hv4 lF (by repeat (first | exact MHas.nil | refine MHas.cons rfl ?_)) N4 nd4 O4
end

end
section -- Kid2
open PySem PySem.W PyProof.Rows PySem.Calls
set_option maxRecDepth 100000
set_option maxHeartbeats 8000000
local macro_rules | `(tactic| walk_at "no such line") => `(tactic| skip)
local macro_rules | `(tactic| walk_at "no such line") => `(tactic| skip)
local macro_rules | `(tactic| walk_at "no such line") => `(tactic| skip)
local macro_rules | `(tactic| walk_at "no such line") => `(tactic| skip)
local macro_rules | `(tactic| walk_at "no such line") => `(tactic| skip)
local macro_rules | `(tactic| walk_at "no such line") => `(tactic| skip)
local macro_rules | `(tactic| walk_at "no such line") => `(tactic| skip)
local macro_rules | `(tactic| walk_at "no such line") => `(tactic| skip)
local macro_rules | `(tactic| walk_at "no such line") => `(tactic| skip)
local macro_rules | `(tactic| walk_at "no such line") => `(tactic| skip)
local macro_rules | `(tactic| walk_at "no such line") => `(tactic| skip)
local macro_rules | `(tactic| walk_at "no such line") => `(tactic| skip)
local macro_rules | `(tactic| walk_at "no such line") => `(tactic| skip)
local macro_rules | `(tactic| walk_at "no such line") => `(tactic| skip)
local macro_rules | `(tactic| walk_at "no such line") => `(tactic| skip)
local macro_rules | `(tactic| walk_at "no such line") => `(tactic| skip)
local macro_rules | `(tactic| walk_at "no such line") => `(tactic| skip)
local macro_rules | `(tactic| walk_at "no such line") => `(tactic| skip)
theorem kfill_Kid2 : (PySem.Challenge.rw_vs0022_03 = PySem.Challenge.rw_vs0022_03) ∧ (hd.heap_39 = hd.heap_39) := by
  w_top off
  k_fill
  exact ⟨rfl, rfl⟩
local macro_rules | `(tactic| passes_own) => `(tactic| assumption)
local macro_rules | `(tactic| walk_at "call ref") => `(tactic| ((first | (with_reducible show wpAny _ _ (call (Value.ref 152) _) _ _ _) | (with_reducible show wpAny _ _ (call (Value.ref 188) _ _) _ _ _)); (refine stop_here ?_)))
local macro_rules | `(tactic| walk_at "subscriptTail") => `(tactic| ((with_reducible show wpAny _ _ (subscriptTail (Expr.Name (Str.ofString "back") _) _ (Value.ref _) (Value.int _ _)) _ _ _); (refine stop_here ?_)))
section
variable {w : World} {base h₀ : Heap} {L : Nat} {fa : Addr} {cd : Value} {s : Shared} {mg mb : Str → Option Value} {p : Program} {loose : List Str} {mean : ExcName → Option Value} {Q : Flow → Shared → Prop} {E : Value → Shared → Prop} {tl : List Stmt}
theorem kid2 {u : Str → Option Value} {U : Int} {tU y3 y4 te z1 z2 z3 z4 z5 : Tok} {st rA kA ra : Addr} {P r : List (Addr × Obj)} {d : Stp} {e : Int} {pt : Pt} {v : NetV} {lg ba sa da : Addr} {y1 y2 : Tok} {E1 : Edges}
    (B : Below callerA base [] h₀) (F : Fr h₀ L s.heap u) (X₀ : (hd.heap_39 w.params).In h₀) (T : Top p loose mean mg mb h₀) (hE : PassesOwn (model PR w) (lawA L fa cd) (lawEnv L fa cd) E)
    (hm : MHas u (stepPs d z1 z2 z3 z4 z5 lg (kidPs U tU st rA kA ra pt.spot y3 ba sa da pt.n y4 e te)))
    (hlg : v.self = lg) (N : News h₀ L s.heap (v.led w (P ++ r))) (nd : ND (v.led w (P ++ r))) (O : v.Ok w r E1) (h6 : Six E1) (hn : 0 ≤ pt.n ∧ pt.n ≤ 3) (x6 : (ba, tup2 pt.b0 pt.b1 y1 y2 0) ∈ r) (ok : StpOk d) (hbk : 0 ≤ pt.bk d ∧ pt.bk d ≤ 3)
    (k : ∀ h' tk m' (v' : NetV) r', (∀ q ∈ r, q ∈ r') → v'.self = lg → Fr h₀ L h' m' → MHas m' (stepPs d z1 z2 z3 z4 z5 lg (kidPs U tU st rA kA ra pt.spot y3 ba sa da pt.n y4 e te)) →
      News h₀ L h' (P ++ r') → ND (P ++ r') → v'.In w r' → v'.Ok w r' (E1 ++ winE U d pt ++ [(0, 1, U)]) →
      wpAny (model PR w) (lawA L fa cd) (execs tl (lawEnv L fa cd)) Q E { s with heap := h', toks := tk }) :
    wpAny (model PR w) (lawA L fa cd) (execs (c4.hd :: c5.hd :: tl) (lawEnv L fa cd)) Q E s := by
  dsimp only [lawA, lawEnv, lawG, Mine.c4, Mine.c5] at hE k ⊢
  obtain ⟨u, rfl⟩ := kst_all (m := u) hm
  dsimp only [stepPs, kidPs, kstB] at F
  have okd := ok
  obtain ⟨okc, ok0, ok2, okh, okf, oks⟩ := okd
  have j0 : (lg, instObj CS v.sd) ∈ v.led w (P ++ r) := hlg ▸ .head _
  unfold winE at k
  dsimp only [stepPs, kidPs] at k
  generalize d.low = lw at *
  cases hh : d.high with
  | none =>
    rw [hh] at F
    dsimp only [optV] at F
    rw [hh] at k
    dsimp only [optV] at k
    k_steps
    unfold Stop
    rename Fr _ _ _ _ => lF
    rename News _ _ _ _ => lN
    refine bk_item (p := pt) lN (.tail _ (.tail _ (.tail _ (.tail _ (List.mem_append_right _ x6))))) okc fun t7 => ?_
    generalize pt.bk d = bk at *
    k_steps
    unfold Stop
    rename Fr _ _ _ _ => lF
    rename News _ _ _ _ => lN
    refine' wpAny_call (insNX (v := v) hlg (by assumption) lF (by assumption) lN (by assumption) ?hA ?hf ?hke ?hr nd O h6 ?hx ?hy fun h3 tk3 v3 r3 hr3 hv3 F3 N3 nd3 O3 => ?_)
    case hA => exact rfl
    case hf => exact rfl
    case hke => exact rfl
    case hr => simp only [depth_deeper, depth_in1, depth_caller]; decide
    case hx => omega
    case hy => omega
    clear lF lN
    (try dsimp only)
    have j1 : (lg, instObj CS v3.sd) ∈ v3.led w (P ++ r3) := hv3 ▸ .head _
    k_steps
    unfold Stop
    rename Fr _ _ _ _ => lF
    rename News _ _ _ _ => lN
    have h63 : Six (E1 ++ [(bk, pt.n + 1, -(lw * U))]) := h6.append (Six.one (by omega) (by omega))
    refine' wpAny_call (addX (v := v3) hv3 (by assumption) lF (by assumption) lN (by assumption) ?hA ?hf ?hke ?hr nd3 O3 h63 ?hx ?hy fun h4 tk4 v4 r4 hr4 hv4 F4 N4 nd4 O4 => ?_)
    case hA => exact rfl
    case hf => exact rfl
    case hke => exact rfl
    case hr => simp only [depth_deeper, depth_in1, depth_caller]; decide
    case hx => decide
    case hy => decide
    clear lF lN
    (try dsimp only)
    k_steps
    rename Fr _ _ _ _ => lF
    refine k _ _ _ v4 (v4.led w r4) (fun q hq => .tail _ (.tail _ (.tail _ (.tail _ (hr4 q (hr3 q hq)))))) hv4 lF (by repeat (first | exact MHas.nil | refine MHas.cons rfl ?_)) (news_sx [_, _, _, _] P N4) (nd_sx [_, _, _, _] P nd4) (NetV.here w v4 r4) (O4.mono fun q hq => .tail _ (.tail _ (.tail _ (.tail _ hq))))
  | some x =>
    rw [hh] at F
    dsimp only [optV] at F
    rw [hh] at k
    dsimp only [optV] at k
    obtain ⟨hx1, hx2⟩ := okh x hh
    k_steps
    unfold Stop
    rename Fr _ _ _ _ => lF
    rename News _ _ _ _ => lN
    refine bk_item (p := pt) lN (.tail _ (.tail _ (.tail _ (.tail _ (List.mem_append_right _ x6))))) okc fun t7 => ?_
    generalize pt.bk d = bk at *
    k_steps
    unfold Stop
    rename Fr _ _ _ _ => lF
    rename News _ _ _ _ => lN
    refine' wpAny_call (insBX (v := v) hlg (by assumption) lF (by assumption) lN (by assumption) ?hA ?hf ?hke ?hr nd O h6 ?hx ?hy fun h3 tk3 v3 r3 hr3 hv3 F3 N3 nd3 O3 => ?_)
    case hA => exact rfl
    case hf => exact rfl
    case hke => exact rfl
    case hr => simp only [depth_deeper, depth_in1, depth_caller]; decide
    case hx => omega
    case hy => omega
    clear lF lN
    (try dsimp only)
    have j1 : (lg, instObj CS v3.sd) ∈ v3.led w (P ++ r3) := hv3 ▸ .head _
    k_steps
    unfold Stop
    rename Fr _ _ _ _ => lF
    rename News _ _ _ _ => lN
    have h63 : Six (E1 ++ [(bk, pt.n + 1, -(lw * U))] ++ [(pt.n + 1, bk, x * U)]) := (h6.append (Six.one (by omega) (by omega))).append (Six.one (by omega) (by omega))
    refine' wpAny_call (addX (v := v3) hv3 (by assumption) lF (by assumption) lN (by assumption) ?hA ?hf ?hke ?hr nd3 O3 h63 ?hx ?hy fun h4 tk4 v4 r4 hr4 hv4 F4 N4 nd4 O4 => ?_)
    case hA => exact rfl
    case hf => exact rfl
    case hke => exact rfl
    case hr => simp only [depth_deeper, depth_in1, depth_caller]; decide
    case hx => decide
    case hy => decide
    clear lF lN
    (try dsimp only)
    k_steps
    rename Fr _ _ _ _ => lF
    refine k _ _ _ v4 (v4.led w r4) (fun q hq => .tail _ (.tail _ (.tail _ (.tail _ (hr4 q (hr3 q hq)))))) hv4 lF (by repeat (first | exact MHas.nil | refine MHas.cons rfl ?_)) (news_sx [_, _, _, _] P N4) (nd_sx [_, _, _, _] P nd4) (NetV.here w v4 r4) ?_
    have eE : E1 ++ [(bk, pt.n + 1, -(lw * U)), (pt.n + 1, bk, x * U)] = E1 ++ [(bk, pt.n + 1, -(lw * U))] ++ [(pt.n + 1, bk, x * U)] := by simp
    rw [eE]
    exact O4.mono fun q hq => .tail _ (.tail _ (.tail _ (.tail _ hq)))
end

end
section -- PtDict
open PySem PySem.W PyProof.Rows PySem.Calls
set_option maxRecDepth 100000
set_option maxHeartbeats 4000000
def pairHash (x y : Int) : Int := reduceHash (Builtin.Tuple.tupleHashOf [PySem.hashInt x, PySem.hashInt y])
def hashes : List Int := [0, 1, 2, 3, 4, 5].flatMap fun x => [0, 1, 2, 3, 4, 5].map fun y => pairHash x y
theorem hash_apart : ∀ x ∈ ([0, 1, 2, 3, 4, 5] : List Int), ∀ y ∈ ([0, 1, 2, 3, 4, 5] : List Int), ∀ u ∈ ([0, 1, 2, 3, 4, 5] : List Int), ∀ v ∈ ([0, 1, 2, 3, 4, 5] : List Int), pairHash x y = pairHash u v → x = u ∧ y = v := by decide +kernel
theorem small_in {k : Int} (h : 0 ≤ k ∧ k ≤ 5) : k ∈ ([0, 1, 2, 3, 4, 5] : List Int) := by
  have : k = 0 ∨ k = 1 ∨ k = 2 ∨ k = 3 ∨ k = 4 ∨ k = 5 := by omega
  rcases this with rfl | rfl | rfl | rfl | rfl | rfl <;> simp
theorem filter_one {α : Type} {f : α → Int} {c : Int} : ∀ {l : List α}, (l.map f).Nodup → (l.filter fun x => f x == c).length ≤ 1
  | [], _ => by simp
  | x :: l, hn => by
    rw [List.map_cons, List.nodup_cons] at hn
    rw [List.filter_cons]
    split
    · rename_i he
      have e : f x = c := by simpa using he
      have : l.filter (fun y => f y == c) = [] := by
        rw [List.filter_eq_nil_iff]
        intro y hy hc
        exact hn.1 (List.mem_map.mpr ⟨y, hy, by rw [e]; simpa using hc⟩)
      rw [this]; simp
    · exact filter_one hn.2
section
variable {prog : Program} {w : World} {A : Around} {E : Value → Shared → Prop} {s : Shared}
theorem raw_empty {id : String} {d : Addr} {o : Obj} {es ep} {Q : Array DictEntry → Shared → Prop} (ho : s.heap.get? d = some o) (hd : o.data = .dict es ep) (hk : ∀ e ∈ es.toList, s.TypeIs e.key "tuple") (hc : ∀ e ∈ es.toList, ∃ a, e.key = .ref a) (hn : (es.toList.map (·.hash)).Nodup) (h : Q es s) :
    wpAny (model prog w) A (Builtin.Dict.entriesForEmpty id d) Q E s := by
  unfold Builtin.Dict.entriesForEmpty
  refine wpAny_bind (wpAny_dictEntries ho hd ?_)
  refine wpAny_bind ?_
  rw [← Array.forIn_toList]
  refine wpAny_forIn_list _ (fun rest _ s' => s' = s ∧ ∀ e ∈ rest, e ∈ es.toList) _ ?_ ?_ _ _ ⟨rfl, fun e he => he⟩
  · rintro e rest _ s' ⟨rfl, hr⟩
    have he := hr e (.head _)
    obtain ⟨a, ha⟩ := hc e he
    have hT := hk e he
    refine wpAny_bind ?_
    rw [ha] at hT ⊢
    unfold Builtin.Dict.quietEq
    refine wpAny_bind (wpAny_specialOf hT F.slot_tuple_eq.lookup (wpAny_pure ?_))
    rw [if_pos (by decide)]
    have hle : (es.filter fun x => x.hash == e.hash).size ≤ 1 := by
      rw [← Array.length_toList, Array.toList_filter]
      exact filter_one (f := fun x : DictEntry => x.hash) hn
    rw [if_neg (by omega)]
    exact wpAny_pure ⟨rfl, fun x hx => hr x (.tail _ hx)⟩
  · rintro _ s' ⟨rfl, _⟩
    exact wpAny_pure h
theorem raw_merge {nm : String} {d o : Addr} {es : Array DictEntry} {ep : Nat} {Q : Unit → Shared → Prop} (hdo : d ≠ o) (hoS : (o == sysModules) = false) (hd : DRaw s.heap d #[] 0) (ho : DRaw s.heap o es ep) (hne : 0 < es.size) (hz : es.size ≤ sizeLine)
    (hk : ∀ e ∈ es.toList, s.TypeIs e.key "tuple") (hc : ∀ e ∈ es.toList, ∃ a, e.key = .ref a) (hn : (es.toList.map (·.hash)).Nodup)
    (hQ : ∀ h' o', h'.get? d = some o' → o'.ExactDict → o'.data = .dict es 1 → Heap.SameBut d s.heap h' → Q () { s with heap := h' }) :
    wpAny (model prog w) A (Builtin.Dict.mergeDict nm d o) Q E s := by
  obtain ⟨od, hod, hcd, hdd⟩ := id hd
  obtain ⟨oo, hoo, hco, hdo'⟩ := id ho
  unfold Builtin.Dict.mergeDict
  rw [if_neg (by simpa using hdo)]
  unfold Builtin.Dict.showsAll
  rw [if_neg (by rw [hoS]; exact Bool.false_ne_true)]
  refine wpAny_bind (wpAny_pure ?_)
  refine wpAny_bind (wpAny_dictEntries hoo hdo' ?_)
  have hfew : (es.all fun e => (keyPart e.key).isSome) = false := by
    rw [Bool.eq_false_iff]
    intro ht
    rw [Array.all_eq_true] at ht
    have h1 := ht 0 hne
    obtain ⟨a, ha⟩ := hc es[0] (Array.getElem_mem_toList hne)
    rw [ha] at h1
    exact absurd h1 Bool.false_ne_true
  dsimp only
  rw [hfew, Bool.and_false]
  rw [if_pos (by rfl)]
  refine wpAny_bind (wpAny_dictEntries hod hdd ?_)
  rw [if_pos (by rfl)]
  refine wpAny_bind (raw_empty hoo hdo' hk hc hn ?_)
  rw [if_pos (by simp only [Bool.not_eq_true', Array.isEmpty_eq_false_iff]; intro e; rw [e] at hne; exact absurd hne (by decide))]
  exact wpAny_bind (wpAny_updateDictKeysTo hod hdd (wpAny_pure (hQ _ _ (Heap.get?_update_self _ hod (Obj.isFreed_of_dict (Obj.data_mapDictKeys hdd _))) (hcd.mapDictKeys _) (Obj.data_mapDictKeys hdd _) (Heap.SameBut.update ..))) (by omega))
theorem raw_dict {o : Addr} {es : Array DictEntry} {ep : Nat} {Q : Value → Shared → Prop} (hoS : (o == sysModules) = false) (ho : DRaw s.heap o es ep) (hne : 0 < es.size) (hz : es.size ≤ sizeLine)
    (hk : ∀ e ∈ es.toList, s.TypeIs e.key "tuple") (hc : ∀ e ∈ es.toList, ∃ a, e.key = .ref a) (hn : (es.toList.map (·.hash)).Nodup)
    (h : ∀ h' o', h'.get? s.heap.objs.size = some o' → o'.ExactDict → o'.data = .dict es 1 → Heap.SameBut s.heap.objs.size (s.heap.push { cls := .type "dict", data := .dict #[] }) h' → Q (.ref s.heap.objs.size) { s with heap := h' }) :
    wpAny (model prog w) A (call (.type "dict") [.ref o]) Q E s := by
  refine callType_codes (Q₁ := fun obj s₁ => obj = .ref s.heap.objs.size ∧ s₁ = { s with heap := s.heap.push { cls := .type "dict", data := .dict #[] } }) F.kt_called_dict (F.kt_typeCall_dict_1 _) F.entry_dict_init (kt_code_dict_new _ ⟨rfl, rfl⟩) ?_
  rintro obj s₁ ⟨rfl, rfl⟩
  have hnew : DRaw (s.heap.push { cls := .type "dict", data := .dict #[] }) s.heap.objs.size #[] 0 := ⟨_, Heap.get?_push_size _ rfl, ⟨rfl, rfl, rfl⟩, rfl⟩
  have hnT : ({ s with heap := s.heap.push { cls := .type "dict", data := .dict #[] } } : Shared).TypeIs (.ref s.heap.objs.size) "dict" := ⟨_, Heap.get?_push_size _ rfl, rfl⟩
  have ho' : DRaw (s.heap.push { cls := .type "dict", data := .dict #[] }) o es ep := let ⟨oo, e, r⟩ := ho; ⟨oo, Heap.get?_push_of_some _ e, r⟩
  have hoT : ({ s with heap := s.heap.push { cls := .type "dict", data := .dict #[] } } : Shared).TypeIs (.ref o) "dict" := ho'.typeIs (s := { s with heap := s.heap.push { cls := .type "dict", data := .dict #[] } })
  have hdo : s.heap.objs.size ≠ o := by
    obtain ⟨_, hg, _⟩ := ho
    exact fun e => absurd (Heap.lt_size hg) (by rw [e]; exact Nat.lt_irrefl _)
  refine ⟨hnT, F.args_dict_init_2 _ _, ?_⟩
  unfold Builtin.«dict.__init__»
  refine wpAny_bind ?_
  unfold Builtin.Dict.selfAndRest
  refine wpAny_bind (wpAny_notOrdered_dict hnT ?_)
  show wpAny _ _ (pure (s.heap.objs.size, [Value.ref o])) _ _ _
  refine wpAny_pure ?_
  show wpAny _ _ (Builtin.Dict.updateFrom "dict.__init__" s.heap.objs.size (.ref o) [] .none) _ _ _
  unfold Builtin.Dict.updateFrom
  refine wpAny_bind (wpAny_typeOf hoT ?_)
  rw [if_neg (by decide)]
  refine wpAny_bind ?_
  unfold Builtin.Dict.merge
  refine wpAny_bind ?_
  unfold Builtin.Dict.readDirectly
  refine wpAny_bind (wpAny_isInstance hoT isSubtype_dict_dict ?_)
  simp only [Bool.not_true, Bool.false_eq_true, if_false]
  refine wpAny_bind (wpAny_specialOf hoT F.slot_dict_iter.lookup (wpAny_pure ?_))
  simp only [beq_self_eq_true, if_true]
  refine wpAny_bind (wpAny_pure ?_)
  refine raw_merge hdo hoS hnew ho' hne hz (fun e he => ?_) hc hn fun h' o' g1 g2 g3 hs' => ?_
  · obtain ⟨a, ha⟩ := hc e he
    have := hk e he
    rw [ha] at this ⊢
    obtain ⟨oo, q1, q2⟩ := this
    exact ⟨oo, Heap.get?_push_of_some _ q1, q2⟩
  show wpAny _ _ (Builtin.Dict.addKeywords s.heap.objs.size [] >>= _) _ _ _
  exact wpAny_bind (wpAny_pure (wpAny_pure ⟨rfl, h h' o' g1 g2 g3 hs'⟩))
end
section
variable {w : World} {A : Around} {E : Value → Shared → Prop} {s : Shared} {h₀ : Heap} {L d : Addr} {m : Str → Option Value} {news led : List (Addr × Obj)} {o : Obj} {ts : Ties}
theorem PairsIn.hashes {w : World} {xs : List (List Int × Addr × Value)} (P : PairsIn led xs ts) (hr : ∀ k ∈ ts, (0 ≤ k.1.1 ∧ k.1.1 ≤ 5) ∧ 0 ≤ k.1.2 ∧ k.1.2 ≤ 5) (hn : (xs.map (·.1)).Nodup) : ((xs.map (entryOfKey (tupleKind (intKind PR w)))).map (·.hash)).Nodup := by
  have key : ∀ (i : Nat) (x : List Int × Addr × Value), xs[i]? = some x → ∃ (u v : Int), x.1 = [u, v] ∧ (0 ≤ u ∧ u ≤ 5) ∧ (0 ≤ v ∧ v ≤ 5) := fun i x hx => by
    obtain ⟨a, u, v, b, t1, t2, t3, n, rfl, h1, h2⟩ := P.at' hx
    exact ⟨u, v, rfl, (hr _ (List.mem_of_getElem? h1)).1, (hr _ (List.mem_of_getElem? h1)).2⟩
  rw [List.map_map]
  rw [List.Nodup, List.pairwise_map] at hn ⊢
  refine List.Pairwise.imp_of_mem ?_ hn
  intro x y hx hy hne he
  obtain ⟨i, hi⟩ := List.mem_iff_getElem?.mp hx
  obtain ⟨j, hj⟩ := List.mem_iff_getElem?.mp hy
  obtain ⟨u, v, e1, r1, r2⟩ := key i x hi
  obtain ⟨u', v', e2, r3, r4⟩ := key j y hj
  have he' : pairHash u v = pairHash u' v' := by
    have : (tupleKind (intKind PR w)).hash x.1 = (tupleKind (intKind PR w)).hash y.1 := he
    rw [e1, e2] at this
    exact this
  obtain ⟨rfl, rfl⟩ := hash_apart u (small_in r1) v (small_in r2) u' (small_in r3) v' (small_in r4) he'
  exact hne (e1.trans e2.symm)
theorem pt_dict {Q : Value → Shared → Prop} (F : Fr h₀ L s.heap m) (N : News h₀ L s.heap news) (hbig : h₀.NoLimit) (hm : (d, o) ∈ news) (P : PTab w led o ts) (hled : ∀ p ∈ led, p ∈ news) (lo : (d == sysModules) = false) (hne : 0 < ts.length) (hz : ts.length ≤ 60)
    (hr : ∀ k ∈ ts, (0 ≤ k.1.1 ∧ k.1.1 ≤ 5) ∧ 0 ≤ k.1.2 ∧ k.1.2 ≤ 5)
    (h : ∀ D h' o', Fr h₀ L h' m → News h₀ L h' ((D, o') :: news) → (∀ p ∈ news, p.1 < D) → (D == sysModules) = false → PTab w led o' ts → Q (.ref D) { s with heap := h' }) :
    wpAny (model PR w) A (call (.type "dict") [.ref d]) Q E s := by
  obtain ⟨es, ep, xs, q1, q2, q3, hn, hP⟩ := P.ex
  have hsz : es.size = ts.length := by rw [← Array.length_toList, q3, List.length_map, hP.len]
  have hrow : ∀ e ∈ es.toList, ∃ a, e.key = .ref a ∧ ∃ x y t1 t2 n, (a, tup2 x y t1 t2 n) ∈ news := fun e he => by
    rw [q3] at he
    obtain ⟨x, hx, rfl⟩ := List.mem_map.mp he
    obtain ⟨i, hi⟩ := List.mem_iff_getElem?.mp hx
    obtain ⟨a, u, v, b, t1, t2, t3, n, rfl, h1, h2⟩ := hP.at' hi
    exact ⟨a, rfl, u, v, t1, t2, n, hled _ h2⟩
  refine raw_dict lo ⟨o, N.get hm, q1, q2⟩ (by omega) (by rw [sizeLine_eq]; omega) (fun e he => ?_) (fun e he => let ⟨a, ha, _⟩ := hrow e he; ⟨a, ha⟩) (by rw [q3]; exact hP.hashes hr hn) fun h' o' g1 g2 g3 hs' => ?_
  · obtain ⟨a, ha, x, y, t1, t2, n, hmem⟩ := hrow e he
    rw [ha]
    exact ⟨_, N.get hmem, rfl⟩
  · have N1 := News.push F N { cls := .type "dict", data := .dict #[] }
    exact h _ h' o' ((F.push _).change hs' (N1 _ (.head _)).2.1 (N1.fresh (.head _))) (N1.setHead N.apart hs' g1) (fun p hp => Heap.lt_size (N p hp).1) (F.notModules (modules_low hbig)) ⟨es, 1, xs, g2, g3, q3, hn, hP⟩
end

end
section -- Kid3
open PySem PySem.W PyProof.Rows PySem.Calls
set_option maxRecDepth 100000
set_option maxHeartbeats 8000000
local macro_rules | `(tactic| walk_at "no such line") => `(tactic| skip)
local macro_rules | `(tactic| walk_at "no such line") => `(tactic| skip)
local macro_rules | `(tactic| walk_at "no such line") => `(tactic| skip)
local macro_rules | `(tactic| walk_at "no such line") => `(tactic| skip)
local macro_rules | `(tactic| walk_at "no such line") => `(tactic| skip)
local macro_rules | `(tactic| walk_at "no such line") => `(tactic| skip)
local macro_rules | `(tactic| walk_at "no such line") => `(tactic| skip)
local macro_rules | `(tactic| walk_at "no such line") => `(tactic| skip)
local macro_rules | `(tactic| walk_at "no such line") => `(tactic| skip)
local macro_rules | `(tactic| walk_at "no such line") => `(tactic| skip)
local macro_rules | `(tactic| walk_at "no such line") => `(tactic| skip)
local macro_rules | `(tactic| walk_at "no such line") => `(tactic| skip)
local macro_rules | `(tactic| walk_at "no such line") => `(tactic| skip)
local macro_rules | `(tactic| walk_at "no such line") => `(tactic| skip)
local macro_rules | `(tactic| walk_at "no such line") => `(tactic| skip)
local macro_rules | `(tactic| walk_at "no such line") => `(tactic| skip)
local macro_rules | `(tactic| walk_at "no such line") => `(tactic| skip)
local macro_rules | `(tactic| walk_at "no such line") => `(tactic| skip)
theorem kfill_Kid3 : (PySem.Challenge.rw_vs0022_03 = PySem.Challenge.rw_vs0022_03) ∧ (hd.heap_39 = hd.heap_39) := by
  w_top off
  k_fill
  exact ⟨rfl, rfl⟩
local macro_rules | `(tactic| passes_own) => `(tactic| assumption)
local macro_rules | `(tactic| walk_at "call type:dict") => `(tactic| refine stop_here ?_)
local macro_rules | `(tactic| walk_at "setItem ref ref") => `(tactic| refine stop_here ?_)
local macro_rules | `(tactic| walk_at "subscriptTail") => `(tactic| ((with_reducible show wpAny _ _ (subscriptTail (Expr.Name (Str.ofString "back") _) _ (Value.ref _) (Value.int _ _)) _ _ _); (refine stop_here ?_)))
theorem set_X {w : World} {A : Around} {E : Value → Shared → Prop} {s : Shared} {h₀ : Heap} {L D T : Addr} {m : Str → Option Value} {P r : List (Addr × Obj)} {oD : Obj} {ts : Ties} {x y b : Int} {t1 t2 tb : Tok} {Q : Unit → Shared → Prop} (F : Fr h₀ L s.heap m) (N : News h₀ L s.heap ((T, tup2 x y t1 t2 0) :: (D, oD) :: (P ++ r))) (nd : ND ((D, oD) :: (P ++ r))) (hT : ∀ q ∈ (D, oD) :: (P ++ r), q.1 < T) (PT : PTab w r oD ts) (hu : A.units + 1 < cLine) (hz : ts.length ≤ 60)
    (h : ∀ h' o' tk, Fr h₀ L h' m → News h₀ L h' ((D, o') :: (P ++ (T, tup2 x y t1 t2 0) :: r)) → ND ((D, o') :: (P ++ (T, tup2 x y t1 t2 0) :: r)) → PTab w ((T, tup2 x y t1 t2 0) :: r) o' (putT ts (x, y) b) → Q () { s with heap := h', toks := tk }) :
    wpAny (model PR w) A (setItem (.ref D) (.ref T) (.int b tb)) Q E s := by
  have n1 : ND ((T, tup2 x y t1 t2 0) :: (D, oD) :: (P ++ r)) := nd_new nd hT
  have n2 := nd_comm [_] [_] n1
  have N2 := news_comm [_] [_] N
  refine pt_set (led' := (T, tup2 x y t1 t2 0) :: r) F N2 (upd_head n2 rfl) PT (fun p hp => .tail _ (.tail _ (show p ∈ P ++ r from List.mem_append_right _ hp))) (.tail _ (.head _)) (fun p hp => .tail _ hp) (.head _) hu hz fun h' o' tk F' N' P' => ?_
  have n3 : ND ((D, o') :: (T, tup2 x y t1 t2 0) :: (P ++ r)) := nd_same n2 rfl
  refine h h' o' tk F' (News.perm N' fun p hp => ?_) ?_ P'
  · simp only [List.mem_cons, List.mem_append, List.append_eq, List.nil_append, List.cons_append] at hp ⊢
    rcases hp with h | h | h | h
    · exact .inl h
    · exact .inr (.inr (.inl h))
    · exact .inr (.inl h)
    · exact .inr (.inr (.inr h))
  · have p : ((D, o') :: (T, tup2 x y t1 t2 0) :: (P ++ r)).Perm ((D, o') :: (P ++ (T, tup2 x y t1 t2 0) :: r)) := .cons _ List.perm_middle.symm
    exact (p.map (·.1)).nodup_iff.mp n3
section
variable {w : World} {base h₀ : Heap} {L : Nat} {fa : Addr} {cd : Value} {s : Shared} {mg mb : Str → Option Value} {p : Program} {loose : List Str} {mean : ExcName → Option Value} {Q : Flow → Shared → Prop} {E : Value → Shared → Prop} {tl : List Stmt}
theorem kid3 {u : Str → Option Value} {U : Int} {tU y3 y4 te z1 z2 z3 z4 z5 : Tok} {st rA kA ra : Addr} {P r : List (Addr × Obj)} {d : Stp} {e : Int} {pt : Pt} {lg ba sa da : Addr} {bo : Obj} {y1 y2 : Tok}
    (B : Below callerA base [] h₀) (F : Fr h₀ L s.heap u) (X₀ : (hd.heap_39 w.params).In h₀) (T : Top p loose mean mg mb h₀) (hE : PassesOwn (model PR w) (lawA L fa cd) (lawEnv L fa cd) E)
    (hm : MHas u (stepPs d z1 z2 z3 z4 z5 lg (kidPs U tU st rA kA ra pt.spot y3 ba sa da pt.n y4 e te)))
    (N : News h₀ L s.heap (P ++ r)) (nd : ND (P ++ r)) (x6 : (ba, tup2 pt.b0 pt.b1 y1 y2 0) ∈ r) (x10 : (da, bo) ∈ r) (x11 : PTab w r bo pt.B) (x12 : (da == sysModules) = false) (ok : StpOk d)
    (hB0 : 0 < pt.B.length) (hBl : pt.B.length ≤ 40) (hBr : ∀ k ∈ pt.B, (0 ≤ k.1.1 ∧ k.1.1 ≤ 5) ∧ 0 ≤ k.1.2 ∧ k.1.2 ≤ 5)
    (k : ∀ h' tk m' mo oM r', (∀ q ∈ r, q ∈ r') → Fr h₀ L h' m' → MHas m' ((Str.ofString "more", .ref mo) :: stepPs d z1 z2 z3 z4 z5 lg (kidPs U tU st rA kA ra pt.spot y3 ba sa da pt.n y4 e te)) →
      News h₀ L h' (P ++ r') → ND (P ++ r') → (mo, oM) ∈ r' → PTab w r' oM (winB U d pt) → (mo == sysModules) = false →
      wpAny (model PR w) (lawA L fa cd) (execs tl (lawEnv L fa cd)) Q E { s with heap := h', toks := tk }) :
    wpAny (model PR w) (lawA L fa cd) (execs (c6.hd :: c7.hd :: c8.hd :: c9.hd :: c10.hd :: tl) (lawEnv L fa cd)) Q E s := by
  dsimp only [lawA, lawEnv, lawG, Mine.c6, Mine.c7, Mine.c8, Mine.c9, Mine.c10] at hE k ⊢
  obtain ⟨u, rfl⟩ := kst_all (m := u) hm
  dsimp only [stepPs, kidPs, kstB] at F
  dsimp only [stepPs, kidPs] at k
  obtain ⟨okc, ok0, ok2, okh, okf, oks⟩ := id ok
  k_steps
  unfold Stop
  rename Fr _ _ _ _ => lF
  rename News _ _ _ _ => lN
  refine pt_dict lF lN (Top.nolimit T) (List.mem_append_right _ x10) x11 (fun q hq => List.mem_append_right _ hq) x12 hB0 (by omega) hBr fun D h1 o1 F1 N1 l1 lo1 P1 => ?_
  have nd1 := nd_new (o := o1) nd l1
  clear lF lN
  k_steps
  unfold Stop
  rename Fr _ _ _ _ => lF
  rename News _ _ _ _ => lN
  unfold winB at k
  dsimp only at k
  generalize hlw : d.low = lw at *
  rename (_ < _ ∧ AllLt _ _) => q
  refine set_X lF lN nd1 (lt_cons q.1 (lt_all q.2)) P1 (by units_room) (by omega) fun h2 oa tk2 F2 N2 nd2 P2 => ?_
  clear lF lN q
  have len2 := putT_len3 pt.B (pt.n + 1, 0) (8 * U)
  k_steps
  unfold Stop
  rename Fr _ _ _ _ => lF
  rename News _ _ _ _ => lN
  rename (_ < _ ∧ AllLt _ _) => q
  refine set_X lF lN nd2 (lt_cons q.1 (lt_all q.2)) P2 (by units_room) (by omega) fun h3 ob tk3 F3 N3 nd3 P3 => ?_
  clear lF lN q
  have len3 := putT_len3 (putT pt.B (pt.n + 1, 0) (8 * U)) (pt.n, pt.n + 1) 0
  k_steps
  unfold Stop
  rename Fr _ _ _ _ => lF
  rename News _ _ _ _ => lN
  refine bk_item (p := pt) lN (.tail _ (List.mem_append_right _ (.tail _ (.tail _ x6)))) okc fun t7 => ?_
  generalize hbk : pt.bk d = bk at *
  k_steps
  unfold Stop
  rename Fr _ _ _ _ => lF
  rename News _ _ _ _ => lN
  rename (_ < _ ∧ AllLt _ _) => q
  refine set_X lF lN nd3 (lt_cons q.1 (lt_all q.2)) P3 (by units_room) (by omega) fun h4 oc tk4 F4 N4 nd4 P4 => ?_
  clear lF lN q
  have len4 := putT_len3 (putT (putT pt.B (pt.n + 1, 0) (8 * U)) (pt.n, pt.n + 1) 0) (bk, pt.n + 1) (-lw * U)
  cases hh : d.high with
  | none =>
    rw [hh] at F4
    dsimp only [optV] at F4
    rw [hh] at k
    dsimp only [optV] at k
    k_steps
    rename Fr _ _ _ _ => lF
    exact k _ _ _ D oc _ (fun q hq => .tail _ (.tail _ (.tail _ (.tail _ hq)))) lF (by repeat (first | exact MHas.nil | refine MHas.cons rfl ?_)) (news_sx [_] P N4) (nd_sx [_] P nd4) (.head _) (P4.mono fun q hq => .tail _ hq) lo1
  | some x =>
    rw [hh] at F4
    dsimp only [optV] at F4
    rw [hh] at k
    dsimp only [optV] at k
    obtain ⟨hx1, hx2⟩ := okh x hh
    k_steps
    unfold Stop
    rename Fr _ _ _ _ => lF
    rename News _ _ _ _ => lN
    refine bk_item (p := pt) lN (.tail _ (List.mem_append_right _ (.tail _ (.tail _ (.tail _ x6))))) okc fun t8 => ?_
    rw [hbk]
    k_steps
    unfold Stop
    rename Fr _ _ _ _ => lF
    rename News _ _ _ _ => lN
    rename (_ < _ ∧ AllLt _ _) => q
    refine set_X lF lN nd4 (lt_cons q.1 (lt_all q.2)) P4 (by units_room) (by omega) fun h5 od tk5 F5 N5 nd5 P5 => ?_
    clear lF lN q
    k_steps
    rename Fr _ _ _ _ => lF
    exact k _ _ _ D od _ (fun q hq => .tail _ (.tail _ (.tail _ (.tail _ (.tail _ hq))))) lF (by repeat (first | exact MHas.nil | refine MHas.cons rfl ?_)) (news_sx [_] P N5) (nd_sx [_] P nd5) (.head _) (P5.mono fun q hq => .tail _ hq) lo1
end

end
section -- KidT
open PySem PySem.W PyProof.Rows PySem.Calls
set_option maxRecDepth 100000
set_option maxHeartbeats 8000000
local macro_rules | `(tactic| walk_at "no such line") => `(tactic| skip)
local macro_rules | `(tactic| walk_at "no such line") => `(tactic| skip)
local macro_rules | `(tactic| walk_at "no such line") => `(tactic| skip)
local macro_rules | `(tactic| walk_at "no such line") => `(tactic| skip)
local macro_rules | `(tactic| walk_at "no such line") => `(tactic| skip)
local macro_rules | `(tactic| walk_at "no such line") => `(tactic| skip)
local macro_rules | `(tactic| walk_at "no such line") => `(tactic| skip)
local macro_rules | `(tactic| walk_at "no such line") => `(tactic| skip)
local macro_rules | `(tactic| walk_at "no such line") => `(tactic| skip)
local macro_rules | `(tactic| walk_at "no such line") => `(tactic| skip)
local macro_rules | `(tactic| walk_at "no such line") => `(tactic| skip)
local macro_rules | `(tactic| walk_at "no such line") => `(tactic| skip)
local macro_rules | `(tactic| walk_at "no such line") => `(tactic| skip)
local macro_rules | `(tactic| walk_at "no such line") => `(tactic| skip)
local macro_rules | `(tactic| walk_at "no such line") => `(tactic| skip)
local macro_rules | `(tactic| walk_at "no such line") => `(tactic| skip)
local macro_rules | `(tactic| walk_at "no such line") => `(tactic| skip)
local macro_rules | `(tactic| walk_at "no such line") => `(tactic| skip)
local macro_rules | `(tactic| walk_at "no such line") => `(tactic| skip)
local macro_rules | `(tactic| walk_at "no such line") => `(tactic| skip)
local macro_rules | `(tactic| walk_at "no such line") => `(tactic| skip)
local macro_rules | `(tactic| walk_at "no such line") => `(tactic| skip)
theorem kfill_KidT : (PySem.Challenge.rw_vs0022_03 = PySem.Challenge.rw_vs0022_03) ∧ (hd.heap_39 = hd.heap_39) := by
  w_top off
  k_fill
  exact ⟨rfl, rfl⟩
def spE : Got (match c12.hd with | .Expr (.Call _ [.Tuple [_, e, _, _, _, _] _ _] _ _) _ => some e | _ => none) := ⟨_, rfl⟩
def kidB (e : Nat) (n sp : Int) : Bool := (decide (e = 3) == decide (n = 3)) && (decide (e = 3) || decide (fromOf e = sp))
theorem kidB_iff {e : Nat} {n sp : Int} : kidB e n sp = true ↔ (e = 3 ↔ n = 3) ∧ (e = 3 ∨ fromOf e = sp) := by
  unfold kidB
  simp only [Bool.and_eq_true, Bool.or_eq_true, beq_iff_eq, decide_eq_decide, decide_eq_true_eq]
theorem kidB_true {e : Nat} {n sp : Int} (h : e = 3 ↔ n = 3) (h' : e = 3 ∨ fromOf e = sp) : kidB e n sp = true := kidB_iff.mpr ⟨h, h'⟩
theorem kidB_false {e : Nat} {n sp : Int} (h : ¬ ((e = 3 ↔ n = 3) ∧ (e = 3 ∨ fromOf e = sp))) : kidB e n sp = false := Bool.eq_false_iff.mpr fun q => h (kidB_iff.mp q)
theorem kidB_go {Q : Bool → Shared → Prop} {b c : Bool} {s : Shared} (h : Q b s) (e : b = c) : Q c s := e ▸ h
section
variable {w : World} {base g : Heap} {L : Nat} {fa : Addr} {cd : Value} {m mg mb : Str → Option Value} {p : Program} {loose : List Str} {mean : ExcName → Option Value} {s : Shared} {news : List (Addr × Obj)} {E : Value → Shared → Prop} {n sp : Int} {e : Nat} {t1 t2 t3 : Tok}
theorem t_kid {Q : Bool → Shared → Prop} (B : Below callerA base [] g) (F : Fr g L s.heap m) (X₀ : (hd.heap_39 w.params).In g) (T : Top p loose mean mg mb g) (N : News g L s.heap news) (m1 : m (Str.ofString "e") = some (.int (0 + (e : Int)) t1)) (m2 : m (Str.ofString "size") = some (.int n t2)) (m3 : m (Str.ofString "spot") = some (.int sp t3)) (he : e < 4)
    (k : ∀ h' tk, Fr g L h' m → News g L h' news → Q (kidB e n sp) { s with heap := h', toks := tk }) :
    wpAny (model PR w) (lawA L fa cd) (isTrue iC.val.1 (lawEnv L fa cd) (eval iC.val.1 (lawEnv L fa cd))) Q E s := by
  dsimp only [lawA, lawEnv, lawG, iC]
  obtain ⟨m, rfl⟩ := kst_all (m := m) (ps := [(Str.ofString "e", _), (Str.ofString "size", _), (Str.ofString "spot", _)]) (List.forall_mem_cons.mpr ⟨m1, List.forall_mem_cons.mpr ⟨m2, List.forall_mem_cons.mpr ⟨m3, fun _ h => nomatch h⟩⟩⟩)
  dsimp only [kstB] at F k
  have e4 : e = 0 ∨ e = 1 ∨ e = 2 ∨ e = 3 := by omega
  have f0 : fromOf 0 = 0 := rfl
  have f1 : fromOf 1 = 0 := rfl
  have f2 : fromOf 2 = 1 := rfl
  rcases e4 with rfl | rfl | rfl | rfl
  all_goals k_steps
  all_goals (rename Fr _ _ _ _ => lF)
  all_goals (rename News _ _ _ _ => lN)
  all_goals (refine kidB_go (k _ _ lF (News.perm lN fun p hp => by repeat (first | exact hp | refine List.mem_cons_of_mem _ ?_))) ?_)
  all_goals first | (rename (_ == _) = true => hb; rw [beq_iff_eq, Bool.eq_iff_iff, beq_iff_eq, beq_iff_eq] at hb) | (rename (_ == _) = false => hb; rw [beq_eq_false_iff_ne, Ne, Bool.eq_iff_iff, beq_iff_eq, beq_iff_eq] at hb)
  all_goals first | exact kidB_true (by omega) (by omega) | exact kidB_false (by omega)
theorem e_spot {Q : Value → Shared → Prop} (B : Below callerA base [] g) (F : Fr g L s.heap m) (X₀ : (hd.heap_39 w.params).In g) (T : Top p loose mean mg mb g) (N : News g L s.heap news) (m1 : m (Str.ofString "e") = some (.int (0 + (e : Int)) t1)) (m3 : m (Str.ofString "spot") = some (.int sp t3)) (he : e < 4)
    (k : ∀ h' tk t, Fr g L h' m → News g L h' news → Q (.int (if e = 3 then sp else toOf e) t) { s with heap := h', toks := tk }) :
    wpAny (model PR w) (lawA L fa cd) (eval spE.val (lawEnv L fa cd)) Q E s := by
  dsimp only [lawA, lawEnv, lawG, spE]
  obtain ⟨m, rfl⟩ := kst_all (m := m) (ps := [(Str.ofString "e", _), (Str.ofString "spot", _)]) (List.forall_mem_cons.mpr ⟨m1, List.forall_mem_cons.mpr ⟨m3, fun _ h => nomatch h⟩⟩)
  dsimp only [kstB] at F k
  have e4 : e = 0 ∨ e = 1 ∨ e = 2 ∨ e = 3 := by omega
  rcases e4 with rfl | rfl | rfl | rfl
  all_goals k_steps
  all_goals (rename Fr _ _ _ _ => lF)
  all_goals (rename News _ _ _ _ => lN)
  all_goals exact k _ _ _ lF (News.perm lN fun p hp => by repeat (first | exact hp | refine List.mem_cons_of_mem _ ?_))
end

end
section -- Kid4L
open PySem PySem.W PyProof.Rows PySem.Calls
set_option maxRecDepth 100000
set_option maxHeartbeats 8000000
local macro_rules | `(tactic| walk_at "no such line") => `(tactic| skip)
local macro_rules | `(tactic| walk_at "no such line") => `(tactic| skip)
local macro_rules | `(tactic| walk_at "no such line") => `(tactic| skip)
local macro_rules | `(tactic| walk_at "no such line") => `(tactic| skip)
local macro_rules | `(tactic| walk_at "no such line") => `(tactic| skip)
local macro_rules | `(tactic| walk_at "no such line") => `(tactic| skip)
local macro_rules | `(tactic| walk_at "no such line") => `(tactic| skip)
local macro_rules | `(tactic| walk_at "no such line") => `(tactic| skip)
local macro_rules | `(tactic| walk_at "no such line") => `(tactic| skip)
local macro_rules | `(tactic| walk_at "no such line") => `(tactic| skip)
local macro_rules | `(tactic| walk_at "no such line") => `(tactic| skip)
local macro_rules | `(tactic| walk_at "no such line") => `(tactic| skip)
local macro_rules | `(tactic| walk_at "no such line") => `(tactic| skip)
local macro_rules | `(tactic| walk_at "no such line") => `(tactic| skip)
local macro_rules | `(tactic| walk_at "no such line") => `(tactic| skip)
local macro_rules | `(tactic| walk_at "no such line") => `(tactic| skip)
local macro_rules | `(tactic| walk_at "no such line") => `(tactic| skip)
local macro_rules | `(tactic| walk_at "no such line") => `(tactic| skip)
local macro_rules | `(tactic| walk_at "no such line") => `(tactic| skip)
local macro_rules | `(tactic| walk_at "no such line") => `(tactic| skip)
local macro_rules | `(tactic| walk_at "no such line") => `(tactic| skip)
local macro_rules | `(tactic| walk_at "no such line") => `(tactic| skip)
theorem kfill_Kid4L : (PySem.Challenge.rw_vs0022_03 = PySem.Challenge.rw_vs0022_03) ∧ (hd.heap_39 = hd.heap_39) := by
  w_top off
  k_fill
  exact ⟨rfl, rfl⟩
local macro_rules | `(tactic| walk_at "subscriptTail") => `(tactic| refine stop_here ?_)
theorem two_item {prog : Program} {w : World} {A : Around} {E : Value → Shared → Prop} {s : Shared} {value slice : Expr} {Q : Value → Shared → Prop} {h₀ : Heap} {L l : Addr} {news : List (Addr × Obj)} {x y : Int} {t u1 u2 : Tok} (i : Bool) (N : News h₀ L s.heap news) (hm : (l, tup2 x y u1 u2 0) ∈ news) (h : Q (if i then .int y u2 else .int x u1) s)
    (hs : subscripted slice false (.ref l) (.int (if i then 1 else 0) t) = operate [.ref l, .int (if i then 1 else 0) t] (getItem (.ref l) (.int (if i then 1 else 0) t)) := by with_unfolding_all rfl) :
    wpAny (model prog w) A (subscriptTail value slice (.ref l) (.int (if i then 1 else 0) t)) Q E s := by
  have hl : IsTup s.heap l #[.int x u1, .int y u2] := ⟨_, (N _ hm).1, rfl, 0, rfl⟩
  cases i with
  | false => exact tail_any hl.typeIs slot_tuple_getitem.lookup (getItem_tuple hl (j := 0) (x := .int x u1) (by decide) (by decide) rfl rfl h) hs
  | true => exact tail_any hl.typeIs slot_tuple_getitem.lookup (getItem_tuple hl (j := 1) (x := .int y u2) (by decide) (by decide) rfl rfl h) hs
def aE : Got (tupOf c11.hd) := ⟨(_, _), rfl⟩
theorem pull {h₀ h : Heap} {L : Addr} {G : List (Addr × Obj)} {x : Addr × Obj} (N : News h₀ L h G) (nd : ND G) (hx : x ∈ G) : ∃ G', News h₀ L h (x :: G') ∧ ND (x :: G') ∧ (∀ q ∈ G, q.1 ≠ x.1 → q ∈ G') ∧ ∀ q ∈ G', q ∈ G := by
  obtain ⟨l1, l2, rfl⟩ := List.append_of_mem hx
  refine ⟨l1 ++ l2, news_mid N, nd_mid nd, fun q hq hne => ?_, fun q hq => ?_⟩
  · simp only [List.mem_append, List.mem_cons] at hq ⊢
    rcases hq with h | h | h
    · exact .inl h
    · exact absurd (by rw [h]) hne
    · exact .inr h
  · simp only [List.mem_append, List.mem_cons] at hq ⊢
    rcases hq with h | h
    · exact .inl h
    · exact .inr (.inr h)
section
variable {w : World} {A : Around} {h₀ : Heap} {L : Nat} {fa : Addr} {cd : Value} {m : Str → Option Value} {s : Shared} {G : List (Addr × Obj)} {E : Value → Shared → Prop} {n b0 b1 : Int} {d : Stp} {t1 t2 u1 u2 : Tok} {ba : Addr}
theorem mid_in {h : Heap} {P r : List (Addr × Obj)} {x y : Addr × Obj} (N : News h₀ L h (x :: y :: (P ++ r))) : News h₀ L h (x :: (P ++ y :: r)) :=
  N.perm fun _ hp => ((List.Perm.cons x (List.perm_middle (l₁ := P) (a := y) (l₂ := r))).mem_iff).mp hp
theorem mid_ind {P r : List (Addr × Obj)} {x y : Addr × Obj} (N : ND (x :: y :: (P ++ r))) : ND (x :: (P ++ y :: r)) :=
  ((List.Perm.cons x (List.perm_middle (l₁ := P) (a := y) (l₂ := r))).map (·.1)).nodup_iff.mpr N
theorem row_add {t b : Addr} {vs : List Value} {x : Value} {P r : List (Addr × Obj)} {Q : Value → Shared → Prop} (F : Fr h₀ L s.heap m) (N : News h₀ L s.heap ((b, tupO [x]) :: (P ++ r))) (nd : ND ((b, tupO [x]) :: (P ++ r))) (ht : (t, tupO vs) ∈ r) (hz : vs.length ≤ 100)
    (h : ∀ D h' r', (∀ q ∈ r, q ∈ r') → Fr h₀ L h' m → News h₀ L h' (P ++ r') → ND (P ++ r') → (D, tupO (vs ++ [x])) ∈ r' → Q (.ref D) { s with heap := h' }) :
    wpAny (model PR w) A (binaryOp .Add (.ref t) (.ref b)) Q E s := by
  have ht' : (t, tupO vs) ∈ (b, tupO [x]) :: (P ++ r) := .tail _ (List.mem_append_right _ ht)
  refine add_tuples F N ⟨_, (N _ ht').1, rfl, 0, rfl⟩ ⟨_, (N _ (.head _)).1, rfl, 0, rfl⟩ (fun e => ?_) (fun _ e => by cases e) (fun _ _ h' F' N' => ?_) (by rw [sizeLine_eq, List.length_singleton]; omega)
  · subst e
    exact h b s.heap ((b, tupO [x]) :: r) (fun _ h => .tail _ h) F (news_sx [_] P N) (nd_sx [_] P nd) (.head _)
  · exact h _ h' (_ :: (b, tupO [x]) :: r) (fun q hq => .tail _ (.tail _ hq)) F' (news_sx [_, _] P N') (nd_sx [_, _] P (nd_new nd fun q hq => Heap.lt_size (N q hq).1)) (.head _)
theorem e_b0 {Q : Value → Shared → Prop} (F : Fr h₀ L s.heap m) (N : News h₀ L s.heap G) (m1 : m (Str.ofString "first") = some (.int d.fst t1)) (m2 : m (Str.ofString "size") = some (.int n t2)) (m3 : m (Str.ofString "back") = some (.ref ba)) (hb : (ba, tup2 b0 b1 u1 u2 0) ∈ G) (hc : d.fst = 0 ∨ d.fst = 1)
    (k : ∀ t tk, Q (.int (if d.fst = 0 then b0 else n + 1) t) { s with toks := tk }) :
    wpAny (model PR w) (lawA L fa cd) (eval aE.val.1 (lawEnv L fa cd)) Q E s := by
  dsimp only [lawA, lawEnv, lawG, aE]
  obtain ⟨m, rfl⟩ := kst_all (m := m) (ps := [(Str.ofString "first", _), (Str.ofString "size", _), (Str.ofString "back", _)]) (List.forall_mem_cons.mpr ⟨m1, List.forall_mem_cons.mpr ⟨m2, List.forall_mem_cons.mpr ⟨m3, fun _ h => nomatch h⟩⟩⟩)
  dsimp only [kstB] at F
  rcases hc with hc | hc <;> rw [hc] at F k
  · simp only [if_true] at k
    k_steps
    unfold Stop
    rename News _ _ _ _ => lN
    refine two_item false lN hb ?_
    exact k _ _
  · simp only [show ((1 : Int) = 0) = False from eq_false (by decide), if_false] at k
    k_steps
    exact k _ _
theorem e_b1 {Q : Value → Shared → Prop} (F : Fr h₀ L s.heap m) (N : News h₀ L s.heap G) (m1 : m (Str.ofString "second") = some (.int d.snd t1)) (m2 : m (Str.ofString "size") = some (.int n t2)) (m3 : m (Str.ofString "back") = some (.ref ba)) (hb : (ba, tup2 b0 b1 u1 u2 0) ∈ G) (hc : d.snd = 0 ∨ d.snd = 1)
    (k : ∀ t tk, Q (.int (if d.snd = 0 then b1 else n + 1) t) { s with toks := tk }) :
    wpAny (model PR w) (lawA L fa cd) (eval aE.val.2 (lawEnv L fa cd)) Q E s := by
  dsimp only [lawA, lawEnv, lawG, aE]
  obtain ⟨m, rfl⟩ := kst_all (m := m) (ps := [(Str.ofString "second", _), (Str.ofString "size", _), (Str.ofString "back", _)]) (List.forall_mem_cons.mpr ⟨m1, List.forall_mem_cons.mpr ⟨m2, List.forall_mem_cons.mpr ⟨m3, fun _ h => nomatch h⟩⟩⟩)
  dsimp only [kstB] at F
  rcases hc with hc | hc <;> rw [hc] at F k
  · simp only [if_true] at k
    k_steps
    unfold Stop
    rename News _ _ _ _ => lN
    refine two_item true lN hb ?_
    exact k _ _
  · simp only [show ((1 : Int) = 0) = False from eq_false (by decide), if_false] at k
    k_steps
    exact k _ _
end

end
section -- Kid4
open PySem PySem.W PyProof.Rows PySem.Calls
set_option maxRecDepth 100000
set_option maxHeartbeats 8000000
local macro_rules | `(tactic| walk_at "no such line") => `(tactic| skip)
local macro_rules | `(tactic| walk_at "no such line") => `(tactic| skip)
local macro_rules | `(tactic| walk_at "no such line") => `(tactic| skip)
local macro_rules | `(tactic| walk_at "no such line") => `(tactic| skip)
local macro_rules | `(tactic| walk_at "no such line") => `(tactic| skip)
local macro_rules | `(tactic| walk_at "no such line") => `(tactic| skip)
local macro_rules | `(tactic| walk_at "no such line") => `(tactic| skip)
local macro_rules | `(tactic| walk_at "no such line") => `(tactic| skip)
local macro_rules | `(tactic| walk_at "no such line") => `(tactic| skip)
local macro_rules | `(tactic| walk_at "no such line") => `(tactic| skip)
local macro_rules | `(tactic| walk_at "no such line") => `(tactic| skip)
local macro_rules | `(tactic| walk_at "no such line") => `(tactic| skip)
local macro_rules | `(tactic| walk_at "no such line") => `(tactic| skip)
local macro_rules | `(tactic| walk_at "no such line") => `(tactic| skip)
local macro_rules | `(tactic| walk_at "no such line") => `(tactic| skip)
local macro_rules | `(tactic| walk_at "no such line") => `(tactic| skip)
local macro_rules | `(tactic| walk_at "no such line") => `(tactic| skip)
local macro_rules | `(tactic| walk_at "no such line") => `(tactic| skip)
theorem kfill_Kid4 : (PySem.Challenge.rw_vs0022_03 = PySem.Challenge.rw_vs0022_03) ∧ (hd.heap_39 = hd.heap_39) := by
  w_top off
  k_fill
  exact ⟨rfl, rfl⟩
local macro_rules | `(tactic| passes_own) => `(tactic| assumption)
local macro_rules | `(tactic| walk_at "eval IfExp") => `(tactic| refine stop_here ?_)
local macro_rules | `(tactic| walk_at "subscriptTail") => `(tactic| refine stop_here ?_)
local macro_rules | `(tactic| walk_at "getMethod ref") => `(tactic| refine stop_here ?_)
local macro_rules | `(tactic| walk_at "binaryOp Add ref ref") => `(tactic| refine stop_here ?_)
local macro_rules | `(tactic| walk_at "call ref") => `(tactic| refine stop_here ?_)
local macro_rules | `(tactic| walk_at "call builtin:list.append") => `(tactic| refine stop_here ?_)
theorem ints_one {a b : Int} {t : Tok} (h : a = b) : IntsAre [.int a t] [b] := by subst h; exact .cons _ _ .nil
theorem upd_hd {d : Addr} {o o' o0 : Obj} {l l0 : List (Addr × Obj)} (h : ND ((d, o0) :: l0)) (e : l.map (·.1) = l0.map (·.1)) : Upd d o o' ((d, o) :: l) ((d, o') :: l) :=
  .head fun _ hq he => (List.nodup_cons.mp (show (d :: l.map (·.1)).Nodup from e ▸ h)).1 (he ▸ List.mem_map_of_mem hq)
theorem PairsIn.tups {led led' : List (Addr × Obj)} (hs : ∀ a x y t1 t2 n, (a, tup2 x y t1 t2 n) ∈ led → (a, tup2 x y t1 t2 n) ∈ led') {xs : List (List Int × Addr × Value)} {ts : Ties} (h : PairsIn led xs ts) : PairsIn led' xs ts := by
  induction h with
  | nil => exact .nil
  | cons m _ ih => exact .cons (hs _ _ _ _ _ _ m) ih
theorem PTab.tups {w : World} {led led' : List (Addr × Obj)} {o : Obj} {ts : Ties} (h : PTab w led o ts) (hs : ∀ a x y t1 t2 n, (a, tup2 x y t1 t2 n) ∈ led → (a, tup2 x y t1 t2 n) ∈ led') : PTab w led' o ts := by
  obtain ⟨es, ep, xs, a, b, c, n, d⟩ := h.ex
  exact ⟨es, ep, xs, a, b, c, n, d.tups hs⟩
section
variable {w : World} {base h₀ : Heap} {L : Nat} {fa : Addr} {cd : Value} {s : Shared} {mg mb : Str → Option Value} {p : Program} {loose : List Str} {mean : ExcName → Option Value} {Q : Flow → Shared → Prop} {E : Value → Shared → Prop} {tl : List Stmt}
theorem kid4 {u : Str → Option Value} {U : Int} {tU y3 y4 te z1 z2 z3 z4 z5 : Tok} {st rA kA ra : Addr} {P r : List (Addr × Obj)} {ds : Nat → Stp} {e : Nat} {pt : Pt} {row : List Nat} {v : NetV} {mo lg ba sa da : Addr} {rv rowsv : List Value} {so oM : Obj} {y1 y2 : Tok} {rn : Nat}
    (B : Below callerA base [] h₀) (F : Fr h₀ L s.heap u) (X₀ : (hd.heap_39 w.params).In h₀) (T : Top p loose mean mg mb h₀) (hE : PassesOwn (model PR w) (lawA L fa cd) (lawEnv L fa cd) E)
    (hm : MHas u ((Str.ofString "more", .ref mo) :: stepPs (ds e) z1 z2 z3 z4 z5 lg (kidPs U tU st rA kA ra pt.spot y3 ba sa da pt.n y4 (0 + (e : Int)) te)))
    (N : News h₀ L s.heap ((rA, listOf rowsv.toArray rn) :: (P ++ r))) (nd : ND ((rA, listOf rowsv.toArray rn) :: (P ++ r)))
    (x2 : (ra, tupO rv) ∈ r) (x3 : IntsAre rv (row.map fun (e : Nat) => (e : Int))) (x6 : (ba, tup2 pt.b0 pt.b1 y1 y2 0) ∈ r) (x7 : (sa, so) ∈ r) (x8 : PTab w r so pt.S) (x9 : (sa == sysModules) = false) (hz : pt.S.length ≤ 16)
    (S : StepsAt r ds st) (he : e < 4) (ok : StpOk (ds e)) (hlg : v.self = lg) (I : v.In w r) (O : v.Ok w r (nextPt U (ds e) e pt).E) (hmo : (mo, oM) ∈ r) (PM : PTab w r oM (winB U (ds e) pt)) (lom : (mo == sysModules) = false) (hl : row.length ≤ 4) (hrl : rowsv.length ≤ 20)
    (k : ∀ h' tk m' x rn' r', Fr h₀ L h' m' → MHas m' (kidPs U tU st rA kA ra pt.spot y3 ba sa da pt.n y4 (0 + (e : Int)) te) → (∀ q ∈ r, q ∈ r') → RowAt w r' (nextPt U (ds e) e pt) (row ++ [e]) x →
      News h₀ L h' ((rA, listOf (rowsv ++ [x]).toArray rn') :: (P ++ r')) → ND ((rA, listOf (rowsv ++ [x]).toArray rn') :: (P ++ r')) →
      wpAny (model PR w) (lawA L fa cd) (execs tl (lawEnv L fa cd)) Q E { s with heap := h', toks := tk }) :
    wpAny (model PR w) (lawA L fa cd) (execs (c11.hd :: c12.hd :: tl) (lawEnv L fa cd)) Q E s := by
  dsimp only [lawA, lawEnv, lawG, Mine.c11, Mine.c12] at hE k ⊢
  obtain ⟨u, rfl⟩ := kst_all (m := u) hm
  dsimp only [stepPs, kidPs, kstB] at F
  dsimp only [kidPs] at k
  obtain ⟨okc, ok0, ok2, okh, okf, oks⟩ := id ok
  obtain ⟨sv, sn, hst, hsv⟩ := S.ex
  obtain ⟨sA, q1, q2, q3, q4, q5, hse, hsm⟩ := hsv e he
  k_steps
  unfold Stop
  rename Fr _ _ _ _ => lF
  rename News _ _ _ _ => lN
  refine e_b0 (d := ds e) lF lN rfl rfl rfl (.tail _ (List.mem_append_right _ x6)) okf fun v1 tk1 => ?_
  k_steps
  unfold Stop
  rename Fr _ _ _ _ => lF
  rename News _ _ _ _ => lN
  refine e_b1 (d := ds e) lF lN rfl rfl rfl (.tail _ (List.mem_append_right _ x6)) oks fun v2 tk2 => ?_
  k_steps
  unfold Stop
  rename Fr _ _ _ _ => lF
  rename News _ _ _ _ => lN
  rename (_ < _ ∧ AllLt _ (P ++ r)) => l1
  have nd1 := nd_new (o := oM) nd (lt_cons l1.1 (lt_all l1.2))
  refine listMethod_K lN (.tail _ (.head _)) PySem.F.slot_list_append PySem.F.type_list_append ?_
  k_steps
  unfold Stop
  rename Fr _ _ _ _ => lF
  rename News _ _ _ _ => lN
  rename (_ < _ ∧ _ < _ ∧ AllLt _ (P ++ r)) => l2
  have nd2 := nd_new (o := oM) nd1 (lt_cons l2.1 (lt_cons l2.2.1 (lt_all l2.2.2)))
  have hlv : rv.length = row.length := by rw [x3.length, List.length_map]
  refine row_add (P := (rA, listOf rowsv.toArray rn) :: P) (vs := rv) (x := .int (0 + (e : Int)) te) lF (mid_in (P := (rA, listOf rowsv.toArray rn) :: P) lN) (nd_same (mid_ind (P := (rA, listOf rowsv.toArray rn) :: P) nd2) (by simp)) (.tail _ x2) (by omega) fun D3 h3 r3 hr3 F3 N3 nd3 hD3 => ?_
  have g3 : ∀ q ∈ r, q ∈ r3 := fun q hq => hr3 _ (.tail _ hq)
  have g3' : ∀ q ∈ r, q ∈ ((rA, listOf rowsv.toArray rn) :: P) ++ r3 := fun q hq => List.mem_append_right _ (g3 q hq)
  have hah := hr3 _ (.head _)
  clear lF lN hr3 nd2 nd1
  k_steps
  unfold Stop
  rename Fr _ _ _ _ => lF
  rename News _ _ _ _ => lN
  refine e_spot (by assumption) lF (by assumption) (by assumption) lN rfl rfl he fun h4 tk4 t4 F4 N4 => ?_
  clear lF lN
  k_steps
  unfold Stop
  rename Fr _ _ _ _ => lF
  rename News _ _ _ _ => lN
  refine item_at lN (g3' _ hst) (i := e) (by omega) (by omega) hse ?_
  k_steps
  unfold Stop
  rename Fr _ _ _ _ => lF
  rename News _ _ _ _ => lN
  refine' wpAny_call (gone_spec (led := r) (ts := pt.S) (d := ds e) (by assumption) lF (by assumption) lN (by assumption) ?hA ?hf ?hke ?hr ?hu ?hH nd3 (g3' _ x7) x8 (fun q hq => g3' _ hq) x9 hz (g3' _ hsm) ok fun h5 tk5 D5 o5 l5 F5 N5 nd5 lo5 P5 => ?_)
  case hA => exact rfl
  case hf => exact rfl
  case hke => exact rfl
  case hr => simp only [depth_deeper, depth_in1, depth_caller]; decide
  case hu => units_room
  case hH => exact rfl
  clear lF lN
  (try dsimp only)
  k_steps
  unfold Stop
  rename Fr _ _ _ _ => lF
  rename News _ _ _ _ => lN
  rename (_ < _ ∧ AllLt _ (l5 ++ _)) => l6
  have nd6 := nd_new (o := o5) nd5 (lt_cons l6.1 (lt_all l6.2))
  have N6 := news_sx (_ :: _ :: l5) ((rA, listOf rowsv.toArray rn) :: P) (r := r3) lN
  have nd7 := nd_sx (_ :: _ :: l5) ((rA, listOf rowsv.toArray rn) :: P) (r := r3) nd6
  have m3 : ∀ q ∈ r3, ∀ x y : Addr × Obj, q ∈ x :: y :: l5 ++ r3 := fun q hq x y => List.mem_append_right _ hq
  refine append_K lF N6 (upd_hd (l0 := P ++ (_ :: _ :: l5 ++ r3)) nd7 (by simp)) (fun h7 F7 N7 => ?_) (by rw [sizeLine_eq, List.size_toArray]; omega)
  rw [List.push_toArray] at N7
  clear lF lN N6
  k_steps
  rename Fr _ _ _ _ => lF
  refine k _ _ _ _ _ (_ :: _ :: l5 ++ r3) lF (by repeat (first | exact MHas.nil | refine MHas.cons rfl ?_)) (fun q hq => List.mem_append_right _ (g3 q hq)) ?_ N7 (nd_same nd7 (by simp))
  refine ⟨v, _, D3, _, D5, mo, rv ++ [.int (0 + (e : Int)) te], o5, oM, t4, v1, v2, rfl, ⟨?_, List.mem_append_right _ hD3, ?_, I.mono fun q hq => List.mem_append_right _ (g3 q hq), O.mono fun q hq => List.mem_append_right _ (g3 q hq), List.mem_append_right _ hah, .tail _ (.head _), P5.mono fun q hq => .tail _ (.tail _ (List.mem_append_left _ hq)), lo5, List.mem_append_right _ (g3 _ hmo), PM.mono fun q hq => List.mem_append_right _ (g3 q hq), lom⟩⟩
  · rw [hlg]; exact .head _
  · rw [List.map_append]
    refine x3.append (ints_one ?_)
    exact Int.zero_add _
end

end
section -- OpenT
open PySem PySem.W PyProof.Rows PySem.Calls
set_option maxRecDepth 100000
set_option maxHeartbeats 8000000
local macro_rules | `(tactic| walk_at "no such line") => `(tactic| skip)
local macro_rules | `(tactic| walk_at "no such line") => `(tactic| skip)
local macro_rules | `(tactic| walk_at "no such line") => `(tactic| skip)
local macro_rules | `(tactic| walk_at "no such line") => `(tactic| skip)
local macro_rules | `(tactic| walk_at "no such line") => `(tactic| skip)
local macro_rules | `(tactic| walk_at "no such line") => `(tactic| skip)
local macro_rules | `(tactic| walk_at "no such line") => `(tactic| skip)
local macro_rules | `(tactic| walk_at "no such line") => `(tactic| skip)
local macro_rules | `(tactic| walk_at "no such line") => `(tactic| skip)
local macro_rules | `(tactic| walk_at "no such line") => `(tactic| skip)
local macro_rules | `(tactic| walk_at "no such line") => `(tactic| skip)
local macro_rules | `(tactic| walk_at "no such line") => `(tactic| skip)
local macro_rules | `(tactic| walk_at "no such line") => `(tactic| skip)
local macro_rules | `(tactic| walk_at "no such line") => `(tactic| skip)
local macro_rules | `(tactic| walk_at "no such line") => `(tactic| skip)
local macro_rules | `(tactic| walk_at "no such line") => `(tactic| skip)
local macro_rules | `(tactic| walk_at "no such line") => `(tactic| skip)
local macro_rules | `(tactic| walk_at "no such line") => `(tactic| skip)
local macro_rules | `(tactic| walk_at "no such line") => `(tactic| skip)
local macro_rules | `(tactic| walk_at "no such line") => `(tactic| skip)
local macro_rules | `(tactic| walk_at "no such line") => `(tactic| skip)
local macro_rules | `(tactic| walk_at "no such line") => `(tactic| skip)
local macro_rules | `(tactic| walk_at "no such line") => `(tactic| skip)
local macro_rules | `(tactic| walk_at "no such line") => `(tactic| skip)
theorem kfill_OpenT : (PySem.Challenge.rw_vs0022_03 = PySem.Challenge.rw_vs0022_03) ∧ (hd.heap_39 = hd.heap_39) := by
  w_top off
  k_fill
  exact ⟨rfl, rfl⟩
local macro_rules | `(tactic| walk_at "subscriptTail") => `(tactic| refine stop_here ?_)
theorem opens_iff {row : List Nat} : opens row = true ↔ row.length < 2 ∨ (row.length < 4 ∧ row[0]? = some 1) := by
  unfold opens
  simp only [Bool.and_eq_true, Bool.or_eq_true, decide_eq_true_eq]
theorem opens_go {Q : Bool → Shared → Prop} {b c : Bool} {s : Shared} (h : Q b s) (e : b = c) : Q c s := e ▸ h
theorem kidB_ok {row : List Nat} {e : Nat} {U : Int} {ds : Nat → Stp} : kidB e (row.length : Int) (ptOf U ds row).spot = kidOk row e := by
  unfold kidB kidOk
  rw [ptOf_spot]
  congr 2
  exact decide_eq_decide.mpr (by omega)
theorem ints_get : ∀ {vs : List Value} {ns : List Int}, IntsAre vs ns → ∀ {j : Nat} {n : Int}, ns[j]? = some n → ∃ t, vs[j]? = some (.int n t)
  | _, _, .nil, _, _, h => by simp at h
  | _, _, .cons _ t _, 0, _, h => by simp at h; subst h; exact ⟨t, rfl⟩
  | _, _, .cons _ _ r, j + 1, _, h => ints_get r (j := j) (by simpa using h)
section
variable {w : World} {g : Heap} {L : Nat} {fa : Addr} {cd : Value} {m : Str → Option Value} {s : Shared} {G : List (Addr × Obj)} {E : Value → Shared → Prop} {t1 : Tok} {ra : Addr} {rv : List Value} {row : List Nat}
theorem t_opens {Q : Bool → Shared → Prop} (F : Fr g L s.heap m) (N : News g L s.heap G) (m1 : m (Str.ofString "size") = some (.int (row.length : Int) t1)) (m2 : m (Str.ofString "row") = some (.ref ra)) (x2 : (ra, tupO rv) ∈ G) (x3 : IntsAre rv (row.map fun (e : Nat) => (e : Int)))
    (k : ∀ tk, Q (opens row) { s with toks := tk }) :
    wpAny (model PR w) (lawA L fa cd) (isTrue iK.val.1 (lawEnv L fa cd) (eval iK.val.1 (lawEnv L fa cd))) Q E s := by
  dsimp only [lawA, lawEnv, lawG, iK]
  obtain ⟨m, rfl⟩ := kst_all (m := m) (ps := [(Str.ofString "size", _), (Str.ofString "row", _)]) (List.forall_mem_cons.mpr ⟨m1, List.forall_mem_cons.mpr ⟨m2, fun _ h => nomatch h⟩⟩)
  dsimp only [kstB] at F
  cases row with
  | nil =>
    k_steps
    all_goals first | exact opens_go (k _) rfl | (exfalso; simp at *; done)
  | cons e0 row =>
    obtain ⟨t0, hr0⟩ := ints_get x3 (j := 0) (n := (e0 : Int)) rfl
    have hl : ((e0 :: row).length : Int) = (row.length : Int) + 1 := by simp
    have hlN : (e0 :: row).length = row.length + 1 := by simp
    have h0 : (e0 :: row)[0]? = some e0 := rfl
    rw [hl] at F
    k_steps
    · exact opens_go (k _) (opens_iff.mpr (.inl (by omega)))
    · unfold Stop
      rename News _ _ _ _ => lN
      refine row_item lN x2 (i := 0) rfl (by omega) hr0 ?_
      k_steps
      · exact opens_go (k _) (opens_iff.mpr (.inr ⟨by omega, by rw [h0]; congr 1; omega⟩))
      · refine opens_go (k _) (Bool.eq_false_iff.mpr fun q => ?_)
        rcases opens_iff.mp q with q | ⟨q, q2⟩
        · omega
        · rw [h0, Option.some.injEq] at q2; omega
    · refine opens_go (k _) (Bool.eq_false_iff.mpr fun q => ?_)
      rcases opens_iff.mp q with q | ⟨q, q2⟩ <;> omega
end

end
section -- TurnC
open PySem PySem.W PyProof.Rows PySem.Calls
set_option maxRecDepth 100000
set_option maxHeartbeats 8000000
local macro_rules | `(tactic| walk_at "no such line") => `(tactic| skip)
local macro_rules | `(tactic| walk_at "no such line") => `(tactic| skip)
local macro_rules | `(tactic| walk_at "no such line") => `(tactic| skip)
local macro_rules | `(tactic| walk_at "no such line") => `(tactic| skip)
local macro_rules | `(tactic| walk_at "no such line") => `(tactic| skip)
local macro_rules | `(tactic| walk_at "no such line") => `(tactic| skip)
local macro_rules | `(tactic| walk_at "no such line") => `(tactic| skip)
local macro_rules | `(tactic| walk_at "no such line") => `(tactic| skip)
local macro_rules | `(tactic| walk_at "no such line") => `(tactic| skip)
local macro_rules | `(tactic| walk_at "no such line") => `(tactic| skip)
local macro_rules | `(tactic| walk_at "no such line") => `(tactic| skip)
local macro_rules | `(tactic| walk_at "no such line") => `(tactic| skip)
local macro_rules | `(tactic| walk_at "no such line") => `(tactic| skip)
local macro_rules | `(tactic| walk_at "no such line") => `(tactic| skip)
local macro_rules | `(tactic| walk_at "no such line") => `(tactic| skip)
local macro_rules | `(tactic| walk_at "no such line") => `(tactic| skip)
local macro_rules | `(tactic| walk_at "no such line") => `(tactic| skip)
local macro_rules | `(tactic| walk_at "no such line") => `(tactic| skip)
local macro_rules | `(tactic| walk_at "no such line") => `(tactic| skip)
local macro_rules | `(tactic| walk_at "no such line") => `(tactic| skip)
local macro_rules | `(tactic| walk_at "no such line") => `(tactic| skip)
local macro_rules | `(tactic| walk_at "no such line") => `(tactic| skip)
theorem kfill_TurnC : (PySem.Challenge.rw_vs0022_03 = PySem.Challenge.rw_vs0022_03) ∧ (hd.heap_39 = hd.heap_39) := by
  w_top off
  k_fill
  exact ⟨rfl, rfl⟩
local macro_rules | `(tactic| passes_own) => `(tactic| assumption)
local macro_rules | `(tactic| walk_at "pyIter ref") => `(tactic| refine stop_here ?_)
local macro_rules | `(tactic| walk_at "exec For Name Call cons nil") => `(tactic| (k_here; (rename Fr _ _ _ _ => lF'); (with_unfolding_all refine' For_invVF lF' ?k1 ?k2 ?_; (case k1 => exact rfl); (case k2 => exact rfl); k_whole)))
local macro_rules | `(tactic| walk_at "isTrue BoolOp") => `(tactic| refine stop_here ?_)
local macro_rules | `(tactic| walk_at "subscriptTail") => `(tactic| refine stop_here ?_)
theorem RowHas.mono {w : World} {r r' : List (Addr × Obj)} {p : Pt} {row : List Nat} {v : NetV} {ta ra ba sa da : Addr} {rv : List Value} {so bo : Obj} {t0 t1 t2 : Tok} (hs : ∀ q ∈ r, q ∈ r') (h : RowHas w r p row v ta ra ba sa da rv so bo t0 t1 t2) : RowHas w r' p row v ta ra ba sa da rv so bo t0 t1 t2 :=
  ⟨hs _ h.tup, hs _ h.rw_, h.iv, h.net.mono hs, h.ok.mono hs, hs _ h.back, hs _ h.st, h.stP.mono hs, h.stL, hs _ h.bd, h.bdP.mono hs, h.bdL⟩
section
variable {w : World} {base h₀ : Heap} {L : Nat} {fa : Addr} {cd : Value} {s : Shared} {mg mb : Str → Option Value} {p : Program} {loose : List Str} {mean : ExcName → Option Value} {Q : Flow → Shared → Prop} {E : Value → Shared → Prop} {o2 : Obj} {tl : List Stmt}
theorem turnC {u : Str → Option Value} {U : Int} {tU y3 y4 : Tok} {st rA kA : Addr} {P0 r : List (Addr × Obj)} {I : Addr} {it : Obj} {ds : Nat → Stp} {row : List Nat} {rows : List (List Nat)} {v : NetV} {ta ra ba sa da : Addr} {rv rowsv : List Value} {so bo : Obj} {y0 y1 y2 : Tok} {rn : Nat}
    (B : Below callerA base [] h₀) (F : Fr h₀ L s.heap u) (X₀ : (hd.heap_39 w.params).In h₀) (T : Top p loose mean mg mb h₀) (hE : PassesOwn (model PR w) (lawA L fa cd) (lawEnv L fa cd) E)
    (hm : MHas u (turnPs U tU st rA kA ra (ptOf U ds row).spot y3 ba sa da row.length y4))
    (N : News h₀ L s.heap ((I, it) :: (L+1+1, o2) :: (rA, listOf rowsv.toArray rn) :: (P0 ++ r))) (nd : ND ((I, it) :: (L+1+1, o2) :: (rA, listOf rowsv.toArray rn) :: (P0 ++ r))) (hcel : o2.data = .cell (some (.ref v.self))) (R : RowHas w r (ptOf U ds row) row v ta ra ba sa da rv so bo y0 y1 y2) (hl : row.length ≤ 4) (hrl : rows.length ≤ 12)
    (S : StepsAt r ds st) (ok : ∀ e, StpOk (ds e)) (RR : RowsAt w r U ds rowsv rows) (h6 : Six (ptOf U ds row).E) (hz : (ptOf U ds row).S.length ≤ 16)
    (hbk : ∀ d, 0 ≤ (ptOf U ds row).bk d ∧ (ptOf U ds row).bk d ≤ (ptOf U ds row).n) (hB0 : 0 < (ptOf U ds row).B.length) (hBl : (ptOf U ds row).B.length ≤ 40) (hBr : ∀ k ∈ (ptOf U ds row).B, (0 ≤ k.1.1 ∧ k.1.1 ≤ 5) ∧ 0 ≤ k.1.2 ∧ k.1.2 ≤ 5)
    (k : ∀ h' tk m' rowsv' rn' r', (∀ q ∈ r, q ∈ r') → Fr h₀ L h' m' → MHas m' (basePs U tU st rA kA) → RowsAt w r' U ds rowsv' (rows ++ kids row 4) →
      News h₀ L h' ((I, it) :: (L+1+1, o2) :: (rA, listOf rowsv'.toArray rn') :: (P0 ++ r')) → ND ((I, it) :: (L+1+1, o2) :: (rA, listOf rowsv'.toArray rn') :: (P0 ++ r')) →
      wpAny (model PR w) (lawA L fa cd) (execs tl (lawEnv L fa cd)) Q E { s with heap := h', toks := tk }) :
    wpAny (model PR w) (lawA L fa cd) (execs (t3.hd :: tl) (lawEnv L fa cd)) Q E s := by
  dsimp only [lawA, lawEnv, lawG, t3] at hE k ⊢
  obtain ⟨u, rfl⟩ := kst_all (m := u) hm
  dsimp only [turnPs, kstB] at F
  k_steps
  unfold Stop
  rename Fr _ _ _ _ => lF
  rename News _ _ _ _ => lN
  have R' := R
  obtain ⟨x1, x2, x3, x4, x5, x6, x7, x8, x9, x10, x11, x12⟩ := R'
  refine t_opens (row := row) lF lN rfl rfl (.tail _ (.tail _ (.tail _ (List.mem_append_right _ x2)))) x3 fun tk1 => ?_
  cases ho : opens row with
  | false =>
    k_steps
    rename Fr _ _ _ _ => lF
    refine k _ _ _ rowsv rn r (fun _ h => h) lF (by repeat (first | exact MHas.nil | refine MHas.cons rfl ?_)) ?_ lN nd
    unfold kids
    rw [ho, if_neg Bool.false_ne_true, List.append_nil]
    exact RR
  | true =>
    have hkids : ∀ j, kids row j = ((List.range j).filter (kidOk row)).map fun e => row ++ [e] := fun j => by unfold kids; rw [ho, if_pos rfl]
    k_steps
    unfold Stop
    rename Fr _ _ _ _ => lF
    rename News _ _ _ _ => lN
    rename IsRange _ _ _ _ _ _ _ _ => hR
    have hop := opens_iff.mp ho
    have hpn := ptOf_n U ds row
    have hn3 : row.length ≤ 3 := by rcases hop with q | ⟨q, _⟩ <;> omega
    refine pyIter_range_inv (n := 4) (fun j m' nw => MHas m' (turnPs U tU st rA kA ra (ptOf U ds row).spot y3 ba sa da row.length y4) ∧
        ∃ (rowsv' : List Value) (rn' : Nat) (r' : List (Addr × Obj)), (∀ q ∈ r, q ∈ r') ∧ nw = (I, it) :: (L+1+1, o2) :: (rA, listOf rowsv'.toArray rn') :: (P0 ++ r') ∧ ND nw ∧ RowsAt w r' U ds rowsv' (rows ++ kids row j))
      rfl hR (by decide) (by decide) lF lN ⟨(by repeat (first | exact MHas.nil | refine MHas.cons rfl ?_)), rowsv, rn, r, (fun _ h => h), rfl, nd, ?st⟩ ?turn ?done
    case st =>
      rw [hkids]
      simpa using RR
    case done =>
      rintro m' _ h' tk' ⟨hm', rowsv', rn', r', hr', rfl, nd', RR'⟩ F' N'
      clear lF lN
      k_steps
      exact k _ _ _ rowsv' rn' r' hr' F' (hm'.sub fun q hq => by simp only [List.mem_cons, List.not_mem_nil, or_false] at hq ⊢; rcases hq with h | h | h | h <;> simp [h]) RR' N' nd'
    case turn =>
      rintro I2 j m' _ t h' tk' it2 hj ⟨hm', rowsv', rn', r', hr', rfl, nd', RR'⟩ hoff F' N'
      obtain ⟨m', rfl⟩ := kst_all (m := m') hm'
      dsimp only [turnPs, kstB] at F'
      clear lF lN k hR
      have hk1 : kids row (j + 1) = kids row j ++ (if kidOk row j then [row ++ [j]] else []) := by
        rw [hkids, hkids, List.range_succ, List.filter_append, List.map_append]
        congr 1
        rw [List.filter_cons, List.filter_nil]
        split <;> rfl
      have hkl : (kids row j).length ≤ 4 := by
        rw [hkids, List.length_map]
        exact Nat.le_trans (List.length_filter_le _ _) (by rw [List.length_range]; omega)
      have hrl' : rowsv'.length ≤ 16 := by rw [RR'.len, List.length_append]; omega
      k_steps
      unfold Stop
      rename Fr _ _ _ _ => lF
      rename News _ _ _ _ => lN
      refine t_kid (e := j) (n := (row.length : Int)) (sp := (ptOf U ds row).spot) (by assumption) lF (by assumption) (by assumption) lN rfl rfl rfl hj fun h5 tk5 F5 N5 => ?_
      rw [kidB_ok]
      cases hk : kidOk row j with
      | false =>
        clear lF lN
        k_steps
        rename Fr _ _ _ _ => lF
        rename News _ _ _ _ => lN
        refine ⟨_, _, _, _, rfl, lF, lN, hoff, (by repeat (first | exact MHas.nil | refine MHas.cons rfl ?_)), rowsv', rn', r', hr', rfl, nd', ?_⟩
        rw [hk1, hk, if_neg Bool.false_ne_true, List.append_nil]
        exact RR'
      | true =>
        clear lF lN
        rw [if_pos rfl]
        have hd := ok j
        have h61 : Six ((ptOf U ds row).E ++ [((ptOf U ds row).n + 1, 0, 8 * U)] ++ [((ptOf U ds row).n, (ptOf U ds row).n + 1, 0)]) := (h6.append (Six.one (by rw [hpn]; omega) (by decide))).append (Six.one (by rw [hpn]; omega) (by rw [hpn]; omega))
        have hbd := hbk (ds j)
        have RJ := R.mono hr'
        have SJ := S.mono hr'
        have ndP : ND ((I2, it2) :: (I, it) :: (L+1+1, o2) :: (rA, listOf rowsv'.toArray rn') :: (P0 ++ r')) := nd_c.mpr ⟨hoff, nd'⟩
        refine kid1 (P := (I2, it2) :: (I, it) :: (L+1+1, o2) :: (rA, listOf rowsv'.toArray rn') :: P0) (pt := ptOf U ds row) (by assumption) F5 (by assumption) (by assumption) hE (by rw [hpn]; repeat (first | exact MHas.nil | refine MHas.cons rfl ?_)) N5 ndP (.tail _ (.tail _ (.head _))) hcel RJ h6 (by rw [hpn]; omega) SJ hj fun h6' tk6 m6 v6 r6 lg z1 z2 z3 z4 z5 hr6 hv6 F6 M6 N6 nd6 O6 => ?_
        refine kid2 (by assumption) F6 (by assumption) (by assumption) hE M6 hv6 N6 nd6 O6 h61 (by rw [hpn]; omega) (hr6 _ RJ.back) hd (by rw [hpn] at hbd; omega) fun h7 tk7 m7 v7 r7 hr7 hv7 F7 M7 N7 nd7 I7 O7 => ?_
        have rj7 : ∀ q ∈ r', q ∈ r7 := fun q hq => hr7 _ (hr6 _ hq)
        refine kid3 (by assumption) F7 (by assumption) (by assumption) hE M7 N7 nd7 (rj7 _ RJ.back) (rj7 _ RJ.bd) (RJ.bdP.mono rj7) RJ.bdL hd hB0 hBl hBr fun h8 tk8 m8 mo oM r8 hr8 F8 M8 N8 nd8 hmo PM lom => ?_
        have rj8 : ∀ q ∈ r', q ∈ r8 := fun q hq => hr8 _ (rj7 _ hq)
        have R8 := RJ.mono rj8
        refine kid4 (P := (I2, it2) :: (I, it) :: (L+1+1, o2) :: P0) (row := row) (v := v7) (by assumption) F8 (by assumption) (by assumption) hE M8 (news_comm [_, _, _] [_] N8) (nd_comm [_, _, _] [_] nd8) R8.rw_ R8.iv R8.back R8.st R8.stP R8.stL hz (SJ.mono rj8) hj hd hv7 (I7.mono hr8) (O7.mono hr8) hmo PM lom (by omega) (by omega) fun h9 tk9 m9 x rn9 r9 F9 M9 hr9 RA9 N9 nd9 => ?_
        k_steps
        have ndF := nd_comm [_] [_, _, _] nd9
        refine ⟨_, _, _, _, rfl, F9, news_comm [_] [_, _, _] N9, (nd_c.mp ndF).1, ?_, rowsv' ++ [x], rn9, r9, (fun q hq => hr9 _ (rj8 _ (hr' _ hq))), rfl, (nd_c.mp ndF).2, ?_⟩
        · rw [hpn] at M9
          exact M9.sub fun q hq => by
            simp only [List.mem_cons, List.not_mem_nil, or_false] at hq ⊢
            rcases hq with h | h | h | h | h | h | h | h | h | h <;> simp [h]
        · rw [hk1, hk, if_pos rfl, ← List.append_assoc]
          refine (RR'.mono fun q hq => hr9 _ (rj8 _ hq)).snoc ?_
          rw [ptOf_snoc]
          exact RA9
end

end
section -- TabL
open PySem
set_option maxRecDepth 100000
set_option maxHeartbeats 4000000
theorem lookL_cons (k k' : Int × Int) (b : Int) (ts : Ties) : lookT ((k, b) :: ts) k' = if k = k' then some b else lookT ts k' := by
  unfold lookT
  by_cases h : k = k'
  · simp [h]
  · rw [List.find?_cons_of_neg (by simpa using h), if_neg h]
theorem lookL_map (ts : Ties) (k k' : Int × Int) (b : Int) : lookT (ts.map fun e => if e.1 = k then (e.1, b) else e) k' = if k' = k then (if (lookT ts k).isSome then some b else none) else lookT ts k' := by
  induction ts with
  | nil => unfold lookT; simp
  | cons e ts ih =>
    obtain ⟨ek, eb⟩ := e
    rw [List.map_cons]
    by_cases h : ek = k
    · subst h
      simp only [if_true]
      rw [lookL_cons, lookL_cons, lookL_cons, ih]
      by_cases h2 : ek = k'
      · subst h2; simp
      · have h3 : ¬ k' = ek := fun q => h2 q.symm
        simp [h2, h3]
    · simp only [h, if_false]
      rw [lookL_cons, lookL_cons, lookL_cons, ih]
      by_cases h2 : ek = k'
      · subst h2; simp [h]
      · simp [h2, h]
theorem lookL_app (ts : Ties) (k k' : Int × Int) (b : Int) (h : lookT ts k = none) : lookT (ts ++ [(k, b)]) k' = if k' = k then some b else lookT ts k' := by
  induction ts with
  | nil =>
    rw [List.nil_append, lookL_cons]
    by_cases e : k' = k
    · subst e; simp
    · have e' : ¬ k = k' := fun q => e q.symm
      simp [e, e']
  | cons e ts ih =>
    obtain ⟨ek, eb⟩ := e
    rw [lookL_cons] at h
    by_cases q : ek = k
    · rw [if_pos q] at h; cases h
    · rw [if_neg q] at h
      rw [List.cons_append, lookL_cons, lookL_cons, ih h]
      by_cases q2 : ek = k'
      · subst q2; simp [q]
      · simp [q2]
theorem lookL_put (ts : Ties) (k k' : Int × Int) (b : Int) : lookT (putT ts k b) k' = if k' = k then some b else lookT ts k' := by
  unfold putT
  cases h : lookT ts k with
  | none => simp only [Option.isSome_none, Bool.false_eq_true, if_false]; exact lookL_app ts k k' b h
  | some c => simp only [Option.isSome_some, if_true]; rw [lookL_map, h]; simp
theorem keysL_put (ts : Ties) (k : Int × Int) (b : Int) (hn : (ts.map (·.1)).Nodup) : ((putT ts k b).map (·.1)).Nodup := by
  unfold putT
  split
  · rw [List.map_map]
    have : ((fun e : (Int × Int) × Int => e.1) ∘ fun e => if e.1 = k then (e.1, b) else e) = fun e => e.1 := by
      funext e
      show (if e.1 = k then (e.1, b) else e).1 = e.1
      split <;> rfl
    rw [this]; exact hn
  · rename_i h
    rw [List.map_append]
    refine List.nodup_append.mpr ⟨hn, by simp, fun z hz z' hz' e => ?_⟩
    have hz2 : z' = k := by simpa using hz'
    subst e hz2
    obtain ⟨p, hp, hpe⟩ := List.mem_map.mp hz
    refine h ?_
    unfold lookT
    rw [Option.isSome_map, List.find?_isSome]
    exact ⟨p, hp, by simpa using hpe⟩
/-- a table of the least of each key -/
structure TabIs (T : Ties) (C : Int × Int → Int → Prop) : Prop where
  nd : (T.map (·.1)).Nodup
  sound : ∀ k m, lookT T k = some m → C k m
  full : ∀ k sp, C k sp → ∃ m, lookT T k = some m ∧ m ≤ sp
theorem TabIs.cast {T : Ties} {C C' : Int × Int → Int → Prop} (h : TabIs T C) (e : ∀ k m, C k m ↔ C' k m) : TabIs T C' :=
  ⟨h.nd, fun k m q => (e k m).mp (h.sound k m q), fun k sp q => h.full k sp ((e k sp).mpr q)⟩
theorem TabIs.nil : TabIs [] fun _ _ => False := ⟨List.nodup_nil, (fun _ _ h => by cases h), fun _ _ h => h.elim⟩
theorem TabIs.least {T : Ties} {C : Int × Int → Int → Prop} (h : TabIs T C) (k : Int × Int) (sp : Int) : TabIs (leastT T k sp) fun k' m => C k' m ∨ (k' = k ∧ m = sp) := by
  unfold leastT
  refine ⟨keysL_put _ _ _ h.nd, fun k' m q => ?_, fun k' s q => ?_⟩
  · rw [lookL_put] at q
    by_cases e : k' = k
    · subst e
      rw [if_pos rfl] at q
      cases hl : lookT T k' with
      | none => rw [hl] at q; simp at q; exact .inr ⟨rfl, q.symm⟩
      | some c =>
        rw [hl] at q
        simp only [Option.getD_some, Option.some.injEq] at q
        split at q
        · exact .inl (h.sound k' m (by rw [hl, q]))
        · exact .inr ⟨rfl, q.symm⟩
    · rw [if_neg e] at q; exact .inl (h.sound k' m q)
  · rw [lookL_put]
    by_cases e : k' = k
    · subst e
      rw [if_pos rfl]
      refine ⟨_, rfl, ?_⟩
      rcases q with q | ⟨_, q⟩
      · obtain ⟨m, hm, hle⟩ := h.full k' s q
        rw [hm]
        simp only [Option.getD_some]
        split <;> omega
      · subst q
        split <;> omega
    · rw [if_neg e]
      rcases q with q | ⟨q, _⟩
      · exact h.full k' s q
      · exact absurd q e
theorem TabIs.goneStep {T : Ties} {C : Int × Int → Int → Prop} (h : TabIs T C) (d : Stp) (e : (Int × Int) × Int) (wt : Int) :
    TabIs (goneStep d T e wt) fun k' m => C k' m ∨ (goneOk d (rdOf d e.1.1 e.1.2 wt) = true ∧ k' = gkey d e.1.1 e.1.2 wt ∧ m = e.2 + wt) := by
  unfold Mine.goneStep
  split
  · rename_i hg
    exact (h.least _ _).cast fun k m => or_congr_right ⟨fun q => ⟨hg, q⟩, fun q => q.2⟩
  · rename_i hg
    exact h.cast fun k m => ⟨.inl, fun q => q.elim id fun q => absurd q.1 hg⟩
def oneW (d : Stp) (e : (Int × Int) × Int) (k : Int × Int) (m : Int) : Prop := ∃ wt, 0 ≤ wt ∧ wt ≤ 2 ∧ goneOk d (rdOf d e.1.1 e.1.2 wt) = true ∧ k = gkey d e.1.1 e.1.2 wt ∧ m = e.2 + wt
theorem TabIs.goneW {T : Ties} {C : Int × Int → Int → Prop} (h : TabIs T C) (d : Stp) (e : (Int × Int) × Int) : TabIs (goneW d T e 3) fun k m => C k m ∨ oneW d e k m := by
  rw [goneW_next, goneW_next, goneW_next]
  refine (((h.goneStep d e _).goneStep d e _).goneStep d e _).cast fun k m => ?_
  constructor
  · rintro (((q | q) | q) | q)
    · exact .inl q
    · exact .inr ⟨_, by decide, by decide, q⟩
    · exact .inr ⟨_, by decide, by decide, q⟩
    · exact .inr ⟨_, by decide, by decide, q⟩
  · rintro (q | ⟨wt, h0, h2, q⟩)
    · exact .inl (.inl (.inl q))
    · have : wt = 0 ∨ wt = 1 ∨ wt = 2 := by omega
      rcases this with rfl | rfl | rfl
      · exact .inl (.inl (.inr q))
      · exact .inl (.inr q)
      · exact .inr q
theorem TabIs.goneL (d : Stp) : ∀ (ts T : Ties) (C : Int × Int → Int → Prop), TabIs T C → TabIs (ts.foldl (fun acc e => Mine.goneW d acc e 3) T) fun k m => C k m ∨ ∃ e ∈ ts, oneW d e k m
  | [], T, C, h => h.cast fun k m => ⟨.inl, fun q => q.elim id fun ⟨_, q, _⟩ => nomatch q⟩
  | e :: ts, T, C, h => by
    rw [List.foldl_cons]
    refine (goneL d ts _ _ (h.goneW d e)).cast fun k m => ?_
    constructor
    · rintro ((q | q) | ⟨e', he, q⟩)
      · exact .inl q
      · exact .inr ⟨e, .head _, q⟩
      · exact .inr ⟨e', .tail _ he, q⟩
    · rintro (q | ⟨e', he, q⟩)
      · exact .inl (.inl q)
      · cases he with
        | head => exact .inl (.inr q)
        | tail _ he => exact .inr ⟨e', he, q⟩
theorem TabIs.gone {T : Ties} {C : Int × Int → Int → Prop} (h : TabIs T C) (d : Stp) : TabIs (goneF d T) fun k m => ∃ k₀ m₀, C k₀ m₀ ∧ oneW d (k₀, m₀) k m := by
  have h1 := goneL d T [] _ TabIs.nil
  refine ⟨h1.nd, fun k m q => ?_, fun k sp q => ?_⟩
  · obtain ⟨e, he, q⟩ := (h1.sound k m q).resolve_left id
    exact ⟨e.1, e.2, h.sound _ _ ((lookT_mem3 h.nd).mp he), q⟩
  · obtain ⟨k₀, m₀, hc, wt, w0, w2, g, hk, hm⟩ := q
    obtain ⟨m, hl, hle⟩ := h.full k₀ m₀ hc
    obtain ⟨m', hl', hle'⟩ := h1.full k (m + wt) (.inr ⟨(k₀, m), (lookT_mem3 h.nd).mpr hl, wt, w0, w2, g, hk, rfl⟩)
    exact ⟨m', hl', by dsimp only at hm; omega⟩
theorem nodupP_len : ∀ (a ks : List (Int × Int)), a.Nodup → (∀ v ∈ a, v ∈ ks) → a.length ≤ ks.length
  | [], _, _, _ => Nat.zero_le _
  | v :: r, ks, hn, hs => by
    have hv := hs v (.head _)
    rw [List.nodup_cons] at hn
    have := nodupP_len r (ks.erase v) hn.2 (fun z hz => (List.mem_erase_of_ne (fun (e : z = v) => hn.1 (by rw [← e]; exact hz))).mpr (hs z (.tail _ hz)))
    rw [List.length_erase_of_mem hv] at this
    have hp : 0 < ks.length := List.length_pos_of_mem hv
    simp only [List.length_cons]
    omega
theorem TabIs.pos {T : Ties} {C : Int × Int → Int → Prop} (h : TabIs T C) : 0 < T.length ↔ ∃ k m, C k m := by
  constructor
  · intro hp
    obtain ⟨e, he⟩ := List.exists_mem_of_length_pos hp
    exact ⟨e.1, e.2, h.sound _ _ ((lookT_mem3 h.nd).mp he)⟩
  · rintro ⟨k, m, q⟩
    obtain ⟨m', hl, _⟩ := h.full k m q
    exact List.length_pos_of_mem ((lookT_mem3 h.nd).mpr hl)
theorem TabIs.len16 {T : Ties} {C : Int × Int → Int → Prop} (h : TabIs T C) (hc : ∀ k m, C k m → (0 ≤ k.1 ∧ k.1 ≤ 3) ∧ 0 ≤ k.2 ∧ k.2 ≤ 3) : T.length ≤ 16 := by
  have := nodupP_len (T.map (·.1)) [(0,0),(0,1),(0,2),(0,3),(1,0),(1,1),(1,2),(1,3),(2,0),(2,1),(2,2),(2,3),(3,0),(3,1),(3,2),(3,3)] h.nd fun v hv => by
    obtain ⟨e, he, rfl⟩ := List.mem_map.mp hv
    obtain ⟨⟨h1, h2⟩, h3, h4⟩ := hc _ _ (h.sound _ _ ((lookT_mem3 h.nd).mp he))
    obtain ⟨⟨a, b⟩, m⟩ := e
    dsimp only at *
    have ea : a = 0 ∨ a = 1 ∨ a = 2 ∨ a = 3 := by omega
    have eb : b = 0 ∨ b = 1 ∨ b = 2 ∨ b = 3 := by omega
    rcases ea with rfl | rfl | rfl | rfl <;> rcases eb with rfl | rfl | rfl | rfl <;> decide
  rw [List.length_map] at this
  exact this

end
section -- Least
open PySem
set_option maxRecDepth 100000
set_option maxHeartbeats 4000000
inductive Tr (U : Int) (ds : Nat → Stp) : Pt → Prop
  | start : Tr U ds startPt
  | next {p : Pt} {e : Nat} : Tr U ds p → Tr U ds (nextPt U (ds e) e p)
theorem tr_fold (U : Int) (ds : Nat → Stp) : ∀ (row : List Nat) (p : Pt), Tr U ds p → Tr U ds (row.foldl (fun p e => nextPt U (ds e) e p) p)
  | [], _, h => h
  | e :: row, p, h => by rw [List.foldl_cons]; exact tr_fold U ds row _ h.next
theorem tr_ptOf (U : Int) (ds : Nat → Stp) (row : List Nat) : Tr U ds (ptOf U ds row) := tr_fold U ds row _ .start
/-- the edges of a row's network -/
structure EdgesOk (U n : Int) (E : Edges) : Prop where
  rng : ∀ u v w, (u, v, w) ∈ E → (0 ≤ u ∧ u ≤ n) ∧ 0 ≤ v ∧ v ≤ n
  mul : ∀ u v w, (u, v, w) ∈ E → ∃ c, w = U * c
  fwd : ∀ u v w, (u, v, w) ∈ E → u < v → -w ≤ 2 * U
  mono : ∀ k, 0 ≤ k → k < n → (k, k + 1, 0) ∈ E
structure PtOk (U : Int) (p : Pt) : Prop where
  n0 : 0 ≤ p.n
  b0 : 0 ≤ p.b0 ∧ p.b0 ≤ p.n
  b1 : 0 ≤ p.b1 ∧ p.b1 ≤ p.n
  zero : (0, 0, 0) ∈ p.E
  e : EdgesOk U p.n p.E
theorem mem_winE {U : Int} {d : Stp} {p : Pt} {x : Int × Int × Int} : x ∈ winE U d p ↔ x = (p.bk d, p.n + 1, -(d.low * U)) ∨ ∃ h, d.high = some h ∧ x = (p.n + 1, p.bk d, h * U) := by
  unfold winE
  cases h : d.high with
  | none => simp
  | some y => simp
theorem mem_next {U : Int} {d : Stp} {e : Nat} {p : Pt} {x : Int × Int × Int} : x ∈ (nextPt U d e p).E ↔ x ∈ p.E ∨ x = (p.n + 1, 0, 8 * U) ∨ x = (p.n, p.n + 1, 0) ∨ x = (p.bk d, p.n + 1, -(d.low * U)) ∨ (∃ h, d.high = some h ∧ x = (p.n + 1, p.bk d, h * U)) ∨ x = (0, 1, U) := by
  unfold nextPt
  simp only [List.mem_append, List.mem_singleton, mem_winE, or_assoc]
theorem PtOk.bk {U : Int} {p : Pt} (h : PtOk U p) (d : Stp) : 0 ≤ p.bk d ∧ p.bk d ≤ p.n := by
  unfold Pt.bk
  split
  · exact h.b0
  · exact h.b1
theorem PtOk.start {U : Int} : PtOk U startPt := by
  refine ⟨by decide, by decide, by decide, .head _, fun u v w m => ?_, fun u v w m => ?_, fun u v w m hl => ?_, fun k h0 h1 => ?_⟩
  · have e := List.mem_singleton.mp m; cases e; exact ⟨by decide, by decide⟩
  · have e := List.mem_singleton.mp m; cases e; exact ⟨0, by simp⟩
  · have e := List.mem_singleton.mp m; cases e; omega
  · exact absurd h1 (by show ¬ k < 0; omega)
theorem PtOk.next {U : Int} {d : Stp} {e : Nat} {p : Pt} (hU : 1 ≤ U) (ok : StpOk d) (h : PtOk U p) : PtOk U (nextPt U d e p) := by
  have hb := h.bk d
  have hn := h.n0
  refine ⟨?_, ?_, ?_, mem_next.mpr (.inl h.zero), ⟨fun u v w m => ?_, fun u v w m => ?_, fun u v w m hl => ?_, fun k h0 h1 => ?_⟩⟩
  · show 0 ≤ p.n + 1; omega
  · show 0 ≤ (if d.fst = 0 then p.b0 else p.n + 1) ∧ (if d.fst = 0 then p.b0 else p.n + 1) ≤ p.n + 1
    have := h.b0
    split <;> omega
  · show 0 ≤ (if d.snd = 0 then p.b1 else p.n + 1) ∧ (if d.snd = 0 then p.b1 else p.n + 1) ≤ p.n + 1
    have := h.b1
    split <;> omega
  · show (0 ≤ u ∧ u ≤ p.n + 1) ∧ 0 ≤ v ∧ v ≤ p.n + 1
    rcases mem_next.mp m with m | m | m | m | ⟨x, _, m⟩ | m
    · have := h.e.rng u v w m; omega
    all_goals (cases m; omega)
  · rcases mem_next.mp m with m | m | m | m | ⟨x, _, m⟩ | m
    · exact h.e.mul u v w m
    · cases m; exact ⟨8, Int.mul_comm _ _⟩
    · cases m; exact ⟨0, by simp⟩
    · cases m; exact ⟨-d.low, by rw [Int.mul_neg, Int.mul_comm]⟩
    · cases m; exact ⟨x, Int.mul_comm _ _⟩
    · cases m; exact ⟨1, by simp⟩
  · rcases mem_next.mp m with m | m | m | m | ⟨x, _, m⟩ | m
    · exact h.e.fwd u v w m hl
    · cases m; omega
    · cases m; omega
    · cases m
      have := Int.mul_le_mul_of_nonneg_right ok.l2 (show 0 ≤ U by omega)
      omega
    · cases m; omega
    · cases m; omega
  · refine mem_next.mpr ?_
    have h1' : k < p.n + 1 := h1
    by_cases hk : k < p.n
    · exact .inl (h.e.mono k h0 hk)
    · have : k = p.n := by omega
      subst this
      exact .inr (.inr (.inl rfl))
theorem Tr.ok {U : Int} {ds : Nat → Stp} {p : Pt} (hU : 1 ≤ U) (hds : ∀ e, StpOk (ds e)) (h : Tr U ds p) : PtOk U p := by
  induction h with
  | start => exact .start
  | next _ ih => exact ih.next hU (hds _)
/-- potentials rise -/
theorem mono_le {E : Edges} {U n : Int} {q : Int → Int} (h : EdgesOk U n E) (hq : FeasE E q) : ∀ (j : Nat) (i : Int), 0 ≤ i → i + (j : Int) ≤ n → q (i + (j : Int)) ≤ q i
  | 0, i, _, _ => by simp
  | j + 1, i, h0, h1 => by
    have h2 := mono_le h hq j i h0 (by omega)
    have h3 := hq _ _ _ (h.mono (i + (j : Int)) (by omega) (by omega))
    have e : i + ((j + 1 : Nat) : Int) = i + (j : Int) + 1 := by omega
    rw [e]; omega
theorem mono_at {E : Edges} {U n : Int} {q : Int → Int} (h : EdgesOk U n E) (hq : FeasE E q) {i j : Int} (h0 : 0 ≤ i) (hij : i ≤ j) (hj : j ≤ n) : q j ≤ q i := by
  have := mono_le h hq (j - i).toNat i h0 (by omega)
  rw [show i + ((j - i).toNat : Int) = j by omega] at this
  exact this
section
variable {U n : Int} {E : Edges} {ks kc : List Int} {D : Int → Int} {G : Int → List (Int × Int)}
structure LeastD (E : Edges) (n : Int) (ks : List Int) (D : Int → Int) : Prop where
  feas : FeasE E D
  np : ∀ k ∈ ks, D k ≤ 0
  max : ∀ q, FeasE E q → (∀ k ∈ ks, q k ≤ 0) → ∀ k ∈ ks, q k ≤ D k
  inn : ∀ k ∈ ks, 0 ≤ k ∧ k ≤ n
theorem NetOk.least (O : NetOk E ks kc D G true) (h : EdgesOk U n E) : LeastD E n ks D := by
  obtain ⟨g1, g2, g3, g4⟩ := O.good rfl
  refine ⟨fun a b c hm => ?_, g2, fun q hq => g3 q fun u v w m => hq u v w (O.inE u v w m), fun k hk => ?_⟩
  · obtain ⟨_, _, c', hc, hle⟩ := g4 a b c hm
    have := g1 a b c' (firstOf_mem hc)
    omega
  · obtain ⟨u, v, w, m, e⟩ := O.nodes k hk
    have := h.rng u v w m
    omega
theorem NetOk.all_in (O : NetOk E ks kc D G true) (h : EdgesOk U n E) (hz : (0, 0, 0) ∈ E) {k : Int} (h0 : 0 ≤ k) (hk : k ≤ n) : k ∈ ks := by
  obtain ⟨g1, g2, g3, g4⟩ := O.good rfl
  by_cases e : k = 0
  · subst e; exact (g4 _ _ _ hz).1
  · have := (g4 _ _ _ (h.mono (k - 1) (by omega) (by omega))).2.1
    rw [show k - 1 + 1 = k by omega] at this
    exact this
variable (hU : 1 ≤ U) (h : EdgesOk U n E) (M : LeastD E n ks D) (hin : ∀ k, 0 ≤ k → k ≤ n → k ∈ ks) (hn : 0 ≤ n)
theorem ceil_feas (hU : 1 ≤ U) (h : EdgesOk U n E) {q : Int → Int} (hq : FeasE E q) : FeasE E fun k => -(U * ((-q k) / U)) := by
  intro u v w m
  obtain ⟨c, rfl⟩ := h.mul u v w m
  have h1 := hq u v _ m
  have h2 : (-q u) / U ≤ (-q v + U * c) / U := Int.ediv_le_ediv (by omega) (by omega)
  rw [Int.add_mul_ediv_left _ _ (by omega)] at h2
  have h3 := Int.mul_le_mul_of_nonneg_left h2 (show 0 ≤ U by omega)
  rw [Int.mul_add] at h3
  show -(U * ((-q v) / U)) ≤ -(U * ((-q u) / U)) + U * c
  omega
include hU h M hin hn
theorem least_mul {k : Int} (h0 : 0 ≤ k) (hk : k ≤ n) : -D k = U * ((-D k) / U) := by
  have hf := ceil_feas hU h M.feas
  have h1 := M.max _ hf (fun j hj => by
    have h2 := M.np j hj
    have h3 : 0 ≤ (-D j) / U := Int.ediv_nonneg (by omega) (by omega)
    have h4 := Int.mul_nonneg (show 0 ≤ U by omega) h3
    omega) k (hin k h0 hk)
  have h2 := Int.mul_ediv_self_le (x := -D k) (k := U) (by omega)
  omega
theorem least_zero : D 0 = 0 := by
  have h1 := M.max (fun k => D k - D 0) (fun u v w m => by have := M.feas u v w m; dsimp only; omega) (fun k hk => by
    have := M.inn k hk
    have := mono_at h M.feas (i := 0) (j := k) (by omega) (by omega) (by omega)
    omega) 0 (hin 0 (Int.le_refl _) hn)
  have h2 := M.np 0 (hin 0 (Int.le_refl _) hn)
  omega
theorem least_gap {k : Int} (h0 : 0 ≤ k) (hk : k < n) : -D (k + 1) ≤ -D k + 2 * U := by
  refine Decidable.by_contra fun hc => ?_
  have h1 := M.max (fun j => if k < j then D j + (-D (k + 1) + D k - 2 * U) else D j) (fun u v w m => ?_) (fun j hj => ?_) (k + 1) (hin _ (by omega) (by omega))
  · have _h1 := h1
    rw [if_pos (by omega)] at h1
    omega
  · have hf := M.feas u v w m
    have hr := h.rng u v w m
    dsimp only
    by_cases hu : k < u <;> by_cases hv : k < v
    · rw [if_pos hu, if_pos hv]; omega
    · rw [if_pos hu, if_neg hv]; omega
    · rw [if_neg hu, if_pos hv]
      have hw := h.fwd u v w m (by omega)
      have m1 := mono_at h M.feas (i := u) (j := k) (by omega) (by omega) (by omega)
      have m2 := mono_at h M.feas (i := k + 1) (j := v) (by omega) (by omega) (by omega)
      omega
    · rw [if_neg hu, if_neg hv]; omega
  · have hr := M.inn j hj
    have hp := M.np j hj
    have hp0 := M.np k (hin k h0 (by omega))
    split
    · have m2 := mono_at h M.feas (i := k + 1) (j := j) (by omega) (by omega) (by omega)
      omega
    · exact hp
end

end
section -- Least2
open PySem
set_option maxRecDepth 100000
set_option maxHeartbeats 4000000
theorem edge_iff {U a b c : Int} (hU : 1 ≤ U) : -(U * a) ≤ -(U * b) + U * c ↔ b ≤ a + c := by
  constructor
  · intro h
    have : U * b ≤ U * (a + c) := by rw [Int.mul_add]; omega
    exact Int.le_of_mul_le_mul_left this (by omega)
  · intro h
    have := Int.mul_le_mul_of_nonneg_left h (show 0 ≤ U by omega)
    rw [Int.mul_add] at this
    omega
section
variable {U : Int} {d : Stp} {e : Nat} {p : Pt} {x : Int → Int}
theorem feas_next (hU : 1 ≤ U) : FeasE (nextPt U d e p).E (fun j => -(U * x j)) ↔ FeasE p.E (fun j => -(U * x j)) ∧ x (p.n + 1) ≤ x 0 + 8 ∧ x p.n ≤ x (p.n + 1) ∧ x (p.bk d) + d.low ≤ x (p.n + 1) ∧ (∀ h, d.high = some h → x (p.n + 1) ≤ x (p.bk d) + h) ∧ x 0 ≤ x 1 + 1 := by
  constructor
  · intro h
    refine ⟨fun u v w m => h u v w (mem_next.mpr (.inl m)), ?_, ?_, ?_, fun y hy => ?_, ?_⟩
    · have := h _ _ _ (mem_next.mpr (.inr (.inl rfl)))
      dsimp only at this
      rw [Int.mul_comm 8 U] at this
      exact (edge_iff hU).mp this
    · have := h _ _ _ (mem_next.mpr (.inr (.inr (.inl rfl))))
      have := (edge_iff (c := 0) hU).mp (by simpa using this)
      omega
    · have := h _ _ _ (mem_next.mpr (.inr (.inr (.inr (.inl rfl)))))
      dsimp only at this
      rw [show -(d.low * U) = U * -d.low by rw [Int.mul_neg, Int.mul_comm]] at this
      have := (edge_iff hU).mp this
      omega
    · have := h _ _ _ (mem_next.mpr (.inr (.inr (.inr (.inr (.inl ⟨y, hy, rfl⟩))))))
      dsimp only at this
      rw [Int.mul_comm y U] at this
      exact (edge_iff hU).mp this
    · have := h _ _ _ (mem_next.mpr (.inr (.inr (.inr (.inr (.inr rfl))))))
      exact (edge_iff (c := 1) hU).mp (by rw [Int.mul_one]; exact this)
  · rintro ⟨h1, h2, h3, h4, h5, h6⟩ u v w m
    rcases mem_next.mp m with m | m | m | m | ⟨y, hy, m⟩ | m
    · exact h1 u v w m
    · cases m
      dsimp only
      rw [Int.mul_comm 8 U]
      exact (edge_iff hU).mpr h2
    · cases m
      have := (edge_iff (U := U) (a := x (p.n + 1)) (b := x p.n) (c := 0) hU).mpr (by omega)
      simpa using this
    · cases m
      dsimp only
      rw [show -(d.low * U) = U * -d.low by rw [Int.mul_neg, Int.mul_comm]]
      exact (edge_iff hU).mpr (by omega)
    · cases m
      dsimp only
      rw [Int.mul_comm y U]
      exact (edge_iff hU).mpr (h5 y hy)
    · cases m
      have := (edge_iff (U := U) (a := x 1) (b := x 0) (c := 1) hU).mpr h6
      rw [Int.mul_one] at this
      exact this
def min3 (t : Int) : Int := if 3 < t then 3 else t
/-- the ways in which a row can be gone -/
def Rn (U : Int) (p : Pt) (k : Int × Int) (m : Int) : Prop := ∃ x : Int → Int, x 0 = 0 ∧ FeasE p.E (fun j => -(U * x j)) ∧ (∀ j, 0 ≤ j → j < p.n → x (j + 1) ≤ x j + 2) ∧ k = (min3 (x p.n - x p.b0), min3 (x p.n - x p.b1)) ∧ m = x p.n
theorem goneOk_iff {d : Stp} {r : Int} : goneOk d r = true ↔ d.low ≤ r ∧ ∀ h, d.high = some h → r ≤ h := by
  unfold goneOk
  cases hh : d.high with
  | none => simp
  | some y => simp
theorem x_mono (hU : 1 ≤ U) (h : PtOk U p) (hf : FeasE p.E (fun j => -(U * x j))) {i j : Int} (h0 : 0 ≤ i) (hij : i ≤ j) (hj : j ≤ p.n) : x i ≤ x j := by
  have := mono_at h.e hf h0 hij hj
  exact Int.le_of_mul_le_mul_left (a := U) (by omega) (by omega)
theorem x_two (hw : ∀ j, 0 ≤ j → j < p.n → x (j + 1) ≤ x j + 2) (hx : x 0 = 0) : ∀ j : Nat, (j : Int) ≤ p.n → x (j : Int) ≤ 2 * (j : Int)
  | 0, _ => by simp [hx]
  | j + 1, hj => by
    have h1 := x_two hw hx j (by omega)
    have h2 := hw (j : Int) (by omega) (by omega)
    rw [show ((j + 1 : Nat) : Int) = (j : Int) + 1 by omega]
    omega
theorem feas_cong {E : Edges} {n : Int} {q q' : Int → Int} (h : ∀ u v w, (u, v, w) ∈ E → (0 ≤ u ∧ u ≤ n) ∧ 0 ≤ v ∧ v ≤ n) (hq : ∀ j, 0 ≤ j → j ≤ n → q j = q' j) (hf : FeasE E q) : FeasE E q' := fun u v w m => by
  have hr := h u v w m
  rw [← hq u hr.1.1 hr.1.2, ← hq v hr.2.1 hr.2.2]
  exact hf u v w m
theorem rn_next (hU : 1 ≤ U) (ok : StpOk d) (h : PtOk U p) (hn : p.n ≤ 3) (k : Int × Int) (m : Int) : (∃ k₀ m₀, Rn U p k₀ m₀ ∧ oneW d (k₀, m₀) k m) ↔ Rn U (nextPt U d e p) k m := by
  have hb := h.bk d
  have hb0 := h.b0
  have hb1 := h.b1
  have hn0 := h.n0
  constructor
  · rintro ⟨k₀, m₀, ⟨x, hx0, hf, hw, rfl, rfl⟩, wt, w0, w2, hg, rfl, rfl⟩
    obtain ⟨g1, g2⟩ := goneOk_iff.mp hg
    have hx8 : x p.n ≤ 6 := by
      have := x_two hw hx0 p.n.toNat (by omega)
      rw [show ((p.n.toNat : Nat) : Int) = p.n by omega] at this
      omega
    have hrd : rdOf d (min3 (x p.n - x p.b0)) (min3 (x p.n - x p.b1)) wt = min3 (x p.n - x (p.bk d)) + wt := by
      unfold rdOf Pt.bk
      split <;> rfl
    dsimp only at g1 g2
    rw [hrd] at g1 g2
    obtain ⟨x', old, new⟩ : ∃ x' : Int → Int, (∀ j, 0 ≤ j → j ≤ p.n → x' j = x j) ∧ x' (p.n + 1) = x p.n + wt := ⟨fun j => if j = p.n + 1 then x p.n + wt else x j, fun j h1 h2 => if_neg (by omega), if_pos rfl⟩
    have m1 := x_mono (p := p) hU h hf (i := 0) (j := p.n) (by omega) hn0 (Int.le_refl _)
    refine ⟨x', (old 0 (by omega) hn0).trans hx0, ?_, fun j j0 jn => ?_, ?_, ?_⟩
    · refine (feas_next hU).mpr ⟨feas_cong h.e.rng (fun j h1 h2 => by rw [old j h1 h2]) hf, ?_, ?_, ?_, fun y hy => ?_, ?_⟩
      · rw [old 0 (by omega) hn0, new]; omega
      · rw [old p.n hn0 (Int.le_refl _), new]; omega
      · rw [old _ hb.1 hb.2, new]
        unfold min3 at g1
        split at g1 <;> omega
      · rw [old _ hb.1 hb.2, new]
        have g3 := g2 y hy
        have := ok.h y hy
        unfold min3 at g3
        split at g3 <;> omega
      · rw [old 0 (by omega) hn0]
        by_cases hn1 : p.n = 0
        · have e1 : x' 1 = x' (p.n + 1) := by rw [hn1]; rfl
          rw [e1, new, hn1]; omega
        · rw [old 1 (by omega) (by omega)]
          have := x_mono (p := p) hU h hf (i := 0) (j := 1) (by omega) (by omega) (by omega)
          omega
    · have jn' : j < p.n + 1 := jn
      by_cases hj : j = p.n
      · subst hj
        rw [new, old _ hn0 (Int.le_refl _)]; omega
      · rw [old _ (by omega) (by omega), old _ (by omega) (by omega)]
        exact hw j j0 (by omega)
    · show gkey d _ _ wt = (min3 (x' (p.n + 1) - x' (if d.fst = 0 then p.b0 else p.n + 1)), min3 (x' (p.n + 1) - x' (if d.snd = 0 then p.b1 else p.n + 1)))
      rw [new]
      unfold gkey
      refine Prod.ext ?_ ?_
      · dsimp only
        split
        · rw [old _ hb0.1 hb0.2]
          unfold min3
          split <;> split <;> split <;> omega
        · rw [new]
          unfold min3
          split <;> omega
      · dsimp only
        split
        · rw [old _ hb1.1 hb1.2]
          unfold min3
          split <;> split <;> split <;> omega
        · rw [new]
          unfold min3
          split <;> omega
    · exact new.symm
  · rintro ⟨x, hx0, hf, hw, rfl, rfl⟩
    obtain ⟨f1, f2, f3, f4, f5, f6⟩ := (feas_next hU).mp hf
    have hw' : x (p.n + 1) ≤ x p.n + 2 := hw p.n hn0 (by show p.n < p.n + 1; omega)
    refine ⟨_, _, ⟨x, hx0, f1, fun j j0 jn => hw j j0 (by show j < p.n + 1; omega), rfl, rfl⟩, x (p.n + 1) - x p.n, by omega, by omega, goneOk_iff.mpr ?_, ?_, ?_⟩
    · have hrd : rdOf d (min3 (x p.n - x p.b0)) (min3 (x p.n - x p.b1)) (x (p.n + 1) - x p.n) = min3 (x p.n - x (p.bk d)) + (x (p.n + 1) - x p.n) := by
        unfold rdOf Pt.bk
        split <;> rfl
      dsimp only
      rw [hrd]
      have l2 := ok.l2
      refine ⟨?_, fun y hy => ?_⟩
      · unfold min3
        split <;> omega
      · have := f5 y hy
        have := ok.h y hy
        unfold min3
        split <;> omega
    · show (min3 (x (p.n + 1) - x (if d.fst = 0 then p.b0 else p.n + 1)), min3 (x (p.n + 1) - x (if d.snd = 0 then p.b1 else p.n + 1))) = gkey d _ _ _
      unfold gkey
      refine Prod.ext ?_ ?_
      · dsimp only
        split
        · unfold min3
          split <;> split <;> split <;> omega
        · unfold min3
          split <;> omega
      · dsimp only
        split
        · unfold min3
          split <;> split <;> split <;> omega
        · unfold min3
          split <;> omega
    · show x (p.n + 1) = x p.n + (x (p.n + 1) - x p.n)
      omega
end
theorem rn_start (U : Int) (k : Int × Int) (m : Int) : Rn U startPt k m ↔ k = (0, 0) ∧ m = 0 := by
  constructor
  · rintro ⟨x, hx0, _, _, rfl, rfl⟩
    show (min3 (x 0 - x 0), min3 (x 0 - x 0)) = (0, 0) ∧ x 0 = 0
    rw [hx0]
    exact ⟨rfl, rfl⟩
  · rintro ⟨rfl, rfl⟩
    refine ⟨fun _ => 0, rfl, fun u v w m => ?_, fun j j0 jn => ?_, rfl, rfl⟩
    · have e := List.mem_singleton.mp m
      cases e
      simp
    · show (0 : Int) ≤ 0 + 2; omega
theorem tab_start {U : Int} : TabIs startPt.S (Rn U startPt) := by
  refine ⟨by decide, fun k m q => ?_, fun k sp q => ?_⟩
  · have q' : lookT [((0, 0), 0)] k = some m := q
    rw [lookL_cons] at q'
    split at q'
    · rename_i e
      cases q'
      exact (rn_start U k 0).mpr ⟨e.symm, rfl⟩
    · cases q'
  · obtain ⟨rfl, rfl⟩ := (rn_start U k sp).mp q
    exact ⟨0, rfl, Int.le_refl _⟩
theorem Tr.tab {U : Int} {ds : Nat → Stp} {p : Pt} (hU : 1 ≤ U) (hds : ∀ e, StpOk (ds e)) (h : Tr U ds p) : p.n ≤ 4 → TabIs p.S (Rn U p) := by
  induction h with
  | start => exact fun _ => tab_start
  | next ht ih =>
    intro hn
    rename_i p e
    have hn' : p.n + 1 ≤ 4 := hn
    exact ((ih (by omega)).gone (ds e)).cast fun k m => rn_next hU (hds e) (ht.ok hU hds) (by omega) k m

end
section -- Least3
open PySem
set_option maxRecDepth 100000
set_option maxHeartbeats 4000000
/-- a table of the strongest bounds put in -/
structure BOk (B : Ties) (E : Edges) : Prop where
  nd : (B.map (·.1)).Nodup
  none : ∀ x y, lookT B (x, y) = .none → ∀ c, (x, y, c) ∉ E
  some : ∀ x y b, lookT B (x, y) = .some b → (x, y, b) ∈ E ∧ ∀ c, (x, y, c) ∈ E → b ≤ c
theorem BOk.put {B : Ties} {E : Edges} (h : BOk B E) {x y b : Int} (hb : ∀ c, (x, y, c) ∈ E → b ≤ c) : BOk (putT B (x, y) b) (E ++ [(x, y, b)]) := by
  refine ⟨keysL_put _ _ _ h.nd, fun u v q c m => ?_, fun u v c q => ?_⟩
  · rw [lookL_put] at q
    split at q
    · cases q
    · rename_i hne
      rcases List.mem_append.mp m with m | m
      · exact h.none u v q c m
      · have e := List.mem_singleton.mp m
        cases e
        exact hne rfl
  · rw [lookL_put] at q
    split at q
    · rename_i he
      cases he
      cases q
      refine ⟨by simp, fun c m => ?_⟩
      rcases List.mem_append.mp m with m | m
      · exact hb c m
      · have e := List.mem_singleton.mp m
        cases e; exact Int.le_refl _
    · rename_i hne
      obtain ⟨h1, h2⟩ := h.some u v c q
      refine ⟨List.mem_append_left _ h1, fun d m => ?_⟩
      rcases List.mem_append.mp m with m | m
      · exact h2 d m
      · have e := List.mem_singleton.mp m
        cases e
        exact absurd rfl hne
theorem BOk.skip {B : Ties} {E : Edges} (h : BOk B E) {x y b c : Int} (hc : (x, y, c) ∈ E) (hb : c ≤ b) : BOk B (E ++ [(x, y, b)]) := by
  refine ⟨h.nd, fun u v q d m => ?_, fun u v d q => ?_⟩
  · rcases List.mem_append.mp m with m | m
    · exact h.none u v q d m
    · have e := List.mem_singleton.mp m
      cases e
      exact h.none _ _ q c hc
  · obtain ⟨h1, h2⟩ := h.some u v d q
    refine ⟨List.mem_append_left _ h1, fun a m => ?_⟩
    rcases List.mem_append.mp m with m | m
    · exact h2 a m
    · have e := List.mem_singleton.mp m
      cases e
      have := h2 c hc
      omega
theorem BOk.start : BOk startPt.B startPt.E := by
  refine ⟨by decide, fun x y q c m => ?_, fun x y b q => ?_⟩
  · have e := List.mem_singleton.mp m
    cases e
    exact absurd q (by decide)
  · have q' : lookT [((0, 0), 0)] (x, y) = Option.some b := q
    rw [lookL_cons] at q'
    split at q'
    · rename_i e
      cases e
      cases q'
      refine ⟨.head _, fun c m => ?_⟩
      have e := List.mem_singleton.mp m
      cases e
      exact Int.le_refl _
    · cases q'
theorem BOk.next {U : Int} {d : Stp} {e : Nat} {p : Pt} (hU : 1 ≤ U) (ok : StpOk d) (h : PtOk U p) (hB : BOk p.B p.E) : BOk (nextPt U d e p).B (nextPt U d e p).E := by
  have hb := h.bk d
  have hn := h.n0
  have l0 := Int.mul_nonneg ok.l0 (show 0 ≤ U by omega)
  have r := h.e.rng
  have b1 := hB.put (x := p.n + 1) (y := 0) (b := 8 * U) fun c m => by have := r _ _ _ m; omega
  have b2 := b1.put (x := p.n) (y := p.n + 1) (b := 0) fun c m => by
    rcases List.mem_append.mp m with m | m
    · have := r _ _ _ m; omega
    · have e := List.mem_singleton.mp m
      simp only [Prod.mk.injEq] at e
      omega
  have b3 := b2.put (x := p.bk d) (y := p.n + 1) (b := -d.low * U) fun c m => by
    rw [Int.neg_mul]
    rcases List.mem_append.mp m with m | m
    · rcases List.mem_append.mp m with m | m
      · have := r _ _ _ m; omega
      · have e := List.mem_singleton.mp m
        simp only [Prod.mk.injEq] at e
        omega
    · have e := List.mem_singleton.mp m
      simp only [Prod.mk.injEq] at e
      omega
  have zero1 : ∀ E : Edges, (∀ q ∈ p.E ++ [(p.n + 1, 0, 8 * U)] ++ [(p.n, p.n + 1, 0)], q ∈ E) → (0, 1, 0) ∈ E := fun E hE => by
    by_cases hz : p.n = 0
    · refine hE _ (List.mem_append_right _ ?_)
      rw [hz]; exact .head _
    · exact hE _ (List.mem_append_left _ (List.mem_append_left _ (h.e.mono 0 (by omega) (by omega))))
  show BOk (winB U d p) (p.E ++ [(p.n + 1, 0, 8 * U)] ++ [(p.n, p.n + 1, 0)] ++ winE U d p ++ [(0, 1, U)])
  unfold winB winE
  dsimp only
  cases hh : d.high with
  | none =>
    dsimp only
    rw [Int.neg_mul] at b3 ⊢
    exact b3.skip (zero1 _ fun q hq => List.mem_append_left _ hq) (by omega)
  | some x =>
    dsimp only
    have hx := ok.h x hh
    have hx2 : x * U ≤ 8 * U := Int.mul_le_mul_of_nonneg_right (by omega) (by omega)
    have b4 := b3.put (x := p.n + 1) (y := p.bk d) (b := x * U) fun c m => by
      rcases List.mem_append.mp m with m | m
      · rcases List.mem_append.mp m with m | m
        · rcases List.mem_append.mp m with m | m
          · have := r _ _ _ m; omega
          · have e := List.mem_singleton.mp m
            simp only [Prod.mk.injEq] at e
            omega
        · have e := List.mem_singleton.mp m
          simp only [Prod.mk.injEq] at e
          omega
      · have e := List.mem_singleton.mp m
        simp only [Prod.mk.injEq] at e
        omega
    have eE : p.E ++ [(p.n + 1, 0, 8 * U)] ++ [(p.n, p.n + 1, 0)] ++ [(p.bk d, p.n + 1, -(d.low * U)), (p.n + 1, p.bk d, x * U)] = p.E ++ [(p.n + 1, 0, 8 * U)] ++ [(p.n, p.n + 1, 0)] ++ [(p.bk d, p.n + 1, -(d.low * U))] ++ [(p.n + 1, p.bk d, x * U)] := by simp
    rw [eE]
    rw [Int.neg_mul] at b4 ⊢
    exact b4.skip (zero1 _ fun q hq => List.mem_append_left _ (List.mem_append_left _ hq)) (by omega)
theorem Tr.bok {U : Int} {ds : Nat → Stp} {p : Pt} (hU : 1 ≤ U) (hds : ∀ e, StpOk (ds e)) (h : Tr U ds p) : BOk p.B p.E := by
  induction h with
  | start => exact .start
  | next ht ih => exact ih.next hU (hds _) (ht.ok hU hds)
theorem BOk.first {B : Ties} {E : Edges} {ks kc : List Int} {D : Int → Int} {G : Int → List (Int × Int)} (h : BOk B E) (O : NetOk E ks kc D G true) (x y : Int) : firstOf y (G x) = lookT B (x, y) := by
  obtain ⟨g1, g2, g3, g4⟩ := O.good rfl
  cases hl : lookT B (x, y) with
  | none =>
    cases hf : firstOf y (G x) with
    | none => rfl
    | some c => exact absurd (O.inE _ _ _ (firstOf_mem hf)) (h.none x y hl c)
  | some b =>
    obtain ⟨h1, h2⟩ := h.some x y b hl
    obtain ⟨_, _, c, hc, hle⟩ := g4 _ _ _ h1
    have := h2 c (O.inE _ _ _ (firstOf_mem hc))
    rw [hc]
    congr 1
    omega
theorem putT_len4 (ts : Ties) (k : Int × Int) (b : Int) : (putT ts k b).length ≤ ts.length + 1 := putT_len3 ts k b
theorem winB_len {U : Int} {d : Stp} {p : Pt} : (winB U d p).length ≤ p.B.length + 4 := by
  have a1 := putT_len3 p.B (p.n + 1, 0) (8 * U)
  have a2 := putT_len3 (putT p.B (p.n + 1, 0) (8 * U)) (p.n, p.n + 1) 0
  have a3 := putT_len3 (putT (putT p.B (p.n + 1, 0) (8 * U)) (p.n, p.n + 1) 0) (p.bk d, p.n + 1) (-d.low * U)
  unfold winB
  dsimp only
  cases d.high with
  | none => dsimp only; omega
  | some x =>
    have a4 := putT_len3 (putT (putT (putT p.B (p.n + 1, 0) (8 * U)) (p.n, p.n + 1) 0) (p.bk d, p.n + 1) (-d.low * U)) (p.n + 1, p.bk d) (x * U)
    dsimp only; omega
theorem Tr.blen {U : Int} {ds : Nat → Stp} {p : Pt} (h : Tr U ds p) : (p.B.length : Int) ≤ 1 + 4 * p.n := by
  induction h with
  | start => decide
  | next ht ih =>
    rename_i p e
    have h1 : (nextPt U (ds e) e p).B.length ≤ p.B.length + 4 := winB_len
    have h2 : (nextPt U (ds e) e p).n = p.n + 1 := rfl
    rw [h2]
    omega
theorem EdgesOk.six {U n : Int} {E : Edges} (h : EdgesOk U n E) (hn : n ≤ 5) : Six E := fun u v w m => by
  have := h.rng u v w m
  omega
theorem rn_keys {U : Int} {p : Pt} (h : PtOk U p) (hU : 1 ≤ U) {k : Int × Int} {m : Int} (r : Rn U p k m) : (0 ≤ k.1 ∧ k.1 ≤ 3) ∧ 0 ≤ k.2 ∧ k.2 ≤ 3 := by
  obtain ⟨x, hx0, hf, hw, rfl, rfl⟩ := r
  have h0 := x_mono (p := p) hU h hf h.b0.1 h.b0.2 (Int.le_refl _)
  have h1 := x_mono (p := p) hU h hf h.b1.1 h.b1.2 (Int.le_refl _)
  unfold min3
  dsimp only
  refine ⟨⟨?_, ?_⟩, ?_, ?_⟩ <;> split <;> omega
theorem rn_most {U : Int} {p : Pt} (h : PtOk U p) (hU : 1 ≤ U) (hn : p.n ≤ 4) {k : Int × Int} {m : Int} (r : Rn U p k m) : 0 ≤ m ∧ m ≤ 8 := by
  obtain ⟨x, hx0, hf, hw, rfl, rfl⟩ := r
  have hn0 := h.n0
  have h0 := x_mono (p := p) hU h hf (i := 0) (j := p.n) (by omega) hn0 (Int.le_refl _)
  have h1 := x_two (p := p) hw hx0 p.n.toNat (by omega)
  rw [show ((p.n.toNat : Nat) : Int) = p.n by omega] at h1
  omega
/-- what the times of a network that stands are -/
structure Stands (U : Int) (p : Pt) (ks : List Int) (D : Int → Int) : Prop where
  ks : ∀ i : Nat, (i : Int) ≤ p.n → (i : Int) ∈ ks
  zero : D 0 = 0
  last : ∀ M, M ∈ p.S.map (·.2) → (∀ a, a ∈ p.S.map (·.2) → M ≤ a) → -(D p.n) = U * M
  mono : ∀ i : Nat, (i : Int) < p.n → -(D (i : Int)) ≤ -(D ((i : Int) + 1))
  feas : FeasE p.E D
theorem row_law {U : Int} {ds : Nat → Stp} {p : Pt} {ks kc : List Int} {D : Int → Int} {G : Int → List (Int × Int)} {sat : Bool} (hU : 1 ≤ U) (hds : ∀ e, StpOk (ds e)) (h : Tr U ds p) (hn : p.n ≤ 4) (O : NetOk p.E ks kc D G sat) :
    sat = decide (0 < p.S.length) ∧ (sat = true → Stands U p ks D) := by
  have hp := h.ok hU hds
  have hT := h.tab hU hds hn
  have hn0 := hp.n0
  have key : sat = true → LeastD p.E p.n ks D ∧ ∀ k, 0 ≤ k → k ≤ p.n → k ∈ ks := fun e => by
    subst e
    exact ⟨O.least hp.e, fun k h0 h1 => O.all_in hp.e hp.zero h0 h1⟩
  have run : sat = true → ∃ k, Rn U p k ((-D p.n) / U) ∧ -D p.n = U * ((-D p.n) / U) := fun e => by
    obtain ⟨M, hin⟩ := key e
    have mul : ∀ {k : Int}, 0 ≤ k → k ≤ p.n → -D k = U * ((-D k) / U) := fun h0 hk => least_mul hU hp.e M hin hn0 h0 hk
    refine ⟨_, ⟨fun j => (-D j) / U, ?_, ceil_feas hU hp.e M.feas, fun j j0 jn => ?_, rfl, rfl⟩, mul hn0 (Int.le_refl _)⟩
    · show (-D 0) / U = 0
      rw [least_zero hU hp.e M hin hn0]
      simp
    · have g := least_gap hU hp.e M hin hn0 j0 jn
      have m1 := mul (k := j) j0 (by omega)
      have m2 := mul (k := j + 1) (by omega) (by omega)
      have : U * ((-D (j + 1)) / U) ≤ U * ((-D j) / U + 2) := by rw [Int.mul_add]; omega
      exact Int.le_of_mul_le_mul_left this (by omega)
  refine ⟨?_, fun e => ?_⟩
  · cases hs : sat with
    | true =>
      obtain ⟨k, hk, _⟩ := run hs
      exact (decide_eq_true (hT.pos.mpr ⟨_, _, hk⟩)).symm
    | false =>
      refine (decide_eq_false fun hp0 => ?_).symm
      obtain ⟨k, m, x, _, hf, _⟩ := hT.pos.mp hp0
      subst hs
      exact O.bad rfl ⟨_, hf⟩
  · obtain ⟨M, hin⟩ := key e
    refine ⟨fun i hi => hin _ (by omega) hi, least_zero hU hp.e M hin hn0, fun m hm hle => ?_, fun i hi => ?_, M.feas⟩
    · obtain ⟨k, hk, hmul⟩ := run e
      obtain ⟨m', hl, hle'⟩ := hT.full _ _ hk
      have h1 := hle m' (List.mem_map.mpr ⟨_, (lookT_mem3 hT.nd).mpr hl, rfl⟩)
      obtain ⟨⟨k2, m2⟩, hm2, rfl⟩ := List.mem_map.mp hm
      obtain ⟨y, hy0, hf, hw, _, hyn⟩ := hT.sound _ _ ((lookT_mem3 hT.nd).mp hm2)
      have h2 := M.max _ hf (fun j hj => by
        have hj' := M.inn j hj
        have := x_mono (p := p) hU hp hf (i := 0) (j := j) (by omega) hj'.1 hj'.2
        have := Int.mul_nonneg (show 0 ≤ U by omega) (show 0 ≤ y j by omega)
        omega) p.n (hin _ hn0 (Int.le_refl _))
      rw [← hyn] at h2
      have h3 : U * m2 ≤ U * ((-D p.n) / U) := Int.mul_le_mul_of_nonneg_left (by dsimp only at h1; omega) (by omega)
      dsimp only
      omega
    · have := mono_at hp.e M.feas (i := (i : Int)) (j := (i : Int) + 1) (by omega) (by omega) (by omega)
      omega
theorem fold_mono {U : Int} {ds : Nat → Stp} : ∀ (row : List Nat) (p : Pt) (q : Int × Int × Int), q ∈ p.E → q ∈ (row.foldl (fun p e => nextPt U (ds e) e p) p).E
  | [], _, _, h => h
  | e :: row, p, q, h => by
    rw [List.foldl_cons]
    exact fold_mono row _ q (mem_next.mpr (.inl h))
theorem take_mono {U : Int} {ds : Nat → Stp} {row : List Nat} {j : Nat} {q : Int × Int × Int} (h : q ∈ (ptOf U ds (row.take j)).E) : q ∈ (ptOf U ds row).E := by
  have e : ptOf U ds row = (row.drop j).foldl (fun p e => nextPt U (ds e) e p) (ptOf U ds (row.take j)) := by
    unfold ptOf
    rw [← List.foldl_append, List.take_append_drop]
  rw [e]
  exact fold_mono _ _ _ h
theorem row_win {U : Int} {ds : Nat → Stp} {row : List Nat} {D : Int → Int} (hf : FeasE (ptOf U ds row).E D) (j e : Nat) (hj : row[j]? = some e) :
    (ds e).low * U ≤ -(D ((j : Int) + 1)) - -(D ((ptOf U ds (row.take j)).bk (ds e))) ∧ ∀ x, (ds e).high = some x → -(D ((j : Int) + 1)) - -(D ((ptOf U ds (row.take j)).bk (ds e))) ≤ x * U := by
  have hlt : j < row.length := (List.getElem?_eq_some_iff.mp hj).1
  have hn : (ptOf U ds (row.take j)).n = (j : Int) := by rw [ptOf_n, List.length_take_of_le (by omega)]
  have hE : ∀ q, q ∈ (nextPt U (ds e) e (ptOf U ds (row.take j))).E → q ∈ (ptOf U ds row).E := fun q hq => by
    refine take_mono (j := j + 1) ?_
    rw [List.take_add_one, hj]
    show q ∈ (ptOf U ds (row.take j ++ [e])).E
    rw [ptOf_snoc]
    exact hq
  refine ⟨?_, fun x hx => ?_⟩
  · have := hf _ _ _ (hE _ (mem_next.mpr (.inr (.inr (.inr (.inl rfl))))))
    rw [hn] at this
    omega
  · have := hf _ _ _ (hE _ (mem_next.mpr (.inr (.inr (.inr (.inr (.inl ⟨x, hx, rfl⟩)))))))
    rw [hn] at this
    omega

end
section -- Grow
open PySem PySem.W PyProof.Rows PySem.Calls
set_option maxRecDepth 100000
section
variable {prog : Program} {w : World} {A : Around} {E : Value → Shared → Prop} {s : Shared} {env : Env} {h₀ : Heap} {body : List Stmt} {Q : Flow → Shared → Prop} {target : Expr}
/-- a loop over a list that grows while it is gone through: n turns, the list found in the ledger anew at each -/
def GrowAt (prog : Program) (w : World) (A : Around) (h₀ : Heap) (env : Env) (target : Expr) (body : List Stmt) (Q : Flow → Shared → Prop) (E : Value → Shared → Prop) (xv : Value) (s₁ : Shared) : Prop :=
  ∃ (ax : Addr) (n : Nat) (m : Str → Option Value) (news : List (Addr × Obj)) (J : Nat → (Str → Option Value) → List (Addr × Obj) → Prop),
    xv = .ref ax ∧ A.handled = none ∧ Fr h₀ env.locals s₁.heap m ∧ News h₀ env.locals s₁.heap news ∧ J 0 m news ∧
    (∀ i m news, i ≤ n → J i m news → ∃ (vs : List Value) (nn : Nat), (ax, listOf vs.toArray nn) ∈ news ∧ (i < n → i < vs.length) ∧ (i = n → vs.length = n)) ∧
    (∀ I i v m news (vs : List Value) nn h tk it, i < n → J i m news → (ax, listOf vs.toArray nn) ∈ news → vs[i]? = some v → (∀ p ∈ news, p.1 ≠ I) → Fr h₀ env.locals h m → News h₀ env.locals h ((I, it) :: news) →
      wpAny (model prog w) A (assign target env v) (fun _ s₂ => wpAny (model prog w) A (execs body env) (UnrPost h₀ env.locals { s₁ with heap := h, toks := tk } I it (J (i + 1)) Q) E s₂) E { s₁ with heap := h, toks := tk }) ∧
    (∀ m news h tk, J n m news → Fr h₀ env.locals h m → News h₀ env.locals h news → Q .next { s₁ with heap := h, toks := tk })
theorem For_grow {iter : Expr} {pos : Pos} {m : Str → Option Value} (_F : Fr h₀ env.locals s.heap m)
    (h : wpAny (model prog w) A (eval iter env) (GrowAt prog w A h₀ env target body Q E) E s)
    (hs : ∀ x, foldedSetIterable iter env x = pure x := by intro _; rfl)
    (hE : PassesOwn (model prog w) A env E := by passes_own) :
    wpAny (model prog w) A (exec (.For target iter body [] pos) env) Q E s := by
  refine wpAny_For (wpAny_mono h (fun xv s₁ h₁ => ?_) fun _ _ e => e) hs
  obtain ⟨ax, n, m, news, J, rfl, hh, F, N, h0, hat, turn, done⟩ := h₁
  obtain ⟨vs, nn, hm, w1, w2⟩ := hat 0 m news (Nat.zero_le _) h0
  have hax := N _ hm
  have hl : s₁.heap.IsList ax vs.toArray := News.isList N hm
  refine wpAny_pyIter_list hl ?_
  have hI0 : h₀.get? s₁.heap.objs.size = none := next_is_new F
  have hIL : env.locals ≠ s₁.heap.objs.size := fun e => absurd F.ns.lt (e ▸ Nat.lt_irrefl _)
  generalize hIe : s₁.heap.objs.size = I at *
  refine codeAny_forLoop_any
    (fun k s' => ∃ h' tk m' news' i, s' = { s₁ with heap := h', toks := tk } ∧ h'.IsListIter I ax i ∧ Fr h₀ env.locals h' m' ∧ News h₀ env.locals h' news' ∧ (∀ p ∈ news', p.1 ≠ I) ∧ J i m' news' ∧ i ≤ n ∧ k = n + 1 - i) ?_ (n + 1)
    ⟨s₁.heap.push { cls := .type "list_iterator", data := .fields #[.ref ax, .int 0 0] }, s₁.toks, m, news, 0, rfl, ⟨_, hIe ▸ Heap.get?_push_size _ rfl, rfl, rfl⟩, F.push _, fun p hp => ⟨Heap.get?_push_of_some _ (N p hp).1, (N p hp).2⟩, fun p hp => hIe ▸ Nat.ne_of_lt (Heap.lt_size (N p hp).1), h0, Nat.zero_le _, rfl⟩
  clear hIe F N h0 hm hax hl w1 w2 vs nn m news
  rintro k s' ⟨h', tk, m', news', i, rfl, hit, F', N', hoff, hJ, hi, rfl⟩
  obtain ⟨vs, nn, hm, hv1, hv2⟩ := hat i m' news' hi hJ
  have hl : h'.IsList ax vs.toArray := News.isList N' hm
  have next : ∀ h₁ : Heap, (∀ b o, b ≠ I → h'.get? b = some o → h₁.get? b = some o) → Fr h₀ env.locals h₁ m' ∧ News h₀ env.locals h₁ news' := fun h₁ hk₁ =>
    ⟨⟨F'.ns.at' fun o e => hk₁ _ o hIL e, fun b o e => hk₁ b o (fun q => by rw [q, hI0] at e; cases e) (F'.keep b o e), F'.above⟩, fun p hp => ⟨hk₁ _ _ (hoff p hp) (N' p hp).1, (N' p hp).2⟩⟩
  by_cases hlt : i < n
  · have hvl := hv1 hlt
    have hx : vs[i]? = some vs[i] := List.getElem?_eq_getElem hvl
    refine wpAny_pyNext_list_item hit hl (x := vs[i]) (by simpa using hx) fun h₁ hit₁ hs₁ => ?_
    refine letGo_listiter hit₁ ?_
    obtain ⟨F₁, N₁⟩ := next h₁ fun b o hb x => hs₁.extBut b o hb x
    obtain ⟨o, ho, hr⟩ := id hit₁
    have Nown : News h₀ env.locals h₁ ((I, o) :: news') := fun p hp => by
      rcases List.mem_cons.mp hp with rfl | hp
      · exact ⟨ho, fun e => hIL e.symm, hI0⟩
      · exact N₁ p hp
    refine wpAny_mono (turn I i _ m' news' vs nn h₁ tk o hlt hJ hm hx hoff F₁ Nown) (fun _ s₂ h₂' => wpAny_mono h₂' (fun f s₃ h₃ => ?_) fun e s' x => ?_) fun e s' x => ?_
    · cases f with
      | ret v => exact h₃
      | brk => exact h₃
      | cont =>
        obtain ⟨h₃', tk₃, m₂, news₂, rfl, F₃, N₃, ha₃, hJ₃⟩ := h₃
        exact ⟨n + 1 - (i + 1), by omega, h₃', tk₃, m₂, news₂, i + 1, rfl, ⟨o, (N₃ _ (.head _)).1, hr⟩, F₃, fun p hp => N₃ p (.tail _ hp), ha₃, hJ₃, hlt, rfl⟩
      | next =>
        obtain ⟨h₃', tk₃, m₂, news₂, rfl, F₃, N₃, ha₃, hJ₃⟩ := h₃
        exact ⟨n + 1 - (i + 1), by omega, h₃', tk₃, m₂, news₂, i + 1, rfl, ⟨o, (N₃ _ (.head _)).1, hr⟩, F₃, fun p hp => N₃ p (.tail _ hp), ha₃, hJ₃, hlt, rfl⟩
    · exact hE _ _ x
    · exact hE _ _ x
  · have hin : i = n := by omega
    subst hin
    have hz := hv2 rfl
    refine wpAny_pyNext_list_end hh hit hl (by simp [hz]) fun h₁ hk₁ => wpAny_execs_nil ?_
    obtain ⟨F₁, N₁⟩ := next h₁ hk₁
    exact done m' news' h₁ tk hJ F₁ N₁
end

end
section -- Turn
open PySem PySem.W PyProof.Rows PySem.Calls
set_option maxRecDepth 100000
set_option maxHeartbeats 8000000
theorem kfill_Turn : (PySem.Challenge.rw_vs0022_03 = PySem.Challenge.rw_vs0022_03) ∧ (hd.heap_39 = hd.heap_39) := by
  w_top off
  k_fill
  exact ⟨rfl, rfl⟩
theorem sched_fact : ∀ i, i < 10 → ((sched i)[i]?.all fun row => decide (row.length ≤ 4) && (row.all (· < 4)) && decide ((sched 10)[i]? = some row)) = true := by decide
theorem sched_len : ∀ i, i < 10 → (sched i).length ≤ 12 := by decide
theorem sched_row {i : Nat} {row : List Nat} (hi : i < 10) (h : (sched i)[i]? = some row) : row.length ≤ 4 ∧ (∀ e ∈ row, e < 4) ∧ (sched 10)[i]? = some row := by
  have := sched_fact i hi
  rw [h] at this
  simp only [Option.all_some, Bool.and_eq_true, decide_eq_true_eq, List.all_eq_true] at this
  exact ⟨this.1.1, this.1.2, this.2⟩
theorem sched_all : ∀ row ∈ sched 10, row.length ≤ 4 := by decide
/-- what the law's loop over the rows keeps -/
def JT (w : World) (L : Nat) (U : Int) (tU : Tok) (st rA kA : Addr) (ds : Nat → Stp) (i : Nat) (m : Str → Option Value) (news : List (Addr × Obj)) : Prop :=
  MHas m (basePs U tU st rA kA) ∧ ∃ (o2 : Obj) (cv : Option Value) (kv : List Value) (kn : Nat) (rowsv : List Value) (rn : Nat) (r : List (Addr × Obj)), o2.data = .cell cv ∧ news = (L+1+1, o2) :: (kA, listOf kv.toArray kn) :: (rA, listOf rowsv.toArray rn) :: r ∧ ND news ∧
    StepsAt r ds st ∧ RowsAt w r U ds rowsv (sched i) ∧ kv.length ≤ i ∧ ∀ x ∈ kv, KeptAt w r U ds x
structure Facts (U : Int) (ds : Nat → Stp) (row : List Nat) (v : NetV) : Prop where
  h6 : Six (ptOf U ds row).E
  hz : (ptOf U ds row).S.length ≤ 16
  hsat : v.sat = decide (0 < (ptOf U ds row).S.length)
  st : v.sat = true → Stands U (ptOf U ds row) v.ks v.D
  hM : ∀ M, M ∈ (ptOf U ds row).S.map (·.2) → 0 ≤ M ∧ M ≤ 8
  hbk : ∀ d, 0 ≤ (ptOf U ds row).bk d ∧ (ptOf U ds row).bk d ≤ (ptOf U ds row).n
  hB0 : 0 < (ptOf U ds row).B.length
  hBl : (ptOf U ds row).B.length ≤ 40
  hBr : ∀ k ∈ (ptOf U ds row).B, (0 ≤ k.1.1 ∧ k.1.1 ≤ 5) ∧ 0 ≤ k.1.2 ∧ k.1.2 ≤ 5
  hB : v.sat = true → ∀ x y, firstOf y (v.G x) = lookT (ptOf U ds row).B (x, y)
theorem facts {w : World} {U : Int} {ds : Nat → Stp} {row : List Nat} {v : NetV} {r : List (Addr × Obj)} (hU : 1 ≤ U) (ok : ∀ e, StpOk (ds e)) (hl : row.length ≤ 4) (O : v.Ok w r (ptOf U ds row).E) : Facts U ds row v := by
  have ht := tr_ptOf U ds row
  have hp := ht.ok hU ok
  have hpn := ptOf_n U ds row
  have hn : (ptOf U ds row).n ≤ 4 := by omega
  have hT := ht.tab hU ok hn
  have hB := ht.bok hU ok
  obtain ⟨r1, r2⟩ := row_law hU ok ht hn O.O
  have h0 := hB.none 0 0
  refine ⟨hp.e.six (by omega), hT.len16 fun k m q => rn_keys hp hU q, r1, r2, fun M hM => ?_, hp.bk, ?_, ?_, fun k hk => ?_, fun hs x y => ?_⟩
  · obtain ⟨⟨k, m⟩, hm, rfl⟩ := List.mem_map.mp hM
    exact rn_most hp hU hn (hT.sound _ _ ((lookT_mem3 hT.nd).mp hm))
  · cases hl0 : lookT (ptOf U ds row).B (0, 0) with
    | none => exact absurd hp.zero (h0 hl0 0)
    | some b => exact List.length_pos_of_mem ((lookT_mem3 hB.nd).mpr hl0)
  · have := ht.blen; omega
  · obtain ⟨⟨x, y⟩, b⟩ := k
    have h1 := (hB.some x y b ((lookT_mem3 hB.nd).mp hk)).1
    have := hp.e.rng _ _ _ h1
    dsimp only
    omega
  · have O' := O.O
    rw [hs] at O'
    exact hB.first O' x y
section
variable {w : World} {base h₀ : Heap} {L : Nat} {fa : Addr} {cd : Value} {s : Shared} {mg mb : Str → Option Value} {p : Program} {loose : List Str} {mean : ExcName → Option Value} {Q : Flow → Shared → Prop} {E : Value → Shared → Prop}
theorem turn {u : Str → Option Value} {U : Int} {tU : Tok} {st rA kA : Addr} {news : List (Addr × Obj)} {I : Addr} {it : Obj} {ds : Nat → Stp} {i nn : Nat} {vs : List Value} {x : Value}
    (B : Below callerA base [] h₀) (F : Fr h₀ L s.heap u) (X₀ : (hd.heap_39 w.params).In h₀) (T : Top p loose mean mg mb h₀) (hE : PassesOwn (model PR w) (lawA L fa cd) (lawEnv L fa cd) E) (hU : 1 ≤ U) (ok : ∀ e, StpOk (ds e))
    (hi : i < 10) (J : JT w L U tU st rA kA ds i u news) (hrm : (rA, listOf vs.toArray nn) ∈ news) (hx : vs[i]? = some x) (off : ∀ q ∈ news, q.1 ≠ I) (N : News h₀ L s.heap ((I, it) :: news)) :
    wpAny (model PR w) (lawA L fa cd) (assign lF7.val.1 (lawEnv L fa cd) x) (fun _ s₂ => wpAny (model PR w) (lawA L fa cd) (execs lF7.val.2.2 (lawEnv L fa cd)) (UnrPost h₀ L s I it (JT w L U tU st rA kA ds (i + 1)) Q) E s₂) E s := by
  obtain ⟨hm, o2, cv, kv, kn, rowsv, rn, r, hcv, rfl, nd, S, RR, hkl, hK⟩ := J
  have e1 := (N _ (.tail _ hrm)).1
  have e2 := (N _ (.tail _ (.tail _ (.tail _ (.head _))))).1
  have ev : vs = rowsv := by
    dsimp only at e1 e2
    rw [e2] at e1
    have := congrArg Obj.data (Option.some.inj e1)
    have h3 : rowsv.toArray = vs.toArray := by injection this
    exact (by simpa using (congrArg Array.toList h3).symm)
  subst ev
  have hlt := sched_lt i hi
  obtain ⟨row, hrow⟩ : ∃ row, (sched i)[i]? = some row := ⟨_, List.getElem?_eq_getElem hlt⟩
  obtain ⟨hl, h4, h10⟩ := sched_row hi hrow
  have hs1 : sched (i + 1) = sched i ++ kids row 4 := by
    show sched i ++ (match (sched i)[i]? with | some r => kids r 4 | none => []) = _
    rw [hrow]
  obtain ⟨v, ta, ra, ba, sa, da, rv, so, bo, y0, y1, y2, rfl, R⟩ := RR.at' i _ _ hx hrow
  have fc := facts hU ok hl R.ok
  have hpn := ptOf_n U ds row
  have ndI : ND ((I, it) :: (L+1+1, o2) :: (kA, listOf kv.toArray kn) :: (rA, listOf vs.toArray rn) :: r) := nd_c.mpr ⟨off, nd⟩
  refine turnA (r := (kA, listOf kv.toArray kn) :: (rA, listOf vs.toArray rn) :: r) (tl := t1.tl) B F X₀ T hE hm N ndI hcv (R.up fun q hq => .tail _ (.tail _ hq)) fc.h6 hl fc.hz fc.hsat fun h2 tk2 m2 o2' y3 y4 F2 M2 hc2 N2 => ?_
  have nd2 : ND ((I, it) :: (L+1+1, o2') :: (kA, listOf kv.toArray kn) :: (rA, listOf vs.toArray rn) :: r) := nd_same ndI rfl
  refine turnB (P := [(rA, listOf vs.toArray rn)]) (tl := t2.tl) B F2 X₀ T hE M2 N2 nd2 hc2 R fc.h6 hl fc.hz S ok h4 (by omega) (fun hp => ?_) fun h3 tk3 m3 kv' kn' r' hr' F3 M3 hkv N3 nd3 => ?_
  · have hs : v.sat = true := by rw [fc.hsat]; exact decide_eq_true hp
    have Z := fc.st hs
    refine ⟨hs, fun j hj => Z.ks j (by omega), fc.hM, Z.zero, fun M a b => ?_, fun j hj => Z.mono j (by omega), row_win Z.feas⟩
    have := Z.last M a b
    rw [hpn] at this
    exact this
  · have pm : ((I, it) :: (L+1+1, o2') :: (kA, listOf kv'.toArray kn') :: (rA, listOf vs.toArray rn) :: r').Perm ((I, it) :: (L+1+1, o2') :: (rA, listOf vs.toArray rn) :: (kA, listOf kv'.toArray kn') :: r') := .cons _ (.cons _ (.swap _ _ _))
    have N4 : News h₀ L _ ((I, it) :: (L+1+1, o2') :: (rA, listOf vs.toArray rn) :: ([(kA, listOf kv'.toArray kn')] ++ r')) := News.perm N3 fun q hq => pm.mem_iff.mpr hq
    have nd4 : ND ((I, it) :: (L+1+1, o2') :: (rA, listOf vs.toArray rn) :: ([(kA, listOf kv'.toArray kn')] ++ r')) := (pm.map (·.1)).nodup_iff.mp nd3
    refine turnC (P0 := [(kA, listOf kv'.toArray kn')]) (tl := t3.tl) B F3 X₀ T hE M3 N4 nd4 hc2 (R.mono hr') hl (sched_len i hi) (S.mono hr') ok (RR.mono hr') fc.h6 fc.hz fc.hbk fc.hB0 fc.hBl fc.hBr fun h5 tk5 m5 rows5 rn5 r5 hr5 F5 M5 RR5 N5 nd5 => ?_
    rw [t_end]
    refine wpAny_execs_nil ?_
    have pm5 : ((I, it) :: (L+1+1, o2') :: (rA, listOf rows5.toArray rn5) :: (kA, listOf kv'.toArray kn') :: r5).Perm ((I, it) :: (L+1+1, o2') :: (kA, listOf kv'.toArray kn') :: (rA, listOf rows5.toArray rn5) :: r5) := .cons _ (.cons _ (.swap _ _ _))
    have N6 : News h₀ L h5 ((I, it) :: (L+1+1, o2') :: (kA, listOf kv'.toArray kn') :: (rA, listOf rows5.toArray rn5) :: r5) := News.perm N5 fun q hq => pm5.mem_iff.mpr hq
    have nd6 : ND ((I, it) :: (L+1+1, o2') :: (kA, listOf kv'.toArray kn') :: (rA, listOf rows5.toArray rn5) :: r5) := (pm5.map (·.1)).nodup_iff.mp nd5
    refine ⟨h5, tk5, m5, _, rfl, F5, N6, (nd_c.mp nd6).1, M5, o2', _, kv', kn', rows5, rn5, r5, hc2, rfl, (nd_c.mp nd6).2, S.mono fun q hq => hr5 _ (hr' _ hq), by rw [hs1]; exact RR5, ?_, fun z hz => ?_⟩
    · rcases hkv with rfl | ⟨_, _, _, _, rfl, _⟩
      · omega
      · rw [List.length_append, List.length_singleton]; omega
    · rcases hkv with rfl | ⟨ka, tm, tv, n, rfl, KH⟩
      · exact (hK z hz).mono fun q hq => hr5 _ (hr' _ hq)
      · rcases List.mem_append.mp hz with hz | hz
        · exact (hK z hz).mono fun q hq => hr5 _ (hr' _ hq)
        · rw [List.mem_singleton.mp hz]
          exact KeptAt.mono hr5 ⟨row, i, v, ka, tm, da, tv, n, bo, h10, rfl, KH⟩
end

end
section -- DComp3
open PySem PySem.W PyProof.Rows PySem.Calls
set_option maxRecDepth 100000
set_option maxHeartbeats 4000000
open PyProof.Rows.LCg
section
variable {prog : Program} {w : World} {A : Around} {E : Value → Shared → Prop} {s : Shared} {h₀ : Heap} {L : Addr} {m : Str → Option Value} {env : Env}
def lastTurnD (kx vx target iter : Expr) (gens : List Comprehension) (scope : Scope) (pos : Pos) (d : Nat) (it acc : Value) (env : Env) : Sem Fin := do
  standAt iter.pos
  match ← pyNext it with
  | none => pure (.done .next)
  | some v =>
    letOwnedTupleGo target it v
    assign target env v
    let mut ok := true
    for c in ([] : List Expr) do
      if ok then ok ← isTrue c env (eval c env)
    if ok then
      (do
        let kv ← eval kx env
        let vv ← holding [kv] (eval vx env)
        match acc with
        | .ref d => do
          standAt { kx.pos with endLine := vx.pos.endLine, endCol := vx.pos.endCol }
          holding [kv, vv] (dictSet d kv vv)
        | _ => unsupported "internal:dictcomp")
    again (.compLoop (.DictComp kx vx gens scope pos) d it acc env)
def midTurnD (kx vx target iter iter2 : Expr) (gens : List Comprehension) (scope : Scope) (pos : Pos) (it acc : Value) (env : Env) : Sem Fin := do
  standAt iter.pos
  match ← pyNext it with
  | none => pure (.done .next)
  | some v =>
    letOwnedTupleGo target it v
    assign target env v
    let mut ok := true
    for c in ([] : List Expr) do
      if ok then ok ← isTrue c env (eval c env)
    if ok then
      let x ← eval iter2 env
      standAt iter2.pos
      let x ← foldedSetIterable iter2 env x
      let _ ← runOwn (.compStart (.DictComp kx vx gens scope pos) 1 (← holding [x] (pyIter x)) acc env) env
    again (.compLoop (.DictComp kx vx gens scope pos) 0 it acc env)
theorem last_twoD (kx vx target iter : Expr) (g : Comprehension) (scope : Scope) (pos : Pos) (it acc : Value) (env : Env) : compTurn (.DictComp kx vx [g, ⟨target, iter, [], 0⟩] scope pos) 1 it acc env = lastTurnD kx vx target iter [g, ⟨target, iter, [], 0⟩] scope pos 1 it acc env := rfl
theorem mid_twoD (kx vx target iter target2 iter2 : Expr) (scope : Scope) (pos : Pos) (it acc : Value) (env : Env) : compTurn (.DictComp kx vx [⟨target, iter, [], 0⟩, ⟨target2, iter2, [], 0⟩] scope pos) 0 it acc env = midTurnD kx vx target iter iter2 [⟨target, iter, [], 0⟩, ⟨target2, iter2, [], 0⟩] scope pos it acc env := rfl
theorem compLoop_lastD {kx vx iter : Expr} {elts : List Expr} {x1} {tp : Pos} {gens : List Comprehension} {scope : Scope} {pos : Pos} {d : Nat} {it : Value} {D : Addr} {env : Env} {R : Result → Shared → Prop} (I : Nat → Shared → Prop)
    (heq : compTurn (.DictComp kx vx gens scope pos) d it (.ref D) env = lastTurnD kx vx (.Tuple elts x1 tp) iter gens scope pos d it (.ref D) env)
    (turn : ∀ n s, I n s → wpAny (model prog w) A (pyNext it) (fun r s₁ => match r with
      | none => R (.ok .next) s₁
      | some v => wpAny (model prog w) A (letOwnedTupleGo (.Tuple elts x1 tp) it v) (fun _ s₁' => wpAny (model prog w) A (assign (.Tuple elts x1 tp) env v) (fun _ s₂ =>
          wpAny (model prog w) A (eval kx env) (fun kv s₄ => wpAny (model prog w) A (eval vx env) (fun vv s₅ =>
              wpAny (model prog w) A (dictSet D kv vv) (fun _ s₆ => ∃ m, m < n ∧ I m s₆) (notedBy (model prog w) A env fun e s' => R (.error e) s') s₅) (notedBy (model prog w) A env fun e s' => R (.error e) s') s₄) (notedBy (model prog w) A env fun e s' => R (.error e) s') s₂)
          (notedBy (model prog w) A env fun e s' => R (.error e) s') s₁') (notedBy (model prog w) A env fun e s' => R (.error e) s') s₁) (notedBy (model prog w) A env fun e s' => R (.error e) s') s)
    (n : Nat) (h : I n s) : codeAny (model prog w) A (.compLoop (.DictComp kx vx gens scope pos) d it (.ref D) env) R s := by
  refine codeAny_loop rfl I (fun n s hI => ?_) n h
  show wpAny _ A ((compTurn (.DictComp kx vx gens scope pos) d it (.ref D) env).onRaise (fun x => do noteFrame x env; theTreesLotGoes x)) _ _ s
  refine wpAny_noted ?_
  rw [heq]
  unfold lastTurnD
  refine wpAny_bind (wpAny_standAt (wpAny_bind (wpAny_mono (turn n s hI) (fun r s₁ h₁ => ?_) fun _ _ h' => h')))
  cases r with
  | none => exact wpAny_pure h₁
  | some v =>
    refine wpAny_bind (wpAny_mono h₁ (fun _ s₁' h₁' => ?_) fun _ _ h' => h')
    refine wpAny_bind (wpAny_mono h₁' (fun _ s₂ h₂ => wpAny_bind (wpAny_mono (wpAny_tests_nil (Q := fun ok s₃ => ok = true ∧ s₃ = s₂) ⟨rfl, rfl⟩) (fun ok s₃ h₃ => ?_) fun _ _ h' => h')) fun _ _ h' => h')
    obtain ⟨rfl, rfl⟩ := h₃
    refine wpAny_bind (wpAny_bind (wpAny_mono h₂ (fun kv s₄ h₄ => wpAny_bind (wpAny_holding (wpAny_mono h₄ (fun vv s₅ h₅ => ?_) fun _ _ h' => h'))) fun _ _ h' => h'))
    exact wpAny_bind (wpAny_standAt (wpAny_holding (wpAny_mono h₅ (fun _ s₆ h₆ => wpAny_pure ⟨rfl, h₆⟩) fun _ _ h' => h')))
theorem compLoop_midD {kx vx target iter target2 iter2 : Expr} {scope : Scope} {pos : Pos} {it acc : Value} {env : Env} {R : Result → Shared → Prop} (I : Nat → Shared → Prop)
    (turn : ∀ n s, I n s → wpAny (model prog w) A (pyNext it) (fun r s₁ => match r with
      | none => R (.ok .next) s₁
      | some v => wpAny (model prog w) A (assign target env v) (fun _ s₂ =>
          wpAny (model prog w) A (eval iter2 env) (fun x s₄ => wpAny (model prog w) A (pyIter x) (fun it2 s₅ =>
              codeAny (model prog w) A (.compStart (.DictComp kx vx [⟨target, iter, [], 0⟩, ⟨target2, iter2, [], 0⟩] scope pos) 1 it2 acc env) (fun r s' => match r with | .ok _ => ∃ m, m < n ∧ I m s' | .error e => cameBackBy (model prog w) A env (notedBy (model prog w) A env fun e s' => R (.error e) s') e s') s₅)
              (notedBy (model prog w) A env fun e s' => R (.error e) s') s₄) (notedBy (model prog w) A env fun e s' => R (.error e) s') s₂)
          (notedBy (model prog w) A env fun e s' => R (.error e) s') s₁) (notedBy (model prog w) A env fun e s' => R (.error e) s') s)
    (n : Nat) (h : I n s) (ht : ∀ v, letOwnedTupleGo target it v = pure () := by intro _; rfl) (hs : ∀ x, foldedSetIterable iter2 env x = pure x := by intro _; rfl) : codeAny (model prog w) A (.compLoop (.DictComp kx vx [⟨target, iter, [], 0⟩, ⟨target2, iter2, [], 0⟩] scope pos) 0 it acc env) R s := by
  refine codeAny_loop rfl I (fun n s hI => ?_) n h
  show wpAny _ A ((compTurn (.DictComp kx vx [⟨target, iter, [], 0⟩, ⟨target2, iter2, [], 0⟩] scope pos) 0 it acc env).onRaise (fun x => do noteFrame x env; theTreesLotGoes x)) _ _ s
  refine wpAny_noted ?_
  rw [mid_twoD]
  unfold midTurnD
  refine wpAny_bind (wpAny_standAt (wpAny_bind (wpAny_mono (turn n s hI) (fun r s₁ h₁ => ?_) fun _ _ h' => h')))
  cases r with
  | none => exact wpAny_pure h₁
  | some v =>
    refine wpAny_bind (wpAny_of_eq (ht v) ?_)
    refine wpAny_bind (wpAny_mono h₁ (fun _ s₂ h₂ => wpAny_bind (wpAny_mono (wpAny_tests_nil (Q := fun ok s₃ => ok = true ∧ s₃ = s₂) ⟨rfl, rfl⟩) (fun ok s₃ h₃ => ?_) fun _ _ h' => h')) fun _ _ h' => h')
    obtain ⟨rfl, rfl⟩ := h₃
    refine wpAny_bind (wpAny_mono h₂ (fun x s₄ h₄ => wpAny_bind (wpAny_standAt (wpAny_bind (wpAny_of_eq (hs x) (wpAny_bind (wpAny_holding (wpAny_mono h₄ (fun it2 s₅ h₅ => ?_) fun _ _ h' => h'))))))) fun _ _ h' => h')
    refine wpAny_bind (wpAny_runOwn (codeAny_mono h₅ fun r s' hr => ?_))
    cases r with
    | ok f => exact wpAny_pure ⟨rfl, hr⟩
    | error e => exact hr
theorem compStart_oneD {kx vx : Expr} {target iter : Expr} {scope : Scope} {pos : Pos} {g : Comprehension} {it acc : Value} {env : Env} {R : Result → Shared → Prop}
    (h0 : codeAny (model prog w) A (.compLoop (.DictComp kx vx [g, ⟨target, iter, [], 0⟩] scope pos) 1 it acc env) R s)
    (h : wpAny (model prog w) A (pyIter it) (fun it' s' => codeAny (model prog w) A (.compLoop (.DictComp kx vx [g, ⟨target, iter, [], 0⟩] scope pos) 1 it' acc env) R s')
      (notedBy (model prog w) A env fun x s' => R (.error x) s') s) :
    codeAny (model prog w) A (.compStart (.DictComp kx vx [g, ⟨target, iter, [], 0⟩] scope pos) 1 it acc env) R s := by
  refine codeAny_of_tree ?_
  show wpAny _ _ ((compStart (.DictComp kx vx [g, ⟨target, iter, [], 0⟩] scope pos) 1 it acc env).onRaise (fun x => do noteFrame x env; standAt theWindowsPlace)) _ _ s
  refine wpAny_notedAt ?_
  unfold compStart
  show wpAny _ _ (ask >>= _) _ _ s
  refine wpAny_bind (wpAny_askSetting (wpAny_ite ?_))
  split
  · first
      | exact wpAny_bind (wpAny_pure (wpAny_pure (And.intro rfl h0)))
      | exact wpAny_pure (And.intro rfl h0)
  · first
      | exact wpAny_bind (wpAny_rule (wpAny_bind (wpAny_standAt (wpAny_bind (wpAny_mono h (fun it' s' h' => wpAny_pure (And.intro rfl h')) fun _ _ x => x)))))
      | (refine wpAny_bind (wpAny_rule ?_); show wpAny _ _ (standAt iter.pos >>= _) _ _ s; exact wpAny_bind (wpAny_standAt (wpAny_bind (wpAny_mono h (fun it' s' h' => wpAny_pure (And.intro rfl h')) fun _ _ x => x))))
/-- a turn of a dict's comprehension with pairs for keys ends -/
def KVEnd (h₀ : Heap) (L : Addr) (m : Str → Option Value) (s₁ : Shared) (I : Addr) (oI : Obj) (C : Addr) (oC : Obj) (D : Addr) (oD : Obj) (S : List (Addr × Obj) → Prop) (f : List (Addr × Obj) → List (Addr × Obj)) (kv : Value) (rest : Int → Int → Int → List (Addr × Obj) → Prop) (vv : Value) (s₂ : Shared) : Prop :=
  ∃ h' tk news' T x y b t1 t2 n tb, s₂ = { s₁ with heap := h', toks := tk } ∧ kv = .ref T ∧ vv = .int b tb ∧ Fr h₀ L h' m ∧ News h₀ L h' ((I, oI) :: (C, oC) :: (D, oD) :: news') ∧ Off3 I C D news' ∧ (T, tup2 x y t1 t2 n) ∈ f news' ∧ S news' ∧ rest x y b news'
theorem loopPD {kx vx iter : Expr} {gens : List Comprehension} {d : Nat} {x x₂ : Str} {px px₂ tp : Pos} {tk1 : Nat} {scope : Scope} {cl : List (Str × Addr)} {pos : Pos} {s₂ : Shared} {I C D : Addr} {fp : List Addr} {n : Nat} {P : Nat → Value → Prop} {St : Nat → Heap → Prop} {S : List (Addr × Obj) → Prop} {news : List (Addr × Obj)} {mC : Str → Option Value} {oD0 : Obj} {ts0 : Ties}
    (J : Nat → Ties → List (Addr × Obj) → Prop) {R : Result → Shared → Prop}
    (heq : compTurn (.DictComp kx vx gens scope pos) d (.ref I) (.ref D) (compEnvC scope cl C env) = lastTurnD kx vx (.Tuple [.Name x px, .Name x₂ px₂] tk1 tp) iter gens scope pos d (.ref I) (.ref D) (compEnvC scope cl C env))
    (W : Walks PR w A I fp [I] n P St) (hsz : ts0.length + n ≤ 60) (hroom : (tupleKind (intKind PR w)).room A) (hIo : ∀ i h, St i h → ∃ o, h.get? I = some o)
    (hgo : ∀ i (s : Shared) (T : Addr) (Q : Unit → Shared → Prop) (E : Value → Shared → Prop), St i s.heap → Q () s → wpAny (model PR w) A (letOwnedTupleGo (.Tuple [.Name x px, .Name x₂ px₂] tk1 tp) (.ref I) (.ref T)) Q E s)
    (hSt : ∀ i h h' o nw, St i h → h.get? I = some o → h'.get? I = some o → (∀ b o, h₀.get? b = some o → h'.get? b = some o) → News h₀ L h' nw → S nw → St i h')
    (hkind : scope.kind = .function) (hx : scope.names.lookup x = some .local) (hx₂ : scope.names.lookup x₂ = some .local) (hxx : x ≠ x₂) (hh : A.handled = none) (hst : St 0 s₂.heap)
    (F : Fr h₀ L s₂.heap m) (N : News h₀ L s₂.heap ((D, oD0) :: news)) (f : List (Addr × Obj) → List (Addr × Obj)) (hf : ∀ nw, ∀ p ∈ f nw, p ∈ nw) (P0 : PTab w (f news) oD0 ts0) (hn : s₂.heap.Ns C mC) (hIL : L ≠ I) (hI₀ : h₀.get? I = none) (hCL : C ≠ L) (hC₀ : h₀.get? C = none) (hCI : @Ne Nat I C) (hDI : @Ne Nat I D) (hCD : @Ne Nat C D) (hCf : C ∉ fp) (hDf : D ∉ fp) (off : Off3 I C D news) (hS : S news)
    (h0 : J 0 ts0 news)
    (turn : ∀ i ts news v, i < n → J i ts news → P i v → ∃ (t : Addr) (ot : Obj) (v₁ v₂ : Value) (nt : Nat), v = .ref t ∧ (t, ot) ∈ news ∧ ot.cls = .type "tuple" ∧ ot.data = .seq #[v₁, v₂] nt ∧
      ∀ oI oC oD m₂ h tk (E' : Value → Shared → Prop), NsObj oC m₂ → m₂ x = some v₁ → m₂ x₂ = some v₂ → (∀ z, z ≠ x → z ≠ x₂ → m₂ z = mC z) → Fr h₀ L h m → News h₀ L h ((I, oI) :: (C, oC) :: (D, oD) :: news) → Off3 I C D news → ((@Ne Nat I C) ∧ (@Ne Nat I D) ∧ (@Ne Nat C D)) →
      wpAny (model PR w) A (eval kx (compEnvC scope cl C env)) (fun kv s₄ => wpAny (model PR w) A (eval vx (compEnvC scope cl C env)) (KVEnd h₀ L m { s₂ with heap := h, toks := tk } I oI C oC D oD S f kv (fun x y b news' => (∀ p ∈ f news, p ∈ f news') ∧ J (i + 1) (putT ts (x, y) b) news')) E' s₄) E' { s₂ with heap := h, toks := tk })
    (done : ∀ h tk m' oD ts news', Fr h₀ L h m → News h₀ L h ((D, oD) :: news') → PTab w (f news') oD ts → h.Ns C m' → (∀ z, z ≠ x → z ≠ x₂ → m' z = mC z) → Off3 I C D news' → S news' → ts.length ≤ ts0.length + n → J n ts news' → R (.ok .next) { s₂ with heap := h, toks := tk }) :
    codeAny (model PR w) A (.compLoop (.DictComp kx vx gens scope pos) d (.ref I) (.ref D) (compEnvC scope cl C env)) R s₂ := by
  have hDL : D ≠ L := (N _ List.mem_cons_self).2.1
  have hD₀ : h₀.get? D = none := (N _ List.mem_cons_self).2.2
  refine compLoop_lastD
    (fun k s' => ∃ h' tk i oD ts m' news', s' = { s₂ with heap := h', toks := tk } ∧ i ≤ n ∧ k = n + 1 - i ∧ ts.length ≤ ts0.length + i ∧ St i h' ∧ Fr h₀ L h' m ∧ h'.Ns C m' ∧ (∀ z, z ≠ x → z ≠ x₂ → m' z = mC z) ∧ News h₀ L h' ((D, oD) :: news') ∧ PTab w (f news') oD ts ∧
      Off3 I C D news' ∧ S news' ∧ J i ts news') heq ?_ (n + 1)
    ⟨s₂.heap, _, 0, oD0, ts0, mC, news, rfl, Nat.zero_le _, rfl, Nat.le_refl _, hst, F, hn, fun _ _ _ => rfl, N, P0, off, hS, h0⟩
  rintro k s' ⟨h', tk, i, oD, ts, m', news', rfl, hi, rfl, hyl, hst', F', hn', hmC, N', P', off', hS', J'⟩
  have off3 := off'.mem
  by_cases hlt : i < n
  · refine W.item i _ _ _ hlt hst' fun v h₂ tk₂ hPv hst₂ hk₂ => ?_
    obtain ⟨t, ot, v₁, v₂, nt, rfl, hmt, hct, hdt, R''⟩ := turn i ts news' v hlt J' hPv
    have N₂ : News h₀ L h₂ ((D, oD) :: news') := news_but N' hk₂ fun p hp => by
      rcases List.mem_cons.mp hp with rfl | hp
      · exact Ne.symm hDI
      · exact (off3 p hp).1
    have ht : IsTup h₂ t #[v₁, v₂] := ⟨ot, (N₂ _ (List.mem_cons_of_mem _ hmt)).1, hct, nt, hdt⟩
    refine hgo _ _ _ _ _ hst₂ ?_
    refine assign_Tuple_tuple hh ht rfl rfl fun h₅ he => ?_
    have he' : ∀ b o, h₂.get? b = some o → h₅.get? b = some o := fun b o e => he b o (Nat.ne_of_lt (Heap.lt_size e)) e
    refine assignInOrder_cons (wpAny_assign_Name (wpAny_storeName_local (lookup_relabel_local hx) ((hn'.at' fun o e => hk₂ _ o (by simpa using Ne.symm hCI) e).at' fun o e => he' _ o e) (fun h₆ hn₆ hs₆ => ?_) (by simp [compEnvC, relabel, hkind])))
    refine assignInOrder_cons (wpAny_assign_Name (wpAny_storeName_local (lookup_relabel_local hx₂) hn₆ (fun h₃ hn₃ hs₃ => ?_) (by simp [compEnvC, relabel, hkind])))
    refine assignInOrder_nil ?_
    have old3 : ∀ b o, b ≠ C → h₂.get? b = some o → h₃.get? b = some o := fun b o hb e => hs₃.extBut b o hb (hs₆.extBut b o hb (he' b o e))
    have hst₃ : St (i + 1) h₃ := W.frame _ _ _ hst₂ fun b hb o e => old3 b o (fun q => hCf (by rw [← q]; exact hb)) e
    obtain ⟨oI, heI⟩ := hIo _ _ hst₃
    obtain ⟨oC, heC, hoC⟩ := ns_obj hn₃
    have F₃ : Fr h₀ L h₃ m := (((fr_but F' hk₂ hIL hI₀).keeps he').change hs₆ hCL hC₀).change hs₃ hCL hC₀
    have N₃ : News h₀ L h₃ ((I, oI) :: (C, oC) :: (D, oD) :: news') := fun p hp => by
      rcases List.mem_cons.mp hp with rfl | hp
      · exact ⟨heI, Ne.symm hIL, hI₀⟩
      · rcases List.mem_cons.mp hp with rfl | hp
        · exact ⟨heC, hCL, hC₀⟩
        · have z := N₂ p hp
          refine ⟨old3 _ _ ?_ z.1, z.2⟩
          rcases List.mem_cons.mp hp with rfl | hp
          · exact Ne.symm hCD
          · exact (off3 p hp).2.1
    have hm3 : ∀ z, z ≠ x → z ≠ x₂ → (fun z => if z = x₂ then some v₂ else if z = x then some v₁ else m' z) z = mC z := fun z h1 h2 => by
      dsimp only
      rw [if_neg h2, if_neg h1]
      exact hmC z h1 h2
    refine wpAny_mono (R'' oI oC oD _ h₃ _ _ hoC (by simp [hxx]) (by simp) hm3 F₃ N₃ off' ⟨hCI, hDI, hCD⟩) (fun kv s₄ hq4 => wpAny_mono hq4 (fun vv s₅ hq5 => ?_) fun _ _ e => e) fun _ _ e => e
    obtain ⟨h₄, tk₄, news₄, T, kx', ky', kb, u1, u2, nT, tb, rfl, rfl, rfl, F₄, N₄, off₄, hT, hS₄, hsub, R₄⟩ := hq5
    have zI := (N₄ (I, oI) List.mem_cons_self).1
    have zC := (N₄ (C, oC) (List.mem_cons_of_mem _ List.mem_cons_self)).1
    have zD := (N₄ (D, oD) (List.mem_cons_of_mem _ (List.mem_cons_of_mem _ List.mem_cons_self))).1
    have N₄' : News h₀ L h₄ news₄ := fun p hp => N₄ p (List.mem_cons_of_mem _ (List.mem_cons_of_mem _ (List.mem_cons_of_mem _ hp)))
    have hst₄ : St (i + 1) h₄ := hSt _ _ _ _ _ hst₃ heI zI F₄.keep N₄' hS₄
    have off4 := off₄.mem
    obtain ⟨xs, hD4, hP4⟩ := PTab.dict (s := { s₂ with heap := h₄, toks := tk₄ }) (fun p hp => N₄ p (List.mem_cons_of_mem _ (List.mem_cons_of_mem _ hp))) List.mem_cons_self (P'.mono hsub) (fun p hp => List.mem_cons_of_mem _ (hf _ p hp))
    refine wpAny_dictSet_heap (s := { s₂ with heap := h₄, toks := tk₄ }) (hsz := by rw [hP4.len, sizeLine_eq]; omega) (knd := tupleKind (intKind PR w)) hroom (tup2_key (N₄' _ (hf _ _ hT)).1) hD4 fun h₅ hm₅ hs₅ => ?_
    obtain ⟨o', es', ep', ho', hc', hd', he', _, hn''⟩ := hm₅
    have P5 : PTab w (f news₄) o' (putT ts (kx', ky') kb) := ⟨es', ep', _, hc', hd', he', hn'', hP4.put hT⟩
    have hlen5 : (putT ts (kx', ky') kb).length ≤ ts.length + 1 := by unfold putT; split <;> simp
    refine ⟨n + 1 - (i + 1), by omega, h₅, _, i + 1, o', _, _, news₄, rfl, hlt, rfl, by omega, W.frame _ _ _ hst₄ fun b hb o e => hs₅.extBut b o (fun q => hDf (q ▸ hb)) e, F₄.change hs₅ hDL hD₀,
      (hoC.ns zC).sameBut hs₅ hCD, hm3, fun p hp => ?_, P5, off₄, hS₄, R₄⟩
    rcases List.mem_cons.mp hp with rfl | hp
    · exact ⟨ho', hDL, hD₀⟩
    · exact ⟨hs₅.extBut _ _ (off4 p hp).2.2 (N₄' p hp).1, (N₄' p hp).2⟩
  · obtain rfl : i = n := Nat.le_antisymm hi (Nat.not_lt.mp hlt)
    refine W.done _ _ _ hst' fun h₂ tk₂ hk₂ => ?_
    exact done h₂ tk₂ _ oD ts news' (fr_but F' hk₂ hIL hI₀) (news_but N' hk₂ fun p hp => by
      rcases List.mem_cons.mp hp with rfl | hp
      · exact Ne.symm hDI
      · exact (off3 p hp).1) P' (hn'.at' fun o e => hk₂ _ o (by simpa using Ne.symm hCI) e) hmC off' hS' hyl J'
/-- a dict's comprehension begins -/
theorem comp_startD {e : Expr} {scope : Scope} {cl : List (Str × Addr)} {s₂ : Shared} {I : Addr} {fp : List Addr} {news : List (Addr × Obj)} {RR : Value → Addr → Result → Shared → Prop}
    (hcell : ∀ y ∈ scope.names, y.2 ≠ .cell) (hkind : scope.kind = .function) (hfp : ∀ b ∈ fp, b < s₂.heap.objs.size) (hIf : I ∈ fp)
    (F : Fr h₀ L s₂.heap m) (N : News h₀ L s₂.heap news) (off : ∀ p ∈ news, p.1 ≠ I)
    (hbig : h₀.NoLimit) (k : ∀ C D h₁ tk mC, (D == sysModules) = false → Fr h₀ L h₁ m → News h₀ L h₁ ((D, ({ cls := .type "dict", data := .dict #[] } : Obj)) :: news) → h₁.Ns C mC → (∀ b o, s₂.heap.get? b = some o → h₁.get? b = some o) → C ≠ L → h₀.get? C = none → @Ne Nat I C → @Ne Nat I D → @Ne Nat C D → C ∉ fp → D ∉ fp → Off3 I C D news →
      codeAny (model prog w) A (.compStart e 0 (.ref I) (.ref D) (compEnvC scope cl C env)) (RR (.ref D) C) { s₂ with heap := h₁, toks := tk }) :
    wpAny (model prog w) A newDict (fun acc s₃ => wpAny (model prog w) A (newFunctionEnv scope env.globals cl [] env.qual none .none (some env)) (fun cenv s₄ =>
      codeAny (model prog w) A (.compStart e 0 (.ref I) acc { cenv with scope := relabel scope env }) (RR acc cenv.locals) s₄) E s₃) E s₂ := by
  refine wpAny_newObj_type (wpAny_newFunctionEnv hcell (by intro y hy; simp at hy) (fun h₁ hns₁ hsb₁ => ?_) hkind)
  dsimp only at hns₁ hsb₁ ⊢
  generalize hH2 : s₂.heap.push { cls := .type "dict", dict := none, data := .dict #[] } = H2 at hns₁ hsb₁ ⊢
  have hC : H2.objs.size = s₂.heap.objs.size + 1 := by rw [← hH2, Heap.size_push]
  have hDC : s₂.heap.objs.size ≠ H2.objs.size := by rw [hC]; exact Nat.ne_of_lt (Nat.lt_succ_self _)
  have below : ∀ b, b < s₂.heap.objs.size → b ≠ H2.objs.size ∧ b ≠ s₂.heap.objs.size := fun b hb => ⟨by rw [hC]; exact Nat.ne_of_lt (Nat.lt_succ_of_lt hb), Nat.ne_of_lt hb⟩
  have hDf : s₂.heap.objs.size ∉ fp := fun hm => Nat.lt_irrefl _ (hfp _ hm)
  have hCf : H2.objs.size ∉ fp := fun hm => by have := hfp _ hm; rw [hC] at this; exact Nat.lt_irrefl _ (Nat.lt_of_succ_lt this)
  have hIlt : I < s₂.heap.objs.size := hfp I hIf
  have old : ∀ b o, s₂.heap.get? b = some o → h₁.get? b = some o := fun b o e => hsb₁.extBut b o (below b (Heap.lt_size e)).1 (Heap.get?_push_of_some _ (hH2 ▸ Heap.get?_push_of_some _ e))
  have hacc : h₁.get? s₂.heap.objs.size = some ({ cls := .type "dict", data := .dict #[] } : Obj) := hsb₁.extBut _ _ hDC (Heap.get?_push_of_some _ (hH2 ▸ Heap.get?_push_size _ rfl))
  have fresh : ∀ a, s₂.heap.objs.size ≤ a → s₂.heap.get? a = none := fun a ha => by
    cases e : s₂.heap.get? a with
    | none => rfl
    | some o' => exact absurd (Heap.lt_size e) (Nat.not_lt.mpr ha)
  have fresh₀ : ∀ a, s₂.heap.objs.size ≤ a → h₀.get? a = none := fun a ha => by
    cases e : h₀.get? a with
    | none => rfl
    | some o' => have := F.keep a o' e; rw [fresh a ha] at this; cases this
  have hD₀ : h₀.get? s₂.heap.objs.size = none := fresh₀ _ (Nat.le_refl _)
  have hC₀ : h₀.get? H2.objs.size = none := fresh₀ _ (by rw [hC]; exact Nat.le_succ _)
  have hLlt : L < s₂.heap.objs.size := F.ns.lt
  refine k H2.objs.size s₂.heap.objs.size h₁ _ _ (F.notModules (modules_low hbig)) (F.keeps old) (fun p hp => ?_) hns₁ old (Ne.symm (below L hLlt).1) hC₀ (below I hIlt).1 (below I hIlt).2 (Ne.symm hDC) hCf hDf
    (Off3.of fun p hp => ⟨off p hp, (below _ (Heap.lt_size (N p hp).1)).1, (below _ (Heap.lt_size (N p hp).1)).2⟩)
  rcases List.mem_cons.mp hp with rfl | hp
  · exact ⟨hacc, Ne.symm (below L hLlt).2, hD₀⟩
  · exact ⟨old _ _ (N p hp).1, (N p hp).2⟩
/-- a dict with pairs for keys is made -/
def FinPT (w : World) (h₀ : Heap) (L : Addr) (m : Str → Option Value) (Q : Value → Shared → Prop) (s : Shared) (ts : Ties) (news : List (Addr × Obj)) : Prop :=
  ∀ D oD h tk, Fr h₀ L h m → News h₀ L h ((D, oD) :: news) → PTab w news oD ts → Off1 D news → (D == sysModules) = false → Q (.ref D) { s with heap := h, toks := tk }
/-- what a comprehension with two clauses walks over: things, and a list of pairs for each -/
structure Src2D (w : World) (A : Around) (h₀ : Heap) (L : Addr) (m : Str → Option Value) (env : Env) (kx vx : Expr) (x x₁ x₂ : Str) (iter2 : Expr) (scope : Scope) (cl : List (Str × Addr)) (Fin : Shared → Ties → List (Addr × Obj) → Prop) (xv : Value) (s₁ : Shared)
    (n : Nat) (oI : Obj) (fp : List Addr) (P : Nat → Value → Prop) (St : Nat → Heap → Prop) (S : List (Addr × Obj) → Prop) (news : List (Addr × Obj)) (J : Nat → Ties → List (Addr × Obj) → Prop) (J2 : Nat → Nat → Ties → List (Addr × Obj) → Prop) (its : Nat → List Value) (at2 : Nat → Addr) (n2 : Nat → Nat) : Prop where
  hh : A.handled = none
  F : Fr h₀ L s₁.heap m
  N : News h₀ L s₁.heap news
  it : ∀ (E : Value → Shared → Prop) (Q : Value → Shared → Prop), Q (.ref s₁.heap.objs.size) { s₁ with heap := s₁.heap.push oI } → wpAny (model PR w) A (pyIter xv) Q E s₁
  W : Walks PR w A s₁.heap.objs.size fp [s₁.heap.objs.size] n P St
  hIo : ∀ i h, St i h → ∃ o, h.get? s₁.heap.objs.size = some o
  hSt : ∀ i h h' o nw, St i h → h.get? s₁.heap.objs.size = some o → h'.get? s₁.heap.objs.size = some o → (∀ b o, h₀.get? b = some o → h'.get? b = some o) → News h₀ L h' nw → S nw → St i h'
  h0 : St 0 (s₁.heap.push oI)
  hfp : ∀ b ∈ fp, b < (s₁.heap.push oI).objs.size
  j0 : J 0 [] news
  jS : ∀ i ys news, J i ys news → S news
  j20 : ∀ i ts news, i < n → J i ts news → J2 i 0 ts news ∧ (at2 i, listOf (its i).toArray (n2 i)) ∈ news ∧ ts.length + (its i).length ≤ 60
  j2S : ∀ i j ys news, J2 i j ys news → S news ∧ (at2 i, listOf (its i).toArray (n2 i)) ∈ news
  j2n : ∀ i ys news, i < n → J2 i (its i).length ys news → J (i + 1) ys news
  outer : ∀ g i ys news v, i < n → J i ys news → P i v → ∀ I C D oI oC oD m₂ h tk (E' : Value → Shared → Prop), NsObj oC m₂ → m₂ x = some v → Fr h₀ L h m → News h₀ L h ((I, oI) :: (C, oC) :: (D, oD) :: news) → Off3 I C D news → ((@Ne Nat I C) ∧ (@Ne Nat I D) ∧ (@Ne Nat C D)) →
      wpAny (model PR w) A (eval iter2 (compEnvC scope cl C env)) (fun xv s₄ => ∃ h' tk', xv = .ref (at2 i) ∧ s₄ = { s₁ with heap := h', toks := tk' } ∧ Fr h₀ L h' m ∧ News h₀ L h' ((I, oI) :: (C, oC) :: (D, oD) :: news)) E' { ({ s₁ with heap := g } : Shared) with heap := h, toks := tk }
  inner : ∀ g i j ts news v u, i < n → P i v → J2 i j ts news → (its i)[j]? = some u → ∃ (t : Addr) (ot : Obj) (v₁ v₂ : Value) (nt : Nat), u = .ref t ∧ (t, ot) ∈ news ∧ ot.cls = .type "tuple" ∧ ot.data = .seq #[v₁, v₂] nt ∧
      ∀ I2 I C D oI2 oI oC oD m₂ h tk (E' : Value → Shared → Prop), NsObj oC m₂ → m₂ x = some v → m₂ x₁ = some v₁ → m₂ x₂ = some v₂ → Fr h₀ L h m → News h₀ L h ((I2, oI2) :: (C, oC) :: (D, oD) :: (I, oI) :: news) → Off3 I2 C D ((I, oI) :: news) → (∀ p ∈ news, p.1 ≠ I) → ((@Ne Nat I2 C) ∧ (@Ne Nat I2 D) ∧ (@Ne Nat C D)) →
      wpAny (model PR w) A (eval kx (compEnvC scope cl C env)) (fun kv s₄ => wpAny (model PR w) A (eval vx (compEnvC scope cl C env)) (KVEnd h₀ L m { s₁ with heap := h, toks := tk } I2 oI2 C oC D oD (fun _ => True) List.tail kv (fun kx' ky kb nw => ∃ news', nw = (I, oI) :: news' ∧ (∀ p ∈ news', p.1 ≠ I) ∧ (∀ p ∈ news, p ∈ news') ∧ J2 i (j + 1) (putT ts (kx', ky) kb) news')) E' s₄) E' { ({ s₁ with heap := g } : Shared) with heap := h, toks := tk }
  done : ∀ g ys news, J n ys news → Fin { s₁ with heap := g } ys news
def Src2DAny (w : World) (A : Around) (h₀ : Heap) (L : Addr) (m : Str → Option Value) (env : Env) (kx vx : Expr) (x x₁ x₂ : Str) (iter2 : Expr) (scope : Scope) (cl : List (Str × Addr)) (Fin : Shared → Ties → List (Addr × Obj) → Prop) (xv : Value) (s₁ : Shared) : Prop :=
  ∃ n oI fp P St S news J J2 its at2 n2, Src2D w A h₀ L m env kx vx x x₁ x₂ iter2 scope cl Fin xv s₁ n oI fp P St S news J J2 its at2 n2
def FinPA (w : World) (h₀ : Heap) (L : Addr) (m : Str → Option Value) (y : Str) (Q : Flow → Shared → Prop) (s : Shared) (ts : Ties) (news : List (Addr × Obj)) : Prop :=
  ∀ D oD h tk, Fr h₀ L h (fun z => if z = y then some (.ref D) else m z) → News h₀ L h ((D, oD) :: news) → PTab w news oD ts → Off1 D news → (D == sysModules) = false → Q .next { s with heap := h, toks := tk }
theorem block_2D {kx vx iter iter2 : Expr} {x x₁ x₂ : Str} {px px₁ px₂ tp : Pos} {tk1 : Nat} {scope : Scope} {cl : List (Str × Addr)} {pos : Pos} {Fin : Shared → Ties → List (Addr × Obj) → Prop} {xv : Value} {s₁ : Shared} {n : Nat} {oI0 : Obj} {fp : List Addr} {P : Nat → Value → Prop} {St : Nat → Heap → Prop} {S : List (Addr × Obj) → Prop} {news : List (Addr × Obj)} {J : Nat → Ties → List (Addr × Obj) → Prop} {J2 : Nat → Nat → Ties → List (Addr × Obj) → Prop} {its : Nat → List Value} {at2 : Nat → Addr} {n2 : Nat → Nat} {RR : Value → Addr → Result → Shared → Prop} (hbig : h₀.NoLimit) (hroom : (tupleKind (intKind PR w)).room A)
    (hcell : ∀ y ∈ scope.names, y.2 ≠ .cell) (hkind : scope.kind = .function) (hx : scope.names.lookup x = some .local) (hx₁ : scope.names.lookup x₁ = some .local) (hx₂ : scope.names.lookup x₂ = some .local) (hxx : x₁ ≠ x₂) (hx1 : x ≠ x₁) (hx2 : x ≠ x₂)
    (K : Src2D w A h₀ L m env kx vx x x₁ x₂ iter2 scope cl Fin xv s₁ n oI0 fp P St S news J J2 its at2 n2) (hs2 : ∀ env x, foldedSetIterable iter2 env x = pure x)
    (hRR : ∀ D C oD h tk m' ts news', Fr h₀ L h m → News h₀ L h ((D, oD) :: news') → PTab w news' oD ts → Off1 D news' → h.Ns C m' → h₀.get? C = none → h₀.get? D = none → C ≠ L → D ≠ L → @Ne Nat C D → (∀ p ∈ news', p.1 ≠ C) → (D == sysModules) = false → J n ts news' → RR (.ref D) C (.ok .next) { s₁ with heap := h, toks := tk }) :
    wpAny (model PR w) A newDict (fun acc s₃ => wpAny (model PR w) A (newFunctionEnv scope env.globals cl [] env.qual none .none (some env)) (fun cenv s₄ =>
      codeAny (model PR w) A (.compStart (.DictComp kx vx [⟨.Name x px, iter, [], 0⟩, ⟨.Tuple [.Name x₁ px₁, .Name x₂ px₂] tk1 tp, iter2, [], 0⟩] scope pos) 0 (.ref s₁.heap.objs.size) acc { cenv with scope := relabel scope env }) (RR acc cenv.locals) s₄) E s₃) E { s₁ with heap := s₁.heap.push oI0 } := by
  have up : ∀ b o, s₁.heap.get? b = some o → (s₁.heap.push oI0).get? b = some o := fun _ _ e => Heap.get?_push_of_some _ e
  have hIf := K.W.sub _ (List.mem_singleton.mpr rfl)
  have hIL : @Ne Nat L s₁.heap.objs.size := Nat.ne_of_lt K.F.ns.lt
  have hI₀ := next_is_new K.F
  refine comp_startD hcell hkind K.hfp hIf (K.F.keeps up) (K.N.grown up) (fun p hp => Nat.ne_of_lt (Heap.lt_size (K.N p hp).1)) hbig fun C D h₁ tk mC loD F₁ N₁ hn₁ old hCL hC₀ hCI hDI hCD hCf hDf off => ?_
  have hst₁ := K.W.frame _ _ _ K.h0 fun b _ o e => old b o e
  have KW := K.W
  have KhIo := K.hIo
  have KhSt := K.hSt
  generalize s₁.heap.objs.size = I at *
  have hDL : D ≠ L := (N₁ _ List.mem_cons_self).2.1
  have hD₀ : h₀.get? D = none := (N₁ _ List.mem_cons_self).2.2
  have loop : ∀ s₃ : Shared, s₃ = { s₁ with heap := h₁, toks := tk } → codeAny (model PR w) A (.compLoop (.DictComp kx vx [⟨.Name x px, iter, [], 0⟩, ⟨.Tuple [.Name x₁ px₁, .Name x₂ px₂] tk1 tp, iter2, [], 0⟩] scope pos) 0 (.ref I) (.ref D) (compEnvC scope cl C env))
      (RR (.ref D) C) s₃ := by
    rintro s₃ rfl
    refine compLoop_midD
      (fun k s' => ∃ h' tk i oD ts m' news', s' = { s₁ with heap := h', toks := tk } ∧ i ≤ n ∧ k = n + 1 - i ∧ St i h' ∧ Fr h₀ L h' m ∧ h'.Ns C m' ∧ News h₀ L h' ((D, oD) :: news') ∧ PTab w news' oD ts ∧ Off3 I C D news' ∧ J i ts news') ?_ (n + 1)
      ⟨h₁, _, 0, _, [], mC, news, rfl, Nat.zero_le _, rfl, hst₁, F₁, hn₁, N₁, ⟨#[], 0, [], ⟨rfl, rfl, rfl⟩, rfl, rfl, List.nodup_nil, .nil⟩, off, K.j0⟩ (hs := hs2 _)
    rintro k s' ⟨h', tk, i, oD, ts, m', news', rfl, hi, rfl, hst', F', hn', N', P', off', J'⟩
    have off3 := off'.mem
    by_cases hlt : i < n
    · refine KW.item i _ _ _ hlt hst' fun v h₂ tk₂ hPv hst₂ hk₂ => ?_
      refine wpAny_assign_Name (wpAny_storeName_local (lookup_relabel_local hx) (hn'.at' fun o e => hk₂ _ o (by simpa using Ne.symm hCI) e) (fun h₃ hn₃ hs₃ => ?_) (by simp [compEnvC, relabel, hkind]))
      have hst₃ : St (i + 1) h₃ := KW.frame _ _ _ hst₂ fun b hb o e => hs₃.extBut b o (fun q => hCf (by have q' : b = C := q; rw [← q']; exact hb)) e
      obtain ⟨oI, heI⟩ := KhIo _ _ hst₃
      obtain ⟨oC, heC, hoC⟩ := ns_obj hn₃
      have F₃ : Fr h₀ L h₃ m := (fr_but F' hk₂ hIL hI₀).change hs₃ hCL hC₀
      have N₂ : News h₀ L h₂ ((D, oD) :: news') := news_but N' hk₂ fun p hp => by
        rcases List.mem_cons.mp hp with rfl | hp
        · exact Ne.symm hDI
        · exact (off3 p hp).1
      have N₃ : News h₀ L h₃ ((I, oI) :: (C, oC) :: (D, oD) :: news') := fun p hp => by
        rcases List.mem_cons.mp hp with rfl | hp
        · exact ⟨heI, Ne.symm hIL, hI₀⟩
        · rcases List.mem_cons.mp hp with rfl | hp
          · exact ⟨heC, hCL, hC₀⟩
          · have z := N₂ p hp
            refine ⟨hs₃.extBut _ _ ?_ z.1, z.2⟩
            rcases List.mem_cons.mp hp with rfl | hp
            · exact Ne.symm hCD
            · exact (off3 p hp).2.1
      refine wpAny_mono (K.outer s₁.heap i ts news' v hlt J' hPv I C D oI oC oD _ h₃ _ _ hoC (by simp) F₃ N₃ off' ⟨hCI, hDI, hCD⟩) (fun xv s₄ h₄ => ?_) fun _ _ e => e
      obtain ⟨h₄, tk₄, rfl, rfl, F₄, N₄⟩ := h₄
      obtain ⟨j20, hm2, hlen⟩ := K.j20 i ts news' hlt J'
      have hl : h₄.IsList (at2 i) (its i).toArray := ⟨_, (N₄ _ (List.mem_cons_of_mem _ (List.mem_cons_of_mem _ (List.mem_cons_of_mem _ hm2)))).1, rfl, _, rfl⟩
      have hlt2 : at2 i < h₄.objs.size := by obtain ⟨_, e, _⟩ := hl; exact Heap.lt_size e
      have zI := (N₄ (I, oI) List.mem_cons_self)
      have zC := (N₄ (C, oC) (List.mem_cons_of_mem _ List.mem_cons_self))
      have zD := (N₄ (D, oD) (List.mem_cons_of_mem _ (List.mem_cons_of_mem _ List.mem_cons_self)))
      refine wpAny_pyIter_list hl ?_
      have up2 : ∀ b o, h₄.get? b = some o → (h₄.push { cls := .type "list_iterator", data := .fields #[.ref (at2 i), .int 0 0] }).get? b = some o := fun b o e => Heap.get?_push_of_some _ e
      have hI2₀ : h₀.get? h₄.objs.size = none := next_is_new F₄
      have hI2L : @Ne Nat L h₄.objs.size := Nat.ne_of_lt F₄.ns.lt
      have W2 := Walks.list (prog := PR) (w := w) (A := A) K.hh h₄.objs.size (at2 i) (Nat.ne_of_lt hlt2) (its i).toArray
      have hst20 : (h₄.push { cls := .type "list_iterator", data := .fields #[.ref (at2 i), .int 0 0] }).IsListIter h₄.objs.size (at2 i) 0 ∧ (h₄.push { cls := .type "list_iterator", data := .fields #[.ref (at2 i), .int 0 0] }).IsList (at2 i) (its i).toArray := ⟨⟨_, Heap.get?_push_size _ rfl, rfl, rfl⟩, hl.push _⟩
      have lo4 : ∀ p ∈ (I, oI) :: (C, oC) :: (D, oD) :: news', p.1 < h₄.objs.size := fun p hp => Heap.lt_size (N₄ p hp).1
      have hCat : @Ne Nat C (at2 i) := fun e => (off3 _ hm2).2.1 e.symm
      have hDat : @Ne Nat D (at2 i) := fun e => (off3 _ hm2).2.2 e.symm
      have loop2 : ∀ s₅ : Shared, s₅ = { s₁ with heap := h₄.push { cls := .type "list_iterator", data := .fields #[.ref (at2 i), .int 0 0] }, toks := tk₄ } → codeAny (model PR w) A (.compLoop (.DictComp kx vx [⟨.Name x px, iter, [], 0⟩, ⟨.Tuple [.Name x₁ px₁, .Name x₂ px₂] tk1 tp, iter2, [], 0⟩] scope pos) 1 (.ref h₄.objs.size) (.ref D) (compEnvC scope cl C env))
          (fun r s' => match r with | .ok _ => ∃ m_1, m_1 < n + 1 - i ∧ ∃ h' tk i oD ts m' news', s' = { s₁ with heap := h', toks := tk } ∧ i ≤ n ∧ m_1 = n + 1 - i ∧ St i h' ∧ Fr h₀ L h' m ∧ h'.Ns C m' ∧ News h₀ L h' ((D, oD) :: news') ∧ PTab w news' oD ts ∧ Off3 I C D news' ∧ J i ts news' | .error e => cameBackBy (model PR w) A (compEnvC scope cl C env) (notedBy (model PR w) A (compEnvC scope cl C env) fun e s' => RR (.ref D) C (.error e) s') e s') s₅ := by
        rintro s₅ rfl
        refine loopPD (news := (I, oI) :: news') (ts0 := ts) (oD0 := oD) (S := fun nw => ∃ news', nw = (I, oI) :: news' ∧ (at2 i, listOf (its i).toArray (n2 i)) ∈ news') (fun j ts nw => ∃ news', nw = (I, oI) :: news' ∧ (∀ p ∈ news', p.1 ≠ I) ∧ J2 i j ts news') rfl W2 (by simpa using hlen) hroom (fun i h st => by obtain ⟨o, e, _⟩ := st.1; exact ⟨o, e⟩) (fun i s T Q E st hq => wpAny_letOwnedTupleGo_listiter st.1 hq)
          (fun j h h' o nw st e e' k N' S' => ⟨by obtain ⟨o', q, r⟩ := st.1; rw [e] at q; cases q; exact ⟨o, e', r⟩, by obtain ⟨nw', rfl, hm⟩ := S'; exact ⟨_, (N' _ (List.mem_cons_of_mem _ hm)).1, rfl, _, rfl⟩⟩)
          hkind hx₁ hx₂ hxx K.hh hst20 (F₄.keeps up2) (fun p hp => ?n5) List.tail (fun nw p hp => List.mem_of_mem_tail hp) P' ((hoC.ns zC.1).at' fun o e => up2 _ o e) hI2L hI2₀ hCL hC₀ (Nat.ne_of_gt (lo4 _ (List.mem_cons_of_mem _ List.mem_cons_self))) (Nat.ne_of_gt (lo4 _ (List.mem_cons_of_mem _ (List.mem_cons_of_mem _ List.mem_cons_self)))) hCD
          (fun hm => ?cf) (fun hm => ?df) (Off3.of fun p hp => ?off5) ⟨news', rfl, hm2⟩ ⟨news', rfl, fun p hp => (off3 p hp).1, j20⟩ ?turn5 ?done5
        case n5 =>
          have z : p ∈ (I, oI) :: (C, oC) :: (D, oD) :: news' := by
            rcases List.mem_cons.mp hp with rfl | hp
            · exact List.mem_cons_of_mem _ (List.mem_cons_of_mem _ List.mem_cons_self)
            · rcases List.mem_cons.mp hp with rfl | hp
              · exact List.mem_cons_self
              · exact List.mem_cons_of_mem _ (List.mem_cons_of_mem _ (List.mem_cons_of_mem _ hp))
          exact ⟨up2 _ _ (N₄ p z).1, (N₄ p z).2⟩
        case cf =>
          rcases List.mem_cons.mp hm with e | hm
          · exact absurd e (Nat.ne_of_lt (lo4 _ (List.mem_cons_of_mem _ List.mem_cons_self)))
          · exact hCat (List.mem_singleton.mp hm)
        case df =>
          rcases List.mem_cons.mp hm with e | hm
          · exact absurd e (Nat.ne_of_lt (lo4 _ (List.mem_cons_of_mem _ (List.mem_cons_of_mem _ List.mem_cons_self))))
          · exact hDat (List.mem_singleton.mp hm)
        case off5 =>
          rcases List.mem_cons.mp hp with rfl | hp
          · exact ⟨Nat.ne_of_lt (lo4 _ List.mem_cons_self), hCI, hDI⟩
          · exact ⟨Nat.ne_of_lt (lo4 _ (List.mem_cons_of_mem _ (List.mem_cons_of_mem _ (List.mem_cons_of_mem _ hp)))), (off3 p hp).2⟩
        case turn5 =>
          rintro j ts2 _ u hj ⟨nw, rfl, hoI, hJ2⟩ hu
          rw [List.getElem?_toArray] at hu
          obtain ⟨t, ot, v₁, v₂, nt, e1, e2, e3, e4, R⟩ := K.inner s₁.heap i j ts2 nw v u hlt hPv hJ2 hu
          refine ⟨t, ot, v₁, v₂, nt, e1, List.mem_cons_of_mem _ e2, e3, e4, fun oI2 oC2 oD2 m₂ h tk E' q1 q2 q3 q4 F5 N5 off5 ne5 => ?_⟩
          refine wpAny_mono (R _ I C D oI2 oI oC2 oD2 m₂ h tk E' q1 ((q4 x hx1 hx2).trans (by simp)) q2 q3 F5 N5 off5 hoI ne5) (fun kv s₆ hq6 => wpAny_mono hq6 (fun vv s₇ hq7 => ?_) fun _ _ e => e) fun _ _ e => e
          obtain ⟨h₆, tk₆, _, T6, kx6, ky6, kb6, u1, u2, nT, tb, rfl, rfl, rfl, F₆, N₆, off₆, hT6, _, nw6, rfl, hoI6, hsub6, hJ6⟩ := hq7
          exact ⟨h₆, tk₆, _, T6, kx6, ky6, kb6, u1, u2, nT, tb, rfl, rfl, rfl, F₆, N₆, off₆, hT6, ⟨nw6, rfl, (K.j2S _ _ _ _ hJ6).2⟩, hsub6, nw6, rfl, hoI6, hJ6⟩
        case done5 =>
          rintro h tk m6 oD6 ts6 _ F6 N6 P6 hn6 _ off6 _ _ ⟨nw, rfl, hoI, hJ2⟩
          rw [List.size_toArray] at hJ2
          have hJ := K.j2n i ts6 nw hlt hJ2
          have N7 : News h₀ L h ((D, oD6) :: nw) := N6.perm fun p hp => by
            rcases List.mem_cons.mp hp with rfl | hp
            · exact List.mem_cons_self
            · exact List.mem_cons_of_mem _ (List.mem_cons_of_mem _ hp)
          have off7 : Off3 I C D nw := Off3.of fun p hp => ⟨hoI p hp, (off6.2.mem p hp).2⟩
          exact ⟨n + 1 - (i + 1), by omega, h, tk, i + 1, oD6, ts6, m6, nw, rfl, hlt, rfl, KhSt _ _ _ _ _ hst₃ heI (N6 (I, oI) (List.mem_cons_of_mem _ List.mem_cons_self)).1 F6.keep (fun p hp => N7 p (List.mem_cons_of_mem _ hp)) (K.jS _ _ _ hJ), F6, hn6, N7, P6, off7, hJ⟩
      exact compStart_oneD (loop2 _ rfl) (W2.self 0 _ _ _ hst20 (loop2 _ rfl))
    · obtain rfl : i = n := Nat.le_antisymm hi (Nat.not_lt.mp hlt)
      refine KW.done _ _ _ hst' fun h₂ tk₂ hk₂ => ?_
      have N₂ : News h₀ L h₂ ((D, oD) :: news') := news_but N' hk₂ fun p hp => by
        rcases List.mem_cons.mp hp with rfl | hp
        · exact Ne.symm hDI
        · exact (off3 p hp).1
      exact hRR D C oD h₂ tk₂ m' ts news' (fr_but F' hk₂ hIL hI₀) N₂ P' off'.one (hn'.at' fun o e => hk₂ _ o (by simpa using Ne.symm hCI) e) hC₀ hD₀ hCL hDL hCD (fun p hp => (off3 p hp).2.1) loD J'
  exact codeAny_compStart_dict (loop _ rfl) (KW.self 0 _ _ _ hst₁ (loop _ rfl))
theorem Assign_dictComp_2 {kx vx iter iter2 : Expr} {x x₁ x₂ y : Str} {px px₁ px₂ tp py : Pos} {tk1 : Nat} {scope : Scope} {cl : List (Str × Addr)} {pos spos : Pos} {Q : Flow → Shared → Prop} (F₀ : Fr h₀ L s.heap m) (hbig : h₀.NoLimit) (hroom : (tupleKind (intKind PR w)).room A) (hLe : env.locals = L)
    (hsw : swapsWith (.DictComp kx vx [⟨.Name x px, iter, [], 0⟩, ⟨.Tuple [.Name x₁ px₁, .Name x₂ px₂] tk1 tp, iter2, [], 0⟩] scope pos) (some (.Name y py)) spos.line env = pure true)
    (hclos : closureFor scope env = pure cl) (hcell : ∀ z ∈ scope.names, z.2 ≠ .cell) (hkind : scope.kind = .function)
    (hnames : ∀ z ∈ scope.names, z.2 = .local → scope.names.lookup z.1 = some .local) (hx : scope.names.lookup x = some .local) (hx₁ : scope.names.lookup x₁ = some .local) (hx₂ : scope.names.lookup x₂ = some .local) (hxx : x₁ ≠ x₂) (hx1 : x ≠ x₁) (hx2 : x ≠ x₂)
    (hy : env.kindOf y = some .local) (hp : (env.scope.kind == .class || (env.scope.kind == .module && env.locals != env.globals)) = false)
    (h : wpAny (model PR w) A (eval iter env) (Src2DAny w A h₀ L m env kx vx x x₁ x₂ iter2 scope cl (FinPA w h₀ L m y Q)) E s)
    (hs : ∀ x, foldedSetIterable iter env x = pure x := by intro _; rfl) (hs2 : ∀ env x, foldedSetIterable iter2 env x = pure x := by intro _ _; rfl) :
    wpAny (model PR w) A (exec (.Assign [.Name y py] (.DictComp kx vx [⟨.Name x px, iter, [], 0⟩, ⟨.Tuple [.Name x₁ px₁, .Name x₂ px₂] tk1 tp, iter2, [], 0⟩] scope pos) spos) env) Q E s := by
  subst hLe
  rw [exec_Assign_Name_used _ _ _ _ hsw]
  refine wpAny_bind (wpAny_standAt (wpAny_bind ?_))
  show wpAny _ A (do let _ ← comprehension (.DictComp kx vx [⟨.Name x px, iter, [], 0⟩, ⟨.Tuple [.Name x₁ px₁, .Name x₂ px₂] tk1 tp, iter2, [], 0⟩] scope pos) scope env _ newDict false (eval iter env) (some (assign (.Name y py) env))) _ _ s
  refine wpAny_bind (wpAny_mono (wpAny_comprehension_free (use := some (assign (.Name y py) env)) (Q := fun _ s' => Q .next s') rfl hs hclos hkind hnames
    (wpAny_mono h (fun xv s₁ h₁ => ?_) fun _ _ e => e)) (fun _ s' hq => wpAny_pure (wpAny_pure hq)) fun _ _ e => e)
  obtain ⟨n, oI0, fp, P, St, S, news, J, J2, its, at2, n2, K⟩ := h₁
  refine K.it _ _ ?_
  refine block_2D (RR := fun acc C => compPost (model PR w) A E (some (assign (.Name y py) env)) (fun _ s' => Q .next s') acc C) hbig hroom hcell hkind hx hx₁ hx₂ hxx hx1 hx2 K hs2 ?_
  intro D C oD h' tk m' ts news' F' N' P' o1 hn hC₀ hD₀ hCL hDL hCD offC lo j
  show wpAny _ A (assign (.Name y py) env (.ref D)) _ _ _
  refine wpAny_assign_Name (wpAny_storeName_local hy F'.ns (fun h₂ hn₂ hs₂ => ?_) hp)
  have hL₀ : h₀.get? env.locals = none := Heap.get?_none_of_le F'.above
  have F₂ : Fr h₀ env.locals h₂ (fun z => if z = y then some (.ref D) else m z) := ⟨hn₂, fun b o e => hs₂.extBut b o (fun q => by rw [q, hL₀] at e; cases e) (F'.keep b o e), F'.above⟩
  refine ⟨m', hn.sameBut hs₂ hCL, fun h'' hs'' => K.done (s₁.heap.push oI0) ts news' j D oD h'' _ (F₂.change hs'' hCL hC₀) (fun p hp => ?_) P' o1 lo⟩
  have z : h₂.get? p.1 = some p.2 := hs₂.extBut _ _ (N' p hp).2.1 (N' p hp).1
  refine ⟨hs''.extBut _ _ ?_ z, (N' p hp).2⟩
  rcases List.mem_cons.mp hp with rfl | hp
  · exact Ne.symm hCD
  · exact offC p hp
end

end
section -- Cons03
open PySem PySem.W PyProof.Rows PySem.Calls
set_option maxRecDepth 100000
set_option maxHeartbeats 8000000
local macro_rules | `(tactic| walk_at "no such line") => `(tactic| skip)
local macro_rules | `(tactic| walk_at "no such line") => `(tactic| skip)
local macro_rules | `(tactic| walk_at "no such line") => `(tactic| skip)
local macro_rules | `(tactic| walk_at "no such line") => `(tactic| skip)
local macro_rules | `(tactic| walk_at "no such line") => `(tactic| skip)
local macro_rules | `(tactic| walk_at "no such line") => `(tactic| skip)
local macro_rules | `(tactic| walk_at "no such line") => `(tactic| skip)
local macro_rules | `(tactic| walk_at "no such line") => `(tactic| skip)
local macro_rules | `(tactic| walk_at "no such line") => `(tactic| skip)
local macro_rules | `(tactic| walk_at "no such line") => `(tactic| skip)
local macro_rules | `(tactic| walk_at "no such line") => `(tactic| skip)
local macro_rules | `(tactic| walk_at "no such line") => `(tactic| skip)
local macro_rules | `(tactic| walk_at "no such line") => `(tactic| skip)
local macro_rules | `(tactic| walk_at "no such line") => `(tactic| skip)
local macro_rules | `(tactic| walk_at "no such line") => `(tactic| skip)
local macro_rules | `(tactic| walk_at "no such line") => `(tactic| skip)
local macro_rules | `(tactic| walk_at "no such line") => `(tactic| skip)
local macro_rules | `(tactic| walk_at "no such line") => `(tactic| skip)
local macro_rules | `(tactic| walk_at "no such line") => `(tactic| skip)
local macro_rules | `(tactic| walk_at "no such line") => `(tactic| skip)
local macro_rules | `(tactic| walk_at "no such line") => `(tactic| skip)
local macro_rules | `(tactic| walk_at "no such line") => `(tactic| skip)
theorem kfill_Cons02 : (PySem.Challenge.rw_vs0022_03 = PySem.Challenge.rw_vs0022_03) ∧ (hd.heap_39 = hd.heap_39) := by
  w_top off
  k_fill
  exact ⟨rfl, rfl⟩
local macro_rules | `(tactic| walk_at "exec Assign cons DictComp") => `(tactic| (k_here; k_dflt (refine Assign_dictComp_W (PySem.intKind _ _) (F₀ := by k_asm) (Top.nolimit (by k_asm)) (by rfl) (by with_unfolding_all rfl) (by with_unfolding_all rfl) (by decide) (by rfl) (by decide) (by rfl) (by rfl) (by rfl) ?_)))
/-- the lists that the answer's dict holds, one for each event -/
structure LL where
  key : Int
  at' : Addr
  its : List Value
  n : Nat
@[reducible] def LL.ob (e : LL) : Addr × Obj := (e.at', listOf e.its.toArray e.n)
@[reducible] def LL.kv (e : LL) : Int × Value := (e.key, .ref e.at')
theorem take_next' {α : Type} {ds : List α} {i : Nat} {d : α} (h : ds[i]? = some d) : ds.take (i + 1) = ds.take i ++ [d] := by
  rw [List.take_succ, h]; rfl
theorem not_take {α : Type} {ks : List α} (hn : ks.Nodup) {i : Nat} {k : α} (h : ks[i]? = some k) : k ∉ ks.take i := fun hm => by
  have e := take_next' h
  have h2 : (ks.take i ++ [k]).Nodup := e ▸ (List.take_sublist (i + 1) ks).nodup hn
  exact (List.nodup_append.mp h2).2.2 k hm k (by simp) rfl
theorem stored_new {kvs : List (Int × Value)} {k : Int} (v : Value) (hk : k ∉ kvs.map (·.1)) : stored kvs k v = kvs ++ [(k, v)] := by
  unfold stored
  rw [if_neg]
  intro h
  obtain ⟨e, he, h2⟩ := List.any_eq_true.mp h
  exact hk (List.mem_map.mpr ⟨e, he, of_decide_eq_true h2⟩)
theorem off1_all' {D : Addr} : ∀ {l : List (Addr × Obj)}, LCg.Off1 D l → ∀ p ∈ l, p.1 ≠ D
  | [], _, _, hp => nomatch hp
  | _ :: _, h, _, hp => by
    cases hp with
    | head => exact h.1
    | tail _ hp => exact off1_all' h.2 _ hp
local macro_rules | `(tactic| walk_at "getMethod ref") => `(tactic| (k_here; (with_reducible show wpAny _ _ (getMethod (Value.ref _) (Str.ofString "items") _) _ _ _); k_dflt (refine kob_method (knd := PySem.intKind _ _) PySem.F.slot_dict_items PySem.F.type_dict_items (by k_asm) (by k_mem) (by assumption) ?_)))
local macro_rules | `(tactic| walk_at "call builtin:dict.items") => `(tactic| (k_here; k_dflt (refine kdx_view (knd := PySem.intKind _ _) (by k_asm) (by k_asm) (by k_mem) (by assumption) (by assumption) ?_); intro vw' h' F' N' l1; (try dsimp only)))
local macro_rules | `(tactic| walk_at "pyIter ref") => `(tactic| refine stop_here ?_)
local macro_rules | `(tactic| walk_at "exec For Tuple Call cons nil") => `(tactic| (k_here; (rename Fr _ _ _ _ => lF'); (with_unfolding_all refine' For_turns lF' ?_; k_whole)))
theorem news_sw {h₀ h : Heap} {L : Addr} (l1 l2 : List (Addr × Obj)) {r : List (Addr × Obj)} (N : News h₀ L h (l1 ++ (l2 ++ r))) : News h₀ L h (l2 ++ (l1 ++ r)) :=
  N.perm fun p hp => by
    simp only [List.mem_append] at hp ⊢
    rcases hp with h | h | h
    · exact .inr (.inl h)
    · exact .inl h
    · exact .inr (.inr h)
theorem nd_sw (l1 l2 : List (Addr × Obj)) {r : List (Addr × Obj)} (h : ND (l1 ++ (l2 ++ r))) : ND (l2 ++ (l1 ++ r)) := by
  have p : (l1 ++ (l2 ++ r)).Perm (l2 ++ (l1 ++ r)) := by
    rw [← List.append_assoc, ← List.append_assoc]
    exact List.Perm.append_right r List.perm_append_comm
  exact (p.map (·.1)).nodup_iff.mp h
/-- the first pairs of each end -/
def firstsL (seen : List Int) : List (Int × Int) → List (Int × Int)
  | [] => []
  | (y, b) :: r => if y ∈ seen then firstsL seen r else (y, b) :: firstsL (seen ++ [y]) r
theorem firstsL_seen {y b : Int} {seen : List Int} {r : List (Int × Int)} (h : y ∈ seen) : firstsL seen ((y, b) :: r) = firstsL seen r := by
  rw [firstsL, if_pos h]
theorem firstsL_new {y b : Int} {seen : List Int} {r : List (Int × Int)} (h : y ∉ seen) : firstsL seen ((y, b) :: r) = (y, b) :: firstsL (seen ++ [y]) r := by
  rw [firstsL, if_neg h]
theorem firstsL_iff : ∀ (es : List (Int × Int)) (seen : List Int) (y b : Int), (y, b) ∈ firstsL seen es ↔ y ∉ seen ∧ firstOf y es = some b
  | [], _, _, _ => ⟨(fun h => nomatch h), fun h => nomatch h.2⟩
  | (z, c) :: r, seen, y, b => by
    by_cases hz : z ∈ seen
    · rw [firstsL_seen hz, firstsL_iff r seen y b]
      refine and_congr_right fun hy => ?_
      have e : ¬ z = y := fun e => hy (e ▸ hz)
      rw [firstOf, if_neg e]
    · rw [firstsL_new hz, List.mem_cons, firstsL_iff r (seen ++ [z]) y b]
      by_cases e : z = y
      · subst e
        rw [firstOf, if_pos rfl]
        constructor
        · rintro (h | ⟨h, _⟩)
          · cases h; exact ⟨hz, rfl⟩
          · exact absurd (List.mem_append_right _ (.head _)) h
        · rintro ⟨_, h⟩; cases h; exact .inl rfl
      · rw [firstOf, if_neg e]
        constructor
        · rintro (h | ⟨h1, h2⟩)
          · exact absurd (Prod.mk.inj h).1.symm e
          · exact ⟨fun q => h1 (List.mem_append_left _ q), h2⟩
        · rintro ⟨h1, h2⟩
          exact .inr ⟨fun q => (List.mem_append.mp q).elim h1 fun q => e (List.mem_singleton.mp q).symm, h2⟩
theorem firstsL_nodup : ∀ (es : List (Int × Int)) (seen : List Int), ((firstsL seen es).map (·.1)).Nodup
  | [], _ => List.nodup_nil
  | (z, c) :: r, seen => by
    by_cases hz : z ∈ seen
    · rw [firstsL_seen hz]; exact firstsL_nodup r seen
    · rw [firstsL_new hz, List.map_cons, List.nodup_cons]
      refine ⟨fun h => ?_, firstsL_nodup r _⟩
      obtain ⟨⟨y, b⟩, h1, h2⟩ := List.mem_map.mp h
      cases h2
      exact ((firstsL_iff r _ _ _).mp h1).1 (List.mem_append_right _ (.head _))
/-- a list of pairs in the heap -/
inductive PrsIn (led : List (Addr × Obj)) : List Value → List (Int × Int) → Prop
  | nil : PrsIn led [] []
  | cons {vs : List Value} {es : List (Int × Int)} {a : Addr} {y b : Int} {t1 t2 : Tok} {n : Nat} : (a, tup2 b y t1 t2 n) ∈ led → PrsIn led vs es → PrsIn led (.ref a :: vs) ((y, b) :: es)
theorem PrsIn.mono {led led' : List (Addr × Obj)} (hs : ∀ p ∈ led, p ∈ led') {vs : List Value} {es : List (Int × Int)} (h : PrsIn led vs es) : PrsIn led' vs es := by
  induction h with
  | nil => exact .nil
  | cons m _ ih => exact .cons (hs _ m) ih
theorem PrsIn.snoc {led : List (Addr × Obj)} {vs : List Value} {es : List (Int × Int)} (h : PrsIn led vs es) {a : Addr} {y b : Int} {t1 t2 : Tok} {n : Nat} (m : (a, tup2 b y t1 t2 n) ∈ led) : PrsIn led (vs ++ [.ref a]) (es ++ [(y, b)]) := by
  induction h with
  | nil => exact .cons m .nil
  | cons m' _ ih => exact .cons m' ih
theorem PrsIn.len {led : List (Addr × Obj)} {vs : List Value} {es : List (Int × Int)} (h : PrsIn led vs es) : vs.length = es.length := by
  induction h with
  | nil => rfl
  | cons _ _ ih => simp [ih]
@[reducible] def LL.Is (led : List (Addr × Obj)) (G : Int → List (Int × Int)) (kc : List Int) (e : LL) : Prop := PrsIn led e.its (if e.key ∈ kc then firstsL [] (G e.key) else [])
theorem valueAt_in {k : Int} {x : Value} : ∀ {kvs : List (Int × Value)}, (kvs.map (·.1)).Nodup → (k, x) ∈ kvs → valueAt kvs k = some x
  | [], _, h => nomatch h
  | (z, y) :: r, hn, h => by
    rw [List.map_cons, List.nodup_cons] at hn
    unfold valueAt
    cases h with
    | head => rw [List.find?_cons_of_pos (by simp)]; rfl
    | tail _ h =>
      have e : ¬ z = k := fun e => hn.1 (e ▸ List.mem_map.mpr ⟨(k, x), h, rfl⟩)
      rw [List.find?_cons_of_neg (by simpa using e)]
      exact valueAt_in hn.2 h
/-- the inner loop's state -/
structure CS2 where
  so : Obj
  S : Int → Bool
  its : List Value
  n : Nat
  es : List (Int × Int)
  nv : Value
  rest : List (Int × Int)
  r : List (Addr × Obj)
theorem getc_spec {w : World} {A₀ A : Around} {base h₀ : Heap} {outer : List Env} {env : Env} {L : Addr} {m mg mb : Str → Option Value} {p : Program} {loose : List Str} {mean : ExcName → Option Value}
    {s : Shared} {news cl : List (Addr × Obj)} {R : Result → Shared → Prop} {v : NetV} {E : Edges}
    (B : Below A₀ base outer h₀) (F : Fr h₀ L s.heap m) (X₀ : (hd.heap_39 w.params).In h₀) (N : News h₀ L s.heap news) (T : Top p loose mean mg mb h₀)
    (hA : A.frames = some (env :: outer)) (hf : env.frame = some L) (hke : env.scope.kind = .function) (hroom : A.depth < 800) (hH : A.handled = none)
    (nd : ND news) (I : v.In w news) (O : v.Ok w cl E) (hcl : ∀ p ∈ cl, p ∈ news) (h6 : Six E)
    (k : ∀ h' tk D oD (ll : List LL) r', (∀ p ∈ news, p ∈ r') → Fr h₀ L h' m → News h₀ L h' ((D, oD) :: (ll.map LL.ob ++ r')) → ND ((D, oD) :: (ll.map LL.ob ++ r')) → (D == sysModules) = false → oD.IsDictOf (intKind PR w) (ll.map LL.kv) → ll.map LL.key = v.ks → (∀ e ∈ ll, PrsIn r' e.its (firstsL [] (v.G e.key))) → R (.ok (.ret (.ref D))) { s with heap := h', toks := tk }) :
    codeAny (model PR w) A (.call (.ref 193) ⟨[.ref v.self], []⟩) R s := by
  obtain ⟨aH, aD, aF, aG, aU⟩ := A
  dsimp only at hA hroom hH
  subst hA hH
  have hlen := (O.lens h6).1
  have hlenc := (O.lens h6).2
  obtain ⟨n1, n2, n3, n4⟩ := I
  obtain ⟨lo1, lo2, hoc, hod, hD, hC, hO⟩ := O
  have hF6 : ∀ x, (firstsL [] (v.G x)).length ≤ 6 := fun x => by
    have e := nodup_len ((firstsL [] (v.G x)).map (·.1)) [0, 1, 2, 3, 4, 5] (firstsL_nodup _ _) fun y hy => by
      obtain ⟨⟨y', b⟩, h1, h2⟩ := List.mem_map.mp hy
      cases h2
      exact six_in (hO.within h6 _ (hO.src x y' b (firstOf_mem ((firstsL_iff _ _ _ _).mp h1).2)).2)
    simpa using e
  refine' code_def B F X₀ N T rfl hf hke ?k6 ?k7 (Nat.lt_of_lt_of_le hroom (by decide)) ?k9 ?kB ?_ ?c2 ?c3 ?c4 ?c5
  case k6 => k_is
  case k7 => k_is
  case k9 => exact BindsTo.of_eq rfl
  case kB => exact locs rfl
  case c2 => exact rfl
  case c3 => exact rfl
  case c4 => exact rfl
  case c5 => decide
  intro g L' h₁ FG F' N' B' X' T'
  clear B F X₀ N T FG
  k_fold
  k_steps
  rename Fr _ _ _ _ => lF
  rename News _ _ _ _ => lN
  refine srcD_keys (knd0 := intKind PR w) (kvs0 := v.dv) (fun nw => ∀ p ∈ news, p ∈ nw) (fun i kvs nw => ∃ ll : List LL, ll.map LL.key = v.ks.take i ∧ kvs = ll.map LL.kv ∧ (∀ e ∈ ll, e.its = []) ∧ nw = ll.map LL.ob ++ news ∧ ND nw) rfl lF lN (fun nw h => h _ n3) (fun p hp => hp) lo1 hod (by rw [sizeLine_eq]; omega) ⟨[], rfl, rfl, (fun _ h => nomatch h), rfl, nd⟩ ?turn ?done
  case done =>
    rintro g kvs nws ⟨ll, h1, rfl, h3, rfl, nd⟩
    unfold FinDA
    intro D oD h tk F N hoD o1 loD
    have hlk : ll.length ≤ 6 := by
      have e1 := congrArg List.length h1
      have e2 := List.length_take_le' v.dv.length v.ks
      have e3 := hD.len
      simp only [List.length_map] at e1
      omega
    have ndD : ND ((D, oD) :: (ll.map LL.ob ++ news)) := nd_c.mpr ⟨off1_all' o1, nd⟩
    have hI : v.In w news := ⟨n1, n2, n3, n4⟩
    have hr : ∀ p ∈ news, p ∈ ll.map LL.ob ++ news := fun p hp => List.mem_append_right _ hp
    have n1 := hr _ n1
    have n2 := hr _ n2
    have n3 := hr _ n3
    have n4 := hr _ n4
    clear lF lN
    k_steps
    unfold Stop
    rename Fr _ _ _ _ => lF
    rename News _ _ _ _ => lN
    rename (∀ p : Addr × Obj, p ∈ _ → p.1 < _) => q1
    have ndV := nd_new (o := { cls := .type "dict_items", data := .fields #[.ref v.cA] }) ndD q1
    have lN2 := news_sw [_] ((D, oD) :: ll.map LL.ob) lN
    have ndV2 := nd_sw [_] ((D, oD) :: ll.map LL.ob) ndV
    have hkk : ll.map LL.key = v.ks := by
      rw [h1, List.take_of_length_le]
      have e := hD.len
      omega
    have hkc : v.kc = v.cv.map (·.1) := hC.1.symm
    refine pyIter_items_inv (d := v.cA) (od := v.oc) (kvs := v.cv) (fun i m' nw => m' (Str.ofString "constraints") = some (.ref D) ∧ ∃ (ll : List LL) (r' : List (Addr × Obj)), (∀ p ∈ news, p ∈ r') ∧ nw = (D, oD) :: (ll.map LL.ob ++ r') ∧ ND nw ∧ oD.IsDictOf (intKind PR w) (ll.map LL.kv) ∧ ll.map LL.key = v.ks ∧ ∀ e ∈ ll, e.Is r' v.G (v.kc.take i))
      rfl lF lN2 ?cin ?vin hoc ⟨rfl, ll, (_, _) :: news, (fun p hp => List.mem_cons_of_mem _ hp), rfl, ndV2, hoD, hkk, ?hIs⟩ (fun i m' nw h => ?keep) ?turn2 ?done2
    case cin => exact List.mem_cons_of_mem _ (List.mem_append_right _ (List.mem_cons_self ..))
    case vin => exact List.mem_cons_of_mem _ (List.mem_append_right _ (List.mem_cons_of_mem _ hI.i4))
    case hIs =>
      intro e he
      unfold LL.Is
      rw [h3 e he, List.take_zero, if_neg (fun h => nomatch h)]
      exact .nil
    case keep =>
      obtain ⟨_, ll, r', hr, e, _⟩ := h
      exact e ▸ List.mem_cons_of_mem _ (List.mem_append_right _ (hr _ hI.i4))
    case done2 =>
      rintro m' _ h' tk' ⟨e1, ll, r', hr, rfl, nd, hoD, hk, hIs⟩ F' N'
      rw [← List.length_map (f := (·.1)) (as := v.cv), hC.1, List.take_length] at hIs
      obtain ⟨m', rfl⟩ := kst_all (m := m') (ps := [(Str.ofString "constraints", _)]) (List.forall_mem_cons.mpr ⟨e1, fun _ h => nomatch h⟩)
      dsimp only [kstB] at F'
      clear lF lN lN2 N
      k_steps
      rename Fr _ _ _ _ => lF
      rename News _ _ _ _ => lN
      refine' leaveK_ ?k1 ?k2 ?_; (case k1 => k_asm); (case k2 => k_asm)
      intro kF kN
      refine k _ _ D oD ll r' hr kF kN nd (by assumption) hoD hk fun e he => ?_
      have h := hIs e he
      unfold LL.Is at h
      by_cases hkc : e.key ∈ v.kc
      · rw [if_pos hkc] at h; exact h
      · rw [if_neg hkc] at h; rw [hO.off _ hkc]; exact h
    case turn2 =>
      rintro I i x0 nv m' _ T t h' tk' it hi ⟨e1, ll, r', hr, rfl, nd, hoD, hk, hIs⟩ hoff hT F' N'
      obtain ⟨m', rfl⟩ := kst_all (m := m') (ps := [(Str.ofString "constraints", _)]) (List.forall_mem_cons.mpr ⟨e1, fun _ h => nomatch h⟩)
      dsimp only [kstB] at F'
      clear lF lN lN2 N k ndV ndV2 q1 ndD
      have hkc : v.kc[i]? = some x0 := by rw [← hC.1, List.getElem?_map, hi]; rfl
      have hxc : x0 ∈ v.kc := List.mem_of_getElem? hkc
      obtain ⟨nv', hnv, hch⟩ := hC.2.1 x0 hxc
      have hxk : x0 ∈ ll.map LL.key := hk ▸ (hO.keys x0).mpr hxc
      obtain ⟨e, he, rfl⟩ := List.mem_map.mp hxk
      obtain ⟨l1, l2, rfl⟩ := List.append_of_mem he
      have hnk : e.key ∉ v.kc.take i := not_take (hC.1 ▸ isdict_nodup hoc) hkc
      have hits : e.its = [] := by
        have h := hIs e he
        unfold LL.Is at h
        rw [if_neg hnk] at h
        exact List.length_eq_zero_iff.mp h.len
      have hat : valueAt ((l1 ++ e :: l2).map LL.kv) e.key = some (.ref e.at') := by
        have := isdict_nodup hoD
        exact valueAt_in this (List.mem_map.mpr ⟨e, he, rfl⟩)
      have nd1 : ND ((I, it) :: (D, oD) :: ((l1 ++ e :: l2).map LL.ob ++ r')) := nd_c.mpr ⟨hoff, nd⟩
      rw [List.map_append, List.append_assoc, List.map_cons, List.cons_append] at N' nd1
      have N2 := news_mid (l1 := (I, it) :: (D, oD) :: l1.map LL.ob) N'
      have nd2 := nd_mid (l1 := (I, it) :: (D, oD) :: l1.map LL.ob) nd1
      clear N' nd1 he hxk
      have hcl2 : ∀ p ∈ cl, p ∈ r' := fun p hp => hr p (hcl p hp)
      simp only [LL.ob, hits] at N2 nd2
      change News _ _ _ ((e.at', listOf (List.toArray []) e.n) :: (I, it) :: (D, oD) :: (l1.map LL.ob ++ (l2.map LL.ob ++ r'))) at N2
      change ND ((e.at', listOf (List.toArray []) e.n) :: (I, it) :: (D, oD) :: (l1.map LL.ob ++ (l2.map LL.ob ++ r'))) at nd2
      k_steps
      unfold Stop
      rename Fr _ _ _ _ => lF
      rename News _ _ _ _ => lN
      rename Obj.SetObjOf (intKind _ _) _ _ _ => hso
      rename (_ < _ ∧ _ < _ ∧ _ < _ ∧ _) => q2
      rename Addr => sa
      have nd3 : ∀ o, ND ((sa, o) :: (e.at', listOf (List.toArray []) e.n) :: (I, it) :: (D, oD) :: (l1.map LL.ob ++ (l2.map LL.ob ++ r'))) := fun o => nd_c.mpr ⟨all_cons.mpr ⟨Nat.ne_of_lt q2.1, all_cons.mpr ⟨Nat.ne_of_lt q2.2.1, all_cons.mpr ⟨Nat.ne_of_lt q2.2.2.1, ne_of_allLt q2.2.2.2⟩⟩⟩, nd2⟩
      refine' ksw_while (σ := CS2) (fun c => (sa, c.so) :: (e.at', listOf c.its.toArray c.n) :: (I, it) :: (D, oD) :: (l1.map LL.ob ++ (l2.map LL.ob ++ c.r))) (fun c => [(Str.ofString "neighbor", c.nv)])
        (fun c => c.so.SetObjOf (intKind PR w) c.S c.es.length ∧ (∀ k, c.S k = decide (k ∈ c.es.map (·.1))) ∧ PrsIn c.r c.its c.es ∧ ChainIn w cl c.nv c.rest ∧ (∀ p ∈ r', p ∈ c.r) ∧ ND ((sa, c.so) :: (e.at', listOf c.its.toArray c.n) :: (I, it) :: (D, oD) :: (l1.map LL.ob ++ (l2.map LL.ob ++ c.r)))) [] (fun c => c.es ++ firstsL (c.es.map (·.1)) c.rest = firstsL [] (v.G e.key)) (fun c => c.rest.length)
        ⟨_, _, [], e.n, [], nv, v.G e.key, r'⟩ lF lN ⟨hso, (fun _ => rfl), .nil, ?hch, (fun _ h => h), nd3 _⟩ (fun p h => by cases h with | head => rfl | tail _ h => nomatch h) rfl ?_
      case hch =>
        have e2 := valueAt_in (isdict_nodup hoc) (List.mem_of_getElem? hi)
        rw [hnv] at e2
        cases e2
        exact hch
      clear lF lN hso
      rintro ⟨so3, S3, its3, n3, es3, nv3, rest3, r3⟩ u3 h3 tk3 ⟨hso3, hS3, hp3, hc3, hr3, nd3⟩ hP3 lF lN
      dsimp only at hso3 hS3 hp3 hc3 hr3 nd3 hP3 lF lN
      (try dsimp only)
      change wpAny _ _ _ _ _ _
      k_fold
      cases hc3 with
      | nil =>
        k_steps
        have hle : es3 = firstsL [] (v.G e.key) := by rw [← hP3, firstsL, List.append_nil]
        have eA : l1.map LL.ob ++ (l2.map LL.ob ++ r3) = (l1.map LL.ob ++ l2.map LL.ob) ++ r3 := (List.append_assoc _ _ _).symm
        have eT : (l1 ++ LL.mk e.key e.at' its3 n3 :: l2).map LL.ob ++ (sa, so3) :: r3 = l1.map LL.ob ++ (e.at', listOf its3.toArray n3) :: (l2.map LL.ob ++ (sa, so3) :: r3) := by
          rw [List.map_append, List.map_cons, List.append_assoc, List.cons_append]
        rename News _ _ _ _ => lN
        rw [eA] at nd3 lN
        have ndE := nd_sw [(sa, so3)] ((e.at', listOf its3.toArray n3) :: (I, it) :: (D, oD) :: (l1.map LL.ob ++ l2.map LL.ob)) nd3
        have lNE := news_sw [(sa, so3)] ((e.at', listOf its3.toArray n3) :: (I, it) :: (D, oD) :: (l1.map LL.ob ++ l2.map LL.ob)) lN
        change ND ((e.at', listOf its3.toArray n3) :: (I, it) :: (D, oD) :: ((l1.map LL.ob ++ l2.map LL.ob) ++ (sa, so3) :: r3)) at ndE
        change News _ _ _ ((e.at', listOf its3.toArray n3) :: (I, it) :: (D, oD) :: ((l1.map LL.ob ++ l2.map LL.ob) ++ (sa, so3) :: r3)) at lNE
        rw [List.append_assoc] at ndE lNE
        have ndE := nd_back (l1 := (I, it) :: (D, oD) :: l1.map LL.ob) ndE
        have lNE := news_back (l1 := (I, it) :: (D, oD) :: l1.map LL.ob) lNE
        change ND ((I, it) :: (D, oD) :: (l1.map LL.ob ++ (e.at', listOf its3.toArray n3) :: (l2.map LL.ob ++ (sa, so3) :: r3))) at ndE
        change News _ _ _ ((I, it) :: (D, oD) :: (l1.map LL.ob ++ (e.at', listOf its3.toArray n3) :: (l2.map LL.ob ++ (sa, so3) :: r3))) at lNE
        rw [← eT] at ndE lNE
        refine ⟨_, _, _, (D, oD) :: ((l1 ++ LL.mk e.key e.at' its3 n3 :: l2).map LL.ob ++ (sa, so3) :: r3), rfl, (by assumption), lNE, (nd_c.mp ndE).1, rfl, _, (sa, so3) :: r3, (fun p hp => .tail _ (hr3 _ (hr p hp))), rfl, (nd_c.mp ndE).2, ?_, ?_, ?_⟩
        · rw [List.map_append, List.map_cons] at hoD ⊢
          exact hoD
        · rw [List.map_append, List.map_cons] at hk ⊢
          exact hk
        · have hnd := hk ▸ hO.nd
          rw [List.map_append, List.map_cons] at hnd
          have hdis := List.nodup_append.mp hnd
          have hmono : ∀ p ∈ r', p ∈ (sa, so3) :: r3 := fun p hp => .tail _ (hr3 p hp)
          have other : ∀ e0 ∈ l1 ++ e :: l2, e0.key ≠ e.key → e0.Is ((sa, so3) :: r3) v.G (v.kc.take (i + 1)) := fun e0 h0 hne => by
            have h := (hIs e0 h0).mono hmono
            unfold LL.Is
            rw [take_next' hkc]
            have e2 : (e0.key ∈ v.kc.take i ++ [e.key]) = (e0.key ∈ v.kc.take i) := by simp [hne]
            simp only [e2]
            exact h
          intro e0 h0
          rcases List.mem_append.mp h0 with h0 | h0
          · exact other e0 (List.mem_append_left _ h0) fun q => hdis.2.2 _ (List.mem_map_of_mem h0) _ (.head _) q
          · cases h0 with
            | head =>
              unfold LL.Is
              rw [take_next' hkc, if_pos (List.mem_append_right _ (.head _)), ← hle]
              exact hp3.mono (fun p hp => .tail _ hp)
            | tail _ h0 => exact other e0 (List.mem_append_right _ (.tail _ h0)) fun q => (List.nodup_cons.mp hdis.2.1).1 (q ▸ List.mem_map_of_mem h0)
      | @cons a d ta tb tc nt nu y b nx q3 hm1 hm2 hc3 =>
        have hm1 : (a, instObj CN d) ∈ l1.map LL.ob ++ (l2.map LL.ob ++ r3) := List.mem_append_right _ (List.mem_append_right _ (hr3 _ (hcl2 _ hm1)))
        have hm2 := List.mem_append_right (l1.map LL.ob) (List.mem_append_right (l2.map LL.ob) (hr3 _ (hcl2 _ hm2)))
        have hl3 : es3.length ≤ 6 := by
          have e2 := congrArg List.length hP3
          have e3 := hF6 e.key
          rw [List.length_append] at e2
          omega
        have hil : its3.length ≤ 6 := hp3.len ▸ hl3
        have nd4 := nd3
        simp only [nd_c, all_cons] at nd4
        obtain ⟨⟨d1, d2, d3, d4⟩, ⟨d5, d6, d7⟩, ⟨d8, d9⟩, d10, d11⟩ := nd4
        k_steps
        · rename (S3 y = true) => hsy
          rename Fr _ _ _ _ => lF
          rename News _ _ _ _ => lN
          refine ksw_end (⟨so3, S3, its3, _, es3, nx, q3, r3⟩ : CS2) (by assumption) lN (fun p h => h) ⟨hso3, hS3, hp3, hc3, hr3, nd3⟩ (fun p h => by cases h with | head => rfl | tail _ h => nomatch h) ?_ ?_ (Nat.lt_succ_self _)
          · intro z h2 h3
            have hz : z ≠ Str.ofString "neighbor" := h2 _ (.head _)
            simp [kstB, hz]
          · rw [hS3] at hsy
            rw [firstsL_seen (of_decide_eq_true hsy)] at hP3
            exact hP3
        · rename (S3 y = false) => hsy
          rename Fr _ _ _ _ => lF
          rename News _ _ _ _ => lN
          rename (_ < _ ∧ _ < _ ∧ _ < _ ∧ _ < _ ∧ _) => q3'
          rename Obj.SetObjOf _ _ _ _ => hs4
          rename_i l' _ _ _
          have hny : y ∉ es3.map (·.1) := by rw [hS3] at hsy; exact of_decide_eq_false hsy
          have eA : l1.map LL.ob ++ (l2.map LL.ob ++ r3) = (l1.map LL.ob ++ l2.map LL.ob) ++ r3 := (List.append_assoc _ _ _).symm
          rw [hsy, if_neg Bool.false_ne_true] at hs4
          have ndN : ∀ (o1 o2 o3 : Obj), ND ((l', o1) :: (sa, o2) :: (e.at', o3) :: (I, it) :: (D, oD) :: (l1.map LL.ob ++ (l2.map LL.ob ++ r3))) := fun o1 o2 o3 => nd_c.mpr ⟨all_cons.mpr ⟨Nat.ne_of_lt q3'.1, all_cons.mpr ⟨Nat.ne_of_lt q3'.2.1, all_cons.mpr ⟨Nat.ne_of_lt q3'.2.2.1, all_cons.mpr ⟨Nat.ne_of_lt q3'.2.2.2.1, ne_of_allLt q3'.2.2.2.2⟩⟩⟩⟩, nd_same nd3 rfl⟩
          rw [eA] at lN ndN
          rename Obj => o5
          rw [List.push_toArray] at lN
          have lN2 := news_sw [(l', tup2 b y nu nt 0)] ((sa, o5) :: (e.at', listOf (its3 ++ [Value.ref l']).toArray (n3 + 1)) :: (I, it) :: (D, oD) :: (l1.map LL.ob ++ l2.map LL.ob)) lN
          have ndN2 := nd_sw [(l', tup2 b y nu nt 0)] ((sa, o5) :: (e.at', listOf (its3 ++ [Value.ref l']).toArray (n3 + 1)) :: (I, it) :: (D, oD) :: (l1.map LL.ob ++ l2.map LL.ob)) (ndN _ _ _)
          change News _ _ _ ((sa, o5) :: (e.at', listOf (its3 ++ [Value.ref l']).toArray (n3 + 1)) :: (I, it) :: (D, oD) :: ((l1.map LL.ob ++ l2.map LL.ob) ++ (l', tup2 b y nu nt 0) :: r3)) at lN2
          change ND ((sa, o5) :: (e.at', listOf (its3 ++ [Value.ref l']).toArray (n3 + 1)) :: (I, it) :: (D, oD) :: ((l1.map LL.ob ++ l2.map LL.ob) ++ (l', tup2 b y nu nt 0) :: r3)) at ndN2
          rw [List.append_assoc] at lN2 ndN2
          have hem : (es3 ++ [(y, b)]).map (·.1) = es3.map (·.1) ++ [y] := List.map_append
          refine ksw_end (⟨o5, (fun k' => S3 k' || decide (k' = y)), its3 ++ [Value.ref l'], n3 + 1, es3 ++ [(y, b)], nx, q3, (l', tup2 b y nu nt 0) :: r3⟩ : CS2) (by assumption) lN2 (fun p h => h) ⟨?_, ?_, (hp3.mono (fun p hp => .tail _ hp)).snoc (.head _), hc3, fun p hp => .tail _ (hr3 p hp), ndN2⟩ (fun p h => by cases h with | head => rfl | tail _ h => nomatch h) ?_ ?_ (Nat.lt_succ_self _)
          · rw [List.length_append]; exact hs4
          · intro z
            show (S3 z || decide (z = y)) = decide (z ∈ (es3 ++ [(y, b)]).map (·.1))
            rw [hem, hS3, Bool.eq_iff_iff]
            simp only [Bool.or_eq_true, decide_eq_true_iff, List.mem_append, List.mem_singleton]
          · intro z h2 h3
            have hz : z ≠ Str.ofString "neighbor" := h2 _ (.head _)
            simp [kstB, hz]
          · dsimp only
            rw [hem, List.append_assoc, List.singleton_append, ← hP3, firstsL_new hny]
  case turn =>
    rintro g i kvs nws v' I oI C oC D oD m₂ h tk E' hi ⟨ll, h1, rfl, h3, rfl, nd⟩ ⟨k', x', hk', hkv⟩ hC hx hoD F N off ne
    obtain ⟨t, rfl⟩ := Value.isInt_shape hkv
    clear lF lN
    clear k; generalize hnw : ll.map LL.ob ++ news = nws at *
    k_steps
    rename Fr _ _ _ _ => lF
    rename News _ _ _ _ => lN
    rename (_ < _ ∧ _ < _ ∧ _ < _ ∧ AllLt _ _) => q
    rename Addr => l'
    subst hnw
    have hki : v.ks[i]? = some k' := by rw [← hD.1, List.getElem?_map, hk']; rfl
    have hnk : k' ∉ ll.map LL.key := by rw [h1]; exact not_take hO.nd hki
    refine DEnd.intro hkv lF lN ((ll ++ [LL.mk k' l' [] 0]).map LL.ob ++ news) ?_ ?_ ?_ ⟨?_, ll ++ [LL.mk k' l' [] 0], ?_, ?_, ?_, rfl, ?_⟩
    · intro p hp
      simp only [List.map_append, List.map_cons, List.map_nil, List.mem_cons, List.mem_append, List.not_mem_nil, or_false] at hp ⊢
      rcases hp with h | h | h | (h | h) | h
      · exact .inr (.inl h)
      · exact .inr (.inr (.inl h))
      · exact .inr (.inr (.inr (.inl h)))
      · exact .inr (.inr (.inr (.inr (.inl h))))
      · exact .inl h
      · exact .inr (.inr (.inr (.inr (.inr h))))
    · refine LCg.Off3.of fun p hp => ?_
      have z := off.mem
      simp only [List.map_append, List.map_cons, List.map_nil, List.mem_cons, List.mem_append, List.not_mem_nil, or_false] at hp z
      rcases hp with (h | h) | h
      · exact z p (.inl h)
      · rw [h]; exact ⟨Nat.ne_of_gt q.1, Nat.ne_of_gt q.2.1, Nat.ne_of_gt q.2.2.1⟩
      · exact z p (.inr h)
    · exact fun p hp => List.mem_append_right _ hp
    · have e1 := congrArg List.length h1
      have e2 := List.length_take_le' i v.ks
      have e3 := hD.len
      simp only [List.length_map] at e1 ⊢
      omega
    · rw [List.map_append, h1, take_next' hki]; rfl
    · rw [List.map_append]
      exact stored_new _ (by rw [List.map_map]; exact hnk)
    · intro e he
      rcases List.mem_append.mp he with he | he
      · exact h3 e he
      · rw [List.mem_singleton.mp he]
    · have d1 : ND ((l', listOf #[] 0) :: (ll.map LL.ob ++ news)) := nd_new nd (lt_all q.2.2.2)
      rw [List.map_append, List.append_assoc]
      exact nd_back d1

end
section -- EqPT
open PySem PySem.W PyProof.Rows PySem.Calls
set_option maxRecDepth 100000
set_option maxHeartbeats 4000000
section
variable {w : World} {A : Around} {E : Value → Shared → Prop} {s : Shared} {h₀ : Heap} {L a b : Addr} {news la lb : List (Addr × Obj)} {oa ob : Obj} {ta tb : Ties}
theorem pt_same {nm : String} {Q : Bool → Shared → Prop} (N : News h₀ L s.heap news) (ha : (a, oa) ∈ news) (hb : (b, ob) ∈ news) (Pa : PTab w la oa ta) (Pb : PTab w lb ob tb) (hla : ∀ p ∈ la, p ∈ news) (hlb : ∀ p ∈ lb, p ∈ news)
    (lo1 : (a == sysModules) = false) (lo2 : (b == sysModules) = false) (hl : ta.length = tb.length) (hall : ∀ k ∈ ta, lookT tb k.1 = some k.2) (hr : (tupleKind (intKind PR w)).room A) (h : ∀ tk, Q true { s with toks := tk }) :
    wpAny (model PR w) A (Builtin.Dict.samePairs nm a b) Q E s := by
  obtain ⟨es, ep, xs, q1, q2, q3, hn, hP⟩ := Pa.ex
  obtain ⟨es', ep', xs', q1', q2', q3', hn', hP'⟩ := Pb.ex
  have hoa := N.get ha
  have hob := N.get hb
  have hsa : es.size = ta.length := by rw [← Array.length_toList, q3, List.length_map, hP.len]
  have hsb : es'.size = tb.length := by rw [← Array.length_toList, q3', List.length_map, hP'.len]
  have hsz : es.size = es'.size := by omega
  unfold Builtin.Dict.samePairs Builtin.Dict.showsAll
  rw [if_neg (show ¬ (a == sysModules) = true by rw [lo1]; exact Bool.false_ne_true), if_neg (show ¬ (b == sysModules) = true by rw [lo2]; exact Bool.false_ne_true)]
  refine wpAny_bind (wpAny_pure (wpAny_bind (wpAny_pure ?_)))
  refine wpAny_bind (wpAny_dictEntries hoa q2 ?_)
  dsimp only
  refine wpAny_bind (wpAny_dictEntries hob q2' ?_)
  rw [if_neg (by rw [hsz]; simp)]
  refine wpAny_bind (wpAny_dictEpoch hoa q2 ?_)
  refine wpAny_bind ?_
  rw [Std.Legacy.Range.forIn_eq_forIn_range']
  simp only [Std.Legacy.Range.size, Nat.sub_zero, Nat.add_sub_cancel, Nat.div_one]
  refine wpAny_forIn_list _
    (fun rest q s' => (∃ tk, s' = { s with toks := tk }) ∧ q = (none, ()) ∧ ∃ i, rest = List.range' i (es.size - i) ∧ i ≤ es.size)
    _ ?_ ?_ _ _ ⟨⟨s.toks, rfl⟩, rfl, 0, by simp, Nat.zero_le _⟩
  · rintro x rest q s' ⟨⟨tk, rfl⟩, rfl, i, hr1, hi⟩
    have hlt : i < es.size := by
      rcases Nat.lt_or_ge i es.size with h | h
      · exact h
      · rw [Nat.sub_eq_zero_of_le h] at hr1; simp at hr1
    obtain ⟨rfl, hrest⟩ : x = i ∧ rest = List.range' (i + 1) (es.size - (i + 1)) := by
      have e : es.size - i = (es.size - (i + 1)) + 1 := by omega
      rw [e, List.range'_succ] at hr1
      injection hr1 with h1 h2
      exact ⟨h1, h2⟩
    refine wpAny_bind (wpAny_dictEntries (s := { s with toks := tk }) hoa q2 ?_)
    have hlx : x < xs.length := by rw [hP.len, ← hsa]; exact hlt
    obtain ⟨ka, u, v, c, t1, t2, t3, n, hx, htx, hka⟩ := hP.at' (i := x) (x := xs[x]) (List.getElem?_eq_getElem hlx)
    have hex : es[x]? = some ⟨(tupleKind (intKind PR w)).hash [u, v], .ref ka, .int c t3⟩ := by
      rw [entry_at q3 x, List.getElem?_eq_getElem hlx, hx]; rfl
    rw [hex]
    show wpAny _ _ (holding [_, _] _ >>= _) _ _ _
    have N2 : News h₀ L ({ s with toks := tk } : Shared).heap news := N
    refine wpAny_bind (wpAny_holding (wpAny_bind (wpAny_dictFind_heap (s := { s with toks := tk }) (knd := tupleKind (intKind PR w)) hr (tup2_key (N2.get (hla _ hka))) hob q2' q3' (hP'.keys N2 hlb) hn' ?_ ?_)))
    · intro hno
      exfalso
      have hk := hall _ (List.mem_of_getElem? htx)
      dsimp only at hk
      rcases hP'.look u v with ⟨e1, _⟩ | ⟨c', a', t', e1, e2⟩
      · rw [hk] at e1; cases e1
      · unfold atKey at e2
        rw [Option.map_eq_some_iff] at e2
        obtain ⟨y, hy, hy2⟩ := e2
        have h1 := List.find?_some hy
        have h2 := List.mem_of_find?_eq_some hy
        obtain ⟨j, hj⟩ := List.mem_iff_getElem?.mp h2
        have h3 : y.1 = [u, v] := of_decide_eq_true h1
        exact hno j y.2 (by rw [hj, ← h3])
    · intro j pp hj
      have hk := hall _ (List.mem_of_getElem? htx)
      dsimp only at hk
      refine wpAny_bind (wpAny_dictEntries (s := { s with toks := tk }) hob q2' ?_)
      rw [entry_at q3' j, hj]
      obtain ⟨ka', u', v', c', t1', t2', t3', n', hx', htx', hka'⟩ := hP'.at' hj
      obtain ⟨e1, rfl⟩ := Prod.mk.inj hx'
      have e2 : u = u' ∧ v = v' := by simpa using e1
      obtain ⟨rfl, rfl⟩ := e2
      have hc := (lookT_mem3 Pb.keys3).mp (List.mem_of_getElem? htx')
      rw [hk] at hc
      cases hc
      show wpAny _ _ (holding [Value.int c t3'] (eqBool (.int c t3) (.int c t3'))) _ _ _
      refine wpAny_holding (wpAny_eqBool_int ?_)
      show wpAny _ _ (if (!decide (c = c)) = true then _ else _) _ _ _
      rw [if_neg (by simp)]
      refine wpAny_bind (wpAny_dictEpoch (s := { s with toks := tk }) hoa q2 ?_)
      rw [if_neg (by simp)]
      exact wpAny_pure ⟨⟨tk, rfl⟩, rfl, x + 1, hrest, hlt⟩
  · rintro q s' ⟨⟨tk, rfl⟩, rfl, i, hr1, hi⟩
    exact wpAny_pure (h tk)
theorem pt_eqT {Q : Value → Shared → Prop} (N : News h₀ L s.heap news) (ha : (a, oa) ∈ news) (hb : (b, ob) ∈ news) (Pa : PTab w la oa ta) (Pb : PTab w lb ob tb) (hla : ∀ p ∈ la, p ∈ news) (hlb : ∀ p ∈ lb, p ∈ news)
    (lo1 : (a == sysModules) = false) (lo2 : (b == sysModules) = false) (hl : ta.length = tb.length) (hall : ∀ k ∈ ta, lookT tb k.1 = some k.2) (hu : A.units + 1 < cLine) (h : ∀ tk, Q (.bool true) { s with toks := tk }) :
    wpAny (model PR w) A (compareOp .Eq (.ref a) (.ref b)) Q E s := by
  obtain ⟨xa, hA, _⟩ := Pa.dict N ha hla
  obtain ⟨xb, hB, _⟩ := Pb.dict N hb hlb
  have da := hA.typeIs
  have db := hB.typeIs
  refine wpAny_richCompare_same_room (op := .Eq) da db PySem.F.slot_dict_eq (wpAny_call_entry PySem.F.slot_dict_eq da PySem.F.entry_dict_eq ?_ (PySem.F.args_dict_eq_2 _ _)) (by omega)
  show wpAny _ _ (Builtin.Dict.dictSlotArgs "__eq__" ⟨[.ref a, .ref b], []⟩ >>= _) _ _ s
  refine wpAny_bind ?_
  unfold Builtin.Dict.dictSlotArgs
  refine wpAny_bind (wpAny_notOrdered_dict da ?_)
  show wpAny _ _ (pure (Value.ref a, Value.ref b)) _ _ s
  refine wpAny_pure ?_
  refine wpAny_bind (wpAny_isInstance (T := "dict") db PySem.F.sub_dict_dict ?_)
  simp only [Bool.not_true, Bool.false_eq_true, if_false]
  refine wpAny_bind (wpAny_pure (wpAny_bind (wpAny_pure ?_)))
  refine wpAny_bind (pt_same N ha hb Pa Pb hla hlb lo1 lo2 hl hall (tupleKind_room_in1 hu) fun tk => ?_)
  refine wpAny_pure ⟨_, rfl, ?_, ?_⟩
  · exact fun x => nomatch x
  · simpa using h tk
end

end
section -- Tells03
open PySem PySem.W PyProof.Rows PySem.Calls
set_option maxRecDepth 100000
set_option maxHeartbeats 8000000
local macro_rules | `(tactic| walk_at "no such line") => `(tactic| skip)
local macro_rules | `(tactic| walk_at "no such line") => `(tactic| skip)
local macro_rules | `(tactic| walk_at "no such line") => `(tactic| skip)
local macro_rules | `(tactic| walk_at "no such line") => `(tactic| skip)
local macro_rules | `(tactic| walk_at "no such line") => `(tactic| skip)
local macro_rules | `(tactic| walk_at "no such line") => `(tactic| skip)
local macro_rules | `(tactic| walk_at "no such line") => `(tactic| skip)
local macro_rules | `(tactic| walk_at "no such line") => `(tactic| skip)
local macro_rules | `(tactic| walk_at "no such line") => `(tactic| skip)
local macro_rules | `(tactic| walk_at "no such line") => `(tactic| skip)
local macro_rules | `(tactic| walk_at "no such line") => `(tactic| skip)
local macro_rules | `(tactic| walk_at "no such line") => `(tactic| skip)
local macro_rules | `(tactic| walk_at "no such line") => `(tactic| skip)
local macro_rules | `(tactic| walk_at "no such line") => `(tactic| skip)
local macro_rules | `(tactic| walk_at "no such line") => `(tactic| skip)
local macro_rules | `(tactic| walk_at "no such line") => `(tactic| skip)
local macro_rules | `(tactic| walk_at "no such line") => `(tactic| skip)
local macro_rules | `(tactic| walk_at "no such line") => `(tactic| skip)
local macro_rules | `(tactic| walk_at "no such line") => `(tactic| skip)
local macro_rules | `(tactic| walk_at "no such line") => `(tactic| skip)
local macro_rules | `(tactic| walk_at "no such line") => `(tactic| skip)
local macro_rules | `(tactic| walk_at "no such line") => `(tactic| skip)
local macro_rules | `(tactic| walk_at "no such line") => `(tactic| skip)
theorem kfill_Tells03 : (PySem.Challenge.rw_vs0022_03 = PySem.Challenge.rw_vs0022_03) ∧ (hd.heap_39 = hd.heap_39) := by
  w_top off
  k_fill
  exact ⟨rfl, rfl⟩
abbrev Tri := Int × Int × Int
theorem PrsIn.skip {ra rb : List (Addr × Obj)} {c : Addr} {o : Obj} {x : Option Value} (ho : o.data = .cell x) {vs : List Value} {es : List (Int × Int)} (h : PrsIn (ra ++ (c, o) :: rb) vs es) : PrsIn (ra ++ rb) vs es := by
  induction h with
  | nil => exact .nil
  | cons m _ ih =>
    refine .cons (List.mem_append.mpr ((List.mem_append.mp m).imp id fun m => ?_)) ih
    cases m with
    | head => cases ho
    | tail _ m => exact m
theorem PrsIn.at {led : List (Addr × Obj)} {vs : List Value} {es : List (Int × Int)} (h : PrsIn led vs es) : ∀ {j : Nat} {u : Value}, vs[j]? = some u → ∃ a y b t1 t2 n, u = .ref a ∧ (a, tup2 b y t1 t2 n) ∈ led ∧ es[j]? = some (y, b) := by
  induction h with
  | nil => intro j u h; cases j <;> cases h
  | @cons vs es a y b t1 t2 n m _ ih =>
    intro j u h
    cases j with
    | zero => cases h; exact ⟨a, y, b, t1, t2, n, rfl, m, rfl⟩
    | succ j => exact ih h
@[reducible] def triOf (k : Int) (q : Int × Int) : Tri := (k, q.1, q.2)
theorem flat_lenK {α β : Type} {f : α → List β} {n : Nat} (h : ∀ a, (f a).length ≤ n) : ∀ l : List α, (l.flatMap f).length ≤ n * l.length
  | [] => Nat.zero_le _
  | a :: l => by
    rw [List.flatMap_cons, List.length_append, List.length_cons, Nat.mul_add, Nat.mul_one]
    have := flat_lenK h l
    have := h a
    omega
theorem tri_mem {FF : Int → List (Int × Int)} {ll : List LL} {x y b : Int} : (x, y, b) ∈ (ll.flatMap fun e => (FF e.key).map (triOf e.key)) ↔ x ∈ ll.map LL.key ∧ (y, b) ∈ FF x := by
  simp only [List.mem_flatMap, List.mem_map, triOf]
  constructor
  · rintro ⟨e, he, q, hq, h⟩
    cases h
    exact ⟨⟨e, he, rfl⟩, hq⟩
  · rintro ⟨⟨e, he, rfl⟩, hq⟩
    exact ⟨e, he, _, hq, rfl⟩
theorem tri_nodup {FF : Int → List (Int × Int)} (hf : ∀ k, ((FF k).map (·.1)).Nodup) : ∀ {ll : List LL}, (ll.map LL.key).Nodup → (ll.flatMap fun e => (FF e.key).map (triOf e.key)).Nodup
  | [], _ => List.nodup_nil
  | e :: ll, h => by
    rw [List.map_cons, List.nodup_cons] at h
    rw [List.flatMap_cons, List.nodup_append]
    refine ⟨?_, tri_nodup hf h.2, fun a ha b hb => ?_⟩
    · have h2 := hf e.key
      rw [List.Nodup, List.pairwise_map] at h2 ⊢
      exact h2.imp fun hn e2 => hn (congrArg (fun t : Tri => t.2.1) e2)
    · rintro rfl
      obtain ⟨x, y, c⟩ := a
      have h3 := (tri_mem.mp hb).1
      obtain ⟨q, _, e3⟩ := List.mem_map.mp ha
      cases e3
      exact h.1 h3
/-- the ties that a list of triples tells -/
def toldOf (X : List (Int × Int × Int)) : Ties := X.foldl (fun ts e => putT ts (e.1, e.2.1) e.2.2) []
theorem told_snoc (X : List (Int × Int × Int)) (e : Int × Int × Int) : toldOf (X ++ [e]) = putT (toldOf X) (e.1, e.2.1) e.2.2 := by
  unfold toldOf
  rw [List.foldl_append]
  rfl
theorem told_len : ∀ (X : List (Int × Int × Int)) (ts : Ties), (X.foldl (fun ts e => putT ts (e.1, e.2.1) e.2.2) ts).length ≤ ts.length + X.length
  | [], _ => Nat.le_refl _
  | e :: X, ts => by
    rw [List.foldl_cons, List.length_cons]
    have h1 := told_len X (putT ts (e.1, e.2.1) e.2.2)
    have h2 : (putT ts (e.1, e.2.1) e.2.2).length ≤ ts.length + 1 := by unfold putT; split <;> simp
    omega
theorem lookT_none {ts : Ties} {k : Int × Int} (h : k ∉ ts.map (·.1)) : lookT ts k = none := by
  unfold lookT
  rw [Option.map_eq_none_iff, List.find?_eq_none]
  intro e he hk
  exact h (List.mem_map.mpr ⟨e, he, of_decide_eq_true hk⟩)
theorem told_map : ∀ (X : List (Int × Int × Int)) (ts : Ties), (ts.map (·.1) ++ X.map fun e => (e.1, e.2.1)).Nodup → X.foldl (fun ts e => putT ts (e.1, e.2.1) e.2.2) ts = ts ++ X.map fun e => ((e.1, e.2.1), e.2.2)
  | [], ts, _ => by simp
  | e :: X, ts, hn => by
    rw [List.map_cons] at hn
    have hnot : (e.1, e.2.1) ∉ ts.map (·.1) := fun hm => (List.nodup_append.mp hn).2.2 _ hm _ (.head _) rfl
    have hp : putT ts (e.1, e.2.1) e.2.2 = ts ++ [((e.1, e.2.1), e.2.2)] := by
      unfold putT
      rw [lookT_none hnot]
      rfl
    rw [List.foldl_cons, hp, told_map X _ (by rw [List.map_append, List.append_assoc]; exact hn), List.append_assoc]
    rfl
open PyProof.Rows.LCg in
theorem src2D_keys {w : World} {A : Around} {h₀ : Heap} {L : Addr} {m : Str → Option Value} {env : Env} {kx vx : Expr} {x x₁ x₂ : Str} {iter2 : Expr} {scope : Scope} {cl : List (Str × Addr)} {Fin : Shared → Ties → List (Addr × Obj) → Prop} {s₁ : Shared} {D : Addr} {oD : Obj} {ll : List LL} {led : List (Addr × Obj)} {FF : Int → List (Int × Int)}
    (hh : A.handled = none) (F : Fr h₀ L s₁.heap m) (N : News h₀ L s₁.heap led) (hD : (D, oD) ∈ led) (hll : ∀ e ∈ ll, (e.at', listOf e.its.toArray e.n) ∈ led) (lo : (D == sysModules) = false) (hoD : oD.IsDictOf (intKind PR w) (ll.map LL.kv)) (hIs : ∀ e ∈ ll, PrsIn led e.its (FF e.key)) (h6 : ll.length ≤ 6) (hF6 : ∀ k, (FF k).length ≤ 6)
    (outer : ∀ g (e : LL) t news I C D oI oC oD' m₂ h tk (E' : Value → Shared → Prop), valueAt (ll.map LL.kv) e.key = some (.ref e.at') → (∀ p ∈ led, p ∈ news) → NsObj oC m₂ → m₂ x = some (.int e.key t) → Fr h₀ L h m → News h₀ L h ((I, oI) :: (C, oC) :: (D, oD') :: news) → Off3 I C D news → ((@Ne Nat I C) ∧ (@Ne Nat I D) ∧ (@Ne Nat C D)) →
      wpAny (model PR w) A (eval iter2 (compEnvC scope cl C env)) (fun xv s₄ => ∃ h' tk', xv = .ref e.at' ∧ s₄ = { s₁ with heap := h', toks := tk' } ∧ Fr h₀ L h' m ∧ News h₀ L h' ((I, oI) :: (C, oC) :: (D, oD') :: news)) E' { ({ s₁ with heap := g } : Shared) with heap := h, toks := tk })
    (inner : ∀ g (key y b : Int) t ty tb news I2 I C D oI2 oI oC oD' m₂ h tk (E' : Value → Shared → Prop), (∀ p ∈ led, p ∈ news) → NsObj oC m₂ → m₂ x = some (.int key t) → m₂ x₁ = some (.int b tb) → m₂ x₂ = some (.int y ty) → Fr h₀ L h m → News h₀ L h ((I2, oI2) :: (C, oC) :: (D, oD') :: (I, oI) :: news) → Off3 I2 C D ((I, oI) :: news) → (∀ p ∈ news, p.1 ≠ I) → ((@Ne Nat I2 C) ∧ (@Ne Nat I2 D) ∧ (@Ne Nat C D)) →
      wpAny (model PR w) A (eval kx (compEnvC scope cl C env)) (fun kv s₄ => wpAny (model PR w) A (eval vx (compEnvC scope cl C env)) (KVEnd h₀ L m { s₁ with heap := h, toks := tk } I2 oI2 C oC D oD' (fun _ => True) List.tail kv (fun kx' ky kb nw => (kx', ky, kb) = (key, y, b) ∧ ∃ news', nw = (I, oI) :: news' ∧ (∀ p ∈ news', p.1 ≠ I) ∧ ∀ p ∈ news, p ∈ news')) E' s₄) E' { ({ s₁ with heap := g } : Shared) with heap := h, toks := tk })
    (done : ∀ g news, (∀ p ∈ led, p ∈ news) → Fin { s₁ with heap := g } (toldOf (ll.flatMap fun e => (FF e.key).map (triOf e.key))) news) :
    Src2DAny w A h₀ L m env kx vx x x₁ x₂ iter2 scope cl Fin (.ref D) s₁ := by
  have hdN := N _ hD
  have hnod := isdict_nodup hoD
  obtain ⟨es, ep, q1, q2, q3⟩ := hoD
  have hAt : ∀ h : Heap, h.get? D = some oD → h.DictAt (intKind PR w) D (ll.map LL.kv) ep := fun h e => ⟨oD, es, e, q1, q2, q3⟩
  have hlt := Heap.lt_size hdN.1
  have hlm : (ll.map LL.kv).length = ll.length := List.length_map ..
  have hat : ∀ i, i < ll.length → ∃ e, ll[i]? = some e ∧ e ∈ ll := fun i hi => ⟨ll[i], by simp [hi], List.getElem_mem hi⟩
  have hfl : ∀ i, i ≤ 6 → ((ll.take i).flatMap fun e => (FF e.key).map (triOf e.key)).length ≤ 36 := fun i hi => by
    have e1 := flat_lenK (f := fun e : LL => (FF e.key).map (triOf e.key)) (n := 6) (fun e => by rw [List.length_map]; exact hF6 _) (ll.take i)
    have e2 := List.length_take_le i ll
    omega
  refine ⟨_, _, _, _, _, fun nw => ∀ p ∈ led, p ∈ nw, led, (fun i ts nw => (∀ p ∈ led, p ∈ nw) ∧ ts = toldOf ((ll.take i).flatMap fun e => (FF e.key).map (triOf e.key))),
    (fun i j ts nw => (∀ p ∈ led, p ∈ nw) ∧ i < ll.length ∧ ∃ e, ll[i]? = some e ∧ ts = toldOf (((ll.take i).flatMap fun e => (FF e.key).map (triOf e.key)) ++ ((FF e.key).take j).map (triOf e.key))), (fun i => (ll[i]?.map (·.its)).getD []), (fun i => (ll[i]?.map (·.at')).getD 0), (fun i => (ll[i]?.map (·.n)).getD 0),
    ⟨hh, F, N, fun E Q hq => wpAny_pyIter_dict lo (hAt _ hdN.1) hq, Walks.dictKeys hh _ D (Nat.ne_of_lt hlt) (ll.map LL.kv) ep, fun i h st => ?hIo, fun i h h' o nw st e e' k N' S' => ?hSt, ⟨⟨_, Heap.get?_push_size _ rfl, rfl, rfl⟩, (hAt _ hdN.1).push _⟩, fun b hb => ?hfp, ⟨fun _ h => h, rfl⟩, fun i ts nw h => h.1, fun i ts nw hi h => ?j20, fun i j ts nw h => ?j2S, fun i ts nw hi h => ?j2n, ?outer, ?inner, ?done⟩⟩
  case hIo => obtain ⟨o, e, _⟩ := st.1; exact ⟨o, e⟩
  case hSt => exact ⟨by obtain ⟨o', q, r⟩ := st.1; rw [e] at q; cases q; exact ⟨o, e', r⟩, hAt _ (N' _ (S' _ hD)).1⟩
  case hfp =>
    rw [Heap.size_push]
    rcases List.mem_cons.mp hb with rfl | hb
    · exact Nat.lt_succ_self _
    · rw [List.mem_singleton.mp hb]; exact Nat.lt_succ_of_lt hlt
  case j20 =>
    rw [hlm] at hi
    obtain ⟨e, he, hm⟩ := hat i hi
    refine ⟨⟨h.1, hi, e, he, by rw [List.take_zero, List.map_nil, List.append_nil]; exact h.2⟩, ?_, ?_⟩
    · simp only [he, Option.map_some, Option.getD_some]
      exact h.1 _ (hll e hm)
    · simp only [he, Option.map_some, Option.getD_some]
      have a1 := told_len ((ll.take i).flatMap fun e => (FF e.key).map (triOf e.key)) []
      have a2 := hfl i (by omega)
      have a3 := (hIs e hm).len
      have a4 := hF6 e.key
      rw [h.2]
      unfold toldOf
      simp only [List.length_nil] at a1
      omega
  case j2S =>
    obtain ⟨h1, hi, e, he, h2⟩ := h
    refine ⟨h1, ?_⟩
    simp only [he, Option.map_some, Option.getD_some]
    exact h1 _ (hll e (List.mem_of_getElem? he))
  case j2n =>
    obtain ⟨h1, hi, e, he, h2⟩ := h
    refine ⟨h1, ?_⟩
    simp only [he, Option.map_some, Option.getD_some] at h2
    rw [(hIs e (List.mem_of_getElem? he)).len, List.take_length] at h2
    rw [take_next' he, List.flatMap_append, List.flatMap_cons, List.flatMap_nil, List.append_nil]
    exact h2
  case done =>
    intro g ts nw h
    have h2 := h.2
    rw [hlm, List.take_length] at h2
    rw [h2]
    exact done g nw h.1
  case outer =>
    rintro g i ts nw v hi hJ ⟨k, xx, hk, hv⟩ I C D' oI oC oD' m₂ h tk E' hC hx F N off ne
    obtain ⟨t, rfl⟩ := Value.isInt_shape hv
    rw [hlm] at hi
    obtain ⟨e, he, hm⟩ := hat i hi
    rw [List.getElem?_map, he] at hk
    cases hk
    have := outer g e t nw I C D' oI oC oD' m₂ h tk E' (valueAt_in hnod (List.mem_map.mpr ⟨e, hm, rfl⟩)) hJ.1 hC hx F N off ne
    simp only [he, Option.map_some, Option.getD_some]
    exact this
  case inner =>
    rintro g i j ts nw v u hi ⟨k, xx, hk, hv⟩ ⟨h1, hi2, e, he, h2⟩ hu
    obtain ⟨t, rfl⟩ := Value.isInt_shape hv
    have hm := List.mem_of_getElem? he
    rw [List.getElem?_map, he] at hk
    cases hk
    simp only [he, Option.map_some, Option.getD_some] at hu
    obtain ⟨a, y, b, t1, t2, n, rfl, ha, hy⟩ := (hIs e hm).at hu
    refine ⟨a, _, _, _, _, rfl, h1 _ ha, rfl, rfl, fun I2 I C D' oI2 oI oC oD' m₂ h tk E' hC hx hx1 hx2 F N off oI' ne => ?_⟩
    refine wpAny_mono (inner g e.key y b t t2 t1 nw I2 I C D' oI2 oI oC oD' m₂ h tk E' h1 hC hx hx1 hx2 F N off oI' ne) (fun kv s₆ hq6 => wpAny_mono hq6 (fun vv s₇ hq7 => ?_) fun _ _ e => e) fun _ _ e => e
    obtain ⟨h₆, tk₆, _, T, kx', ky, kb, u1, u2, nT, tb, rfl, rfl, rfl, F₆, N₆, off₆, hT, _, e3, nw', rfl, hoI, hsub⟩ := hq7
    cases e3
    refine ⟨h₆, tk₆, _, T, _, _, _, u1, u2, nT, tb, rfl, rfl, rfl, F₆, N₆, off₆, hT, trivial, nw', rfl, hoI, hsub, fun p hp => hsub p (h1 p hp), hi2, e, he, ?_⟩
    rw [take_next' hy, List.map_append, ← List.append_assoc, h2]
    exact (told_snoc _ (e.key, y, b)).symm
theorem key_nodup {v : NetV} {X : List Tri} (hX : ∀ x y b, (x, y, b) ∈ X ↔ firstOf y (v.G x) = some b) (hnd : X.Nodup) : (X.map fun e => (e.1, e.2.1)).Nodup := by
  rw [List.Nodup, List.pairwise_map]
  refine List.Pairwise.imp_of_mem (fun {a b} ha hb hne e => hne ?_) hnd
  obtain ⟨x, y, c⟩ := a
  obtain ⟨x', y', c'⟩ := b
  simp only [Prod.mk.injEq] at e
  obtain ⟨rfl, rfl⟩ := e
  have h1 := (hX _ _ _).mp ha
  have h2 := (hX _ _ _).mp hb
  rw [h1] at h2
  cases h2
  rfl
theorem told_is {v : NetV} {X : List Tri} (hX : ∀ x y b, (x, y, b) ∈ X ↔ firstOf y (v.G x) = some b) (hnd : X.Nodup) : toldOf X = X.map fun e => ((e.1, e.2.1), e.2.2) := by
  unfold toldOf
  rw [told_map X [] (by simpa using key_nodup hX hnd)]
  rfl
theorem told_bs {v : NetV} {X : List Tri} {bs : Ties} (hX : ∀ x y b, (x, y, b) ∈ X ↔ firstOf y (v.G x) = some b) (hnd : X.Nodup) (hsame : ∀ x y, firstOf y (v.G x) = lookT bs (x, y)) (hk : (bs.map (·.1)).Nodup) : X.length = bs.length := by
  have hm : ∀ e, e ∈ X.map (fun e => (e.1, e.2.1)) ↔ e ∈ bs.map (·.1) := fun ⟨x, y⟩ => by
    constructor
    · intro h
      obtain ⟨⟨x', y', c⟩, h1, h2⟩ := List.mem_map.mp h
      cases h2
      have h3 := (hsame _ _).symm.trans ((hX _ _ _).mp h1)
      exact List.mem_map.mpr ⟨_, (lookT_mem3 hk).mpr h3, rfl⟩
    · intro h
      obtain ⟨⟨k, c⟩, h1, h2⟩ := List.mem_map.mp h
      cases h2
      have h3 := (lookT_mem3 hk).mp h1
      exact List.mem_map.mpr ⟨(x, y, c), (hX _ _ _).mpr ((hsame _ _).trans h3), rfl⟩
  have p := (List.perm_ext_iff_of_nodup (key_nodup hX hnd) hk).mpr hm
  have := p.length_eq
  simpa using this
theorem sum_its {ll : List LL} {f : LL → List Tri} (h : ∀ e ∈ ll, (f e).length = e.its.length) : ((ll.map fun e => ((e.its.length : Nat) : Int)).sum) = ((ll.flatMap f).length : Int) := by
  induction ll with
  | nil => rfl
  | cons e ll ih =>
    rw [List.map_cons, List.sum_cons, List.flatMap_cons, List.length_append, ih fun e he => h e (.tail _ he), h e (.head _)]
    omega
local macro_rules | `(tactic| walk_at "exec Assign cons DictComp") => `(tactic| (k_here; k_dflt (refine' Assign_dictComp_2 (F₀ := by k_asm) ?hb ?hr (by rfl) (by with_unfolding_all rfl) (by with_unfolding_all rfl) (by decide) (by rfl) (by decide) (by rfl) (by rfl) (by rfl) (by decide) (by decide) (by decide) (by rfl) (by rfl) ?_; (case hb => exact Top.nolimit (by k_asm)); (case hr => (show _ < _; simp only [units_deeper, units_caller]; unfold cLine; omega)))))
local macro_rules | `(tactic| walk_at "call ref") => `(tactic| ((with_reducible show wpAny _ _ (call (Value.ref 193) _) _ _ _); (refine stop_here ?_)))
local macro_rules | `(tactic| walk_at "eval ListComp") => `(tactic| (k_here; k_dflt (refine listComp_W (F₀ := by k_asm) (by with_unfolding_all rfl) (by decide) (by rfl) (by decide) (by rfl) ?_)))
local macro_rules | `(tactic| walk_at "call builtin:len") => `(tactic| (k_here; (with_reducible show wpAny _ _ (call (Value.builtin "len") [Value.ref _]) _ _ _); k_dflt (first | (refine' pt_len ?N ?m ?P ?lo ?z ?_; (case N => k_asm); (case m => k_mem); (case P => assumption); (case lo => assumption); (case z => assumption)) | (refine' len_list ?hl ?hf ?_; (case hl => exact News.isList (by k_asm) (by k_mem)); (case hf => (simp only [List.size_toArray]; omega))) | (refine' call_len_dict ?lo (kda_dict (knd := intKind PR _) ?N ?m ?d) ?f ?_; (case N => k_asm); (case m => k_mem); (case d => assumption); (case lo => assumption); (case f => ((try rw [List.length_map]); omega)))); (try dsimp only)))
local macro_rules | `(tactic| walk_at "compareOp Eq ref ref") => `(tactic| refine stop_here ?_)
section
variable {w : World} {A₀ A : Around} {base h₀ : Heap} {outer : List Env} {env : Env} {L : Addr} {m mg mb : Str → Option Value} {p : Program} {loose : List Str} {mean : ExcName → Option Value} {s : Shared} {news cl lb : List (Addr × Obj)} {R : Result → Shared → Prop}
theorem tells_spec {v : NetV} {E : Edges} {ba : Addr} {oB : Obj} {bs : Ties} (B : Below A₀ base outer h₀) (F : Fr h₀ L s.heap m) (X₀ : (hd.heap_39 w.params).In h₀) (N : News h₀ L s.heap news) (T : Top p loose mean mg mb h₀)
    (hA : A.frames = some (env :: outer)) (hf : env.frame = some L) (hke : env.scope.kind = .function) (hroom : A.depth < 700) (hu : A.units < 5000) (hH : A.handled = none)
    (nd : ND news) (I : v.In w news) (O : v.Ok w cl E) (hcl : ∀ p ∈ cl, p ∈ news) (h6 : Six E) (nb : (ba, oB) ∈ news) (PB : PTab w lb oB bs) (hlb : ∀ p ∈ lb, p ∈ news) (lo : (ba == sysModules) = false) (h60 : bs.length ≤ 60)
    (hsame : ∀ x y, firstOf y (v.G x) = lookT bs (x, y))
    (k : ∀ h' tk r', (∀ p ∈ news, p ∈ r') → Fr h₀ L h' m → News h₀ L h' r' → R (.ok (.ret (.bool true))) { s with heap := h', toks := tk }) :
    codeAny (model PR w) A (.call (.ref 239) ⟨[.ref v.self, .ref ba], []⟩) R s := by
  obtain ⟨aH, aD, aF, aG, aU⟩ := A
  dsimp only at hA hroom hH hu
  subst hA hH
  have i1 := I.i1
  have i2 := I.i2
  have i3 := I.i3
  have i4 := I.i4
  refine' code_defC B F X₀ N T rfl hf hke ?k6 ?k7 (Nat.lt_of_lt_of_le hroom (by decide)) ?k9 ?kB ?kD ?_ ?c2 ?c3 ?c4
  case k6 => k_is
  case k7 => k_is
  case k9 => exact BindsTo.of_eq rfl
  case kB => exact rfl
  case kD => decide +kernel
  case c2 => exact rfl
  case c3 => exact rfl
  case c4 => exact rfl
  intro g L' h₁ tk' cells' FG F' N' Y' B' X' T' l1
  have l1' := l1
  (try k_lt l1)
  k_cells Y'
  simp only [List.cons_append, List.nil_append] at N'
  clear B F X₀ N T FG
  change wpAny _ _ _ _ _ _
  k_fold
  k_steps
  unfold Stop
  rename Fr _ _ _ _ => lF
  rename News _ _ _ _ => lN
  refine' wpAny_call (getc_spec (by assumption) lF (by assumption) lN (by assumption) ?hA ?hf ?hke ?hr ?hH (nd_new nd fun p hp => Nat.lt_succ_of_lt (l1' p hp)) (I.mono fun p hp => .tail _ hp) O (fun p hp => .tail _ (hcl p hp)) h6 fun h1 tk1 D1 oD ll r1 hr1 F1 N1 nd1 lo1 hoD hk1 hIs => ?_)
  case hA => exact rfl
  case hf => exact rfl
  case hke => exact rfl
  case hr => simp only [depth_deeper, depth_in1, depth_caller]; omega
  case hH => exact rfl
  clear lF lN
  (try dsimp only)
  have hcm := hr1 _ (.head _)
  obtain ⟨ra, rb, rfl⟩ := List.append_of_mem hcm
  have hrN : ∀ p ∈ news, p ∈ ra ++ rb := fun p hp => by
    rcases List.mem_append.mp (hr1 p (.tail _ hp)) with h | h
    · exact List.mem_append_left _ h
    · cases h with
      | head => exact absurd (l1' _ hp) (by dsimp only; exact Nat.not_lt.mpr (Nat.le_succ _))
      | tail _ h => exact List.mem_append_right _ h
  have N2 := news_mid (l1 := (D1, oD) :: (ll.map LL.ob ++ ra)) (l2 := rb) (by rw [List.cons_append, List.append_assoc]; exact N1)
  have nd2 := nd_mid (l1 := (D1, oD) :: (ll.map LL.ob ++ ra)) (l2 := rb) (by rw [List.cons_append, List.append_assoc]; exact nd1)
  have hIs2 : ∀ e ∈ ll, PrsIn (ra ++ rb) e.its (firstsL [] (v.G e.key)) := fun e he => (hIs e he).skip (by assumption)
  rw [List.cons_append, List.append_assoc] at N2 nd2
  clear hIs N1 nd1 hcm hr1
  generalize ra ++ rb = r1 at *
  have nd3 := nd2
  simp only [nd_c, all_cons] at nd3
  obtain ⟨⟨d1, d2⟩, d3, d4⟩ := nd3
  k_steps
  rename Fr _ _ _ _ => lF
  rename News _ _ _ _ => lN
  have hF6 : ∀ x, (firstsL [] (v.G x)).length ≤ 6 := fun x => by
    have e := nodup_len ((firstsL [] (v.G x)).map (·.1)) [0, 1, 2, 3, 4, 5] (firstsL_nodup _ _) fun y hy => by
      obtain ⟨⟨y', b⟩, h1, h2⟩ := List.mem_map.mp hy
      cases h2
      exact six_in (O.O.within h6 _ (O.O.src x y' b (firstOf_mem ((firstsL_iff _ _ _ _).mp h1).2)).2)
    simpa using e
  have hl6 : ll.length ≤ 6 := by
    have e1 := congrArg List.length hk1
    have e2 := (O.lens h6).1
    have e3 := O.hD.len
    simp only [List.length_map] at e1
    omega
  refine src2D_keys (ll := ll) (oD := oD) (FF := fun k => firstsL [] (v.G k)) rfl lF lN (.tail _ (.head _)) (fun e he => .tail _ (.tail _ (List.mem_append_left _ (List.mem_map.mpr ⟨e, he, rfl⟩)))) lo1 hoD (fun e he => (hIs2 e he).mono fun p hp => .tail _ (.tail _ (List.mem_append_right _ hp))) hl6 hF6 ?outer ?inner ?done
  case outer =>
    rintro g2 e t nw I2 C2 D2 oI oC oD2 m₂ h tk E' hva hs hC hx F N off ne
    clear lF lN
    have b1 := hs _ (.head _)
    have b2 := hs _ (.tail _ (.head _))
    clear hs k
    k_steps
    · exact F
    · exact N
  case inner =>
    rintro g2 key y b t ty tb nw I2 I3 C2 D2 oI2 oI oC oD2 m₂ h tk E' hs hC hx hx1 hx2 F N off oI' ne
    clear lF lN
    clear hs k
    k_steps
    rename Fr _ _ _ _ => lF
    rename News _ _ _ _ => lN
    rename (_ < _ ∧ _ < _ ∧ _ < _ ∧ _ < _ ∧ _) => q
    refine ⟨_, _, (I3, oI) :: (_, tup2 key y t ty 0) :: nw, _, key, y, b, t, ty, 0, tb, rfl, rfl, rfl, lF, fun p hp => lN p ?_, ⟨off.1, ⟨Nat.ne_of_gt q.1, Nat.ne_of_gt q.2.1, Nat.ne_of_gt q.2.2.1⟩, off.2⟩, .head _, trivial, rfl, (_, _) :: nw, rfl, fun p hp => ?_, fun p hp => .tail _ hp⟩
    · simp only [List.mem_cons] at hp ⊢
      rcases hp with h | h | h | h | h | h
      · exact .inr (.inl h)
      · exact .inr (.inr (.inl h))
      · exact .inr (.inr (.inr (.inl h)))
      · exact .inr (.inr (.inr (.inr (.inl h))))
      · exact .inl h
      · exact .inr (.inr (.inr (.inr (.inr h))))
    · rcases List.mem_cons.mp hp with rfl | hp
      · exact Nat.ne_of_gt q.2.2.2.1
      · exact oI' p hp
  case done =>
    rintro g2 nw hs
    unfold FinPA
    intro D3 oT h3 tk3 F3 N3 P3 o1 lo3
    clear lF lN
    have b1 := hs _ (.head _)
    have b2 := hs _ (.tail _ (.head _))
    have hsL : ∀ p ∈ ll.map LL.ob ++ r1, p ∈ nw := fun p hp => hs _ (.tail _ (.tail _ hp))
    have b3 := hs _ (.tail _ (.tail _ (List.mem_append_right _ (hrN _ nb))))
    have c1 := hs _ (.tail _ (.tail _ (List.mem_append_right _ (hrN _ i1))))
    have c2 := hs _ (.tail _ (.tail _ (List.mem_append_right _ (hrN _ i2))))
    have c3 := hs _ (.tail _ (.tail _ (List.mem_append_right _ (hrN _ i3))))
    k_steps
    unfold Stop
    rename Fr _ _ _ _ => lF
    rename News _ _ _ _ => lN
    have hX : ∀ x y b, (x, y, b) ∈ (ll.flatMap fun e => (firstsL [] (v.G e.key)).map (triOf e.key)) ↔ firstOf y (v.G x) = some b := fun x y b => by
      refine (tri_mem (FF := fun k => firstsL [] (v.G k))).trans ?_
      rw [hk1]
      rw [firstsL_iff]
      exact ⟨fun h => h.2.2, fun h => ⟨(O.O.src x y b (firstOf_mem h)).1, List.not_mem_nil, h⟩⟩
    have hnd := tri_nodup (FF := fun k => firstsL [] (v.G k)) (fun k => firstsL_nodup _ _) (hk1 ▸ O.O.nd)
    have h36 := flat_lenK (f := fun e : LL => (firstsL [] (v.G e.key)).map (triOf e.key)) (n := 6) (fun e => by rw [List.length_map]; exact hF6 _) ll
    have hsum : ((ll.map fun e => ((e.its.length : Nat) : Int)).sum) = ((ll.flatMap fun e => (firstsL [] (v.G e.key)).map (triOf e.key)).length : Int) := sum_its fun e he => by rw [List.length_map, (hIs2 e he).len]
    generalize (ll.flatMap fun e => (firstsL [] (v.G e.key)).map (triOf e.key)) = X at *
    have htold := told_is hX hnd
    have hbl : X.length = bs.length := told_bs hX hnd hsame PB.keys3
    refine pt_eqT lN (by k_mem) (by k_mem) P3 PB (fun p hp => .tail _ hp) (fun p hp => .tail _ (hs _ (.tail _ (.tail _ (List.mem_append_right _ (hrN _ (hlb p hp))))))) lo3 lo (by rw [htold, List.length_map, hbl]) (fun k hk => ?_) (by simp only [units_deeper, units_caller]; unfold cLine; omega) fun tk5 => ?_
    · rw [htold] at hk
      obtain ⟨⟨x, y, b⟩, h1, rfl⟩ := List.mem_map.mp hk
      exact (hsame x y).symm.trans ((hX x y b).mp h1)
    (try dsimp only)
    k_steps
    clear hs
    rename Fr _ _ _ _ => lF
    rename News _ _ _ _ => lN
    have hll : ∀ e ∈ ll, (e.at', listOf e.its.toArray e.n) ∈ nw := fun e he => hsL _ (List.mem_append_left _ (List.mem_map.mpr ⟨e, he, rfl⟩))
    refine src_keys (knd := intKind PR w) (kvs := ll.map LL.kv) (od := oD) (fun q => ∀ p ∈ (D3, oT) :: nw, p ∈ q) rfl lF lN (fun q h => h _ (.tail _ b2)) (fun _ h => h) lo1 hoD (by rw [List.length_map, sizeLine_eq]; omega) fun g4 => compRest_inv (fun i ys q => (∀ p ∈ (D3, oT) :: nw, p ∈ q) ∧ IntsAre ys ((ll.take i).map fun e => ((e.its.length : Nat) : Int))) ?turn4 ?done4 _ 0 [] _ (Nat.zero_add _) ⟨(fun _ h => h), .nil⟩
    case turn4 =>
      rintro i ys q vk I4 oI4 C4 oC4 D4 m4 h4 tk4 E4 hi ⟨hq, hys⟩ ⟨kk, xx, hkk, hvk⟩ hC4 hx4 F4 N4 off4 ne4
      obtain ⟨t4, rfl⟩ := Value.isInt_shape hvk
      rw [List.getElem?_map, Option.map_eq_some_iff] at hkk
      obtain ⟨e, he, hek⟩ := hkk
      cases hek
      have hem := List.mem_of_getElem? he
      have hva := valueAt_in (isdict_nodup hoD) (List.mem_map.mpr ⟨e, hem, rfl⟩)
      have g1 := hq _ (.tail _ b1)
      have g2 := hq _ (.tail _ b2)
      have g3 := hq _ (.tail _ (hll e hem))
      have hel : e.its.length ≤ 6 := by rw [(hIs2 e hem).len]; exact hF6 _
      clear lF lN k
      k_steps
      rename Fr _ _ _ _ => lF
      rename News _ _ _ _ => lN
      refine LCg.CompEnd.intro lF lN q (fun p hp => hp) off4 hq ⟨hq, ?_⟩
      rw [take_next' he, List.map_append]
      exact ints_snoc hys _ _
    case done4 =>
      rintro ys q ⟨hq, hys⟩
      rw [List.length_map, List.take_length] at hys
      unfold LCg.FinE
      intro D4 h4 tk4 F4 N4 o4
      clear lF lN
      have c1 := hq _ (.tail _ c1)
      have c2 := hq _ (.tail _ c2)
      have c3 := hq _ (.tail _ c3)
      have b1 := hq _ (.tail _ b1)
      have b2 := hq _ (.tail _ b2)
      have b3 := hq _ (.tail _ b3)
      have hsb : (ll.map fun e => ((e.its.length : Nat) : Int)).sum = (bs.length : Int) := by rw [hsum, hbl]
      have hlenE : ll.length = v.dv.length := by
        have e1 := congrArg List.length hk1
        rw [List.length_map] at e1
        rw [e1, O.hD.len]
      have hod := O.hod
      have lo1' := O.lo1
      have hdv := (O.lens h6).1
      k_steps
      · rename Fr _ _ _ _ => lF
        rename News _ _ _ _ => lN
        rw [List.length_map, hlenE, beq_self_eq_true]
        refine' leaveK_ ?k1 ?k2 ?_; (case k1 => k_asm); (case k2 => k_asm)
        intro kF kN
        exact k _ _ _ (fun p hp => .tail _ (hq _ (.tail _ (hsL _ (List.mem_append_right _ (hrN _ hp)))))) kF kN
      · exact absurd hsb (by assumption)
end

end
section -- CellComp
open PySem PySem.W PyProof.Rows PySem.Calls
set_option maxRecDepth 100000
set_option maxHeartbeats 4000000
open PyProof.Rows.LCg
section
variable {prog : Program} {w : World} {A : Around} {E : Value → Shared → Prop} {s : Shared} {h₀ : Heap} {L : Addr} {m : Str → Option Value} {env : Env}
/-- what one turn of a comprehension over triples does, its first name a cell -/
def TripOk (prog : Program) (w : World) (A : Around) (h₀ : Heap) (L : Addr) (m : Str → Option Value) (env : Env) (elt : Expr) (scope : Scope) (x y z : Str) (news : List (Addr × Obj)) (v : Value) : Prop :=
  ∃ (t : Addr) (ot : Obj) (v₁ v₂ v₃ : Value) (nt : Nat), v = .ref t ∧ (t, ot) ∈ news ∧ ot.cls = .type "tuple" ∧ ot.data = .seq #[v₁, v₂, v₃] nt ∧
    ∀ (C K : Addr) (oC oK : Obj) (m₂ : Str → Option Value) (G : List (Addr × Obj)) (s : Shared) (E' : Value → Shared → Prop), NsObj oC m₂ → m₂ y = some v₂ → m₂ z = some v₃ → oK.data = .cell (some v₁) → Fr h₀ L s.heap m → News h₀ L s.heap G → (G.map (·.1)).Nodup → (C, oC) ∈ G → (K, oK) ∈ G → (∀ q ∈ news, q ∈ G) →
      wpAny (model prog w) A (eval elt (compEnvC scope [(x, K)] C env)) (fun b s' => b = .bool true ∧ ∃ h' tk', s' = { s with heap := h', toks := tk' } ∧ Fr h₀ L h' m ∧ News h₀ L h' G) E' s
theorem cell_start {e : Expr} {scope : Scope} {x : Str} {s₂ : Shared} {I : Addr} {fp : List Addr} {news : List (Addr × Obj)} {RR : Value → Addr → Result → Shared → Prop}
    (hcf : ∀ n, cellsFrom n scope.names [] = [(x, n)]) (hpc : ∀ h, pushCells h scope.names = h.push { cls := .type "cell", data := .cell none }) (hfp : ∀ b ∈ fp, b < s₂.heap.objs.size) (hIf : I ∈ fp)
    (F : Fr h₀ L s₂.heap m) (N : News h₀ L s₂.heap news) (off : ∀ p ∈ news, p.1 ≠ I)
    (k : ∀ C D K h₁ tk mC, Fr h₀ L h₁ m → News h₀ L h₁ ((K, ({ cls := .type "cell", data := .cell none } : Obj)) :: (D, lst []) :: news) → h₁.Ns C mC → (∀ b o, s₂.heap.get? b = some o → h₁.get? b = some o) → C ≠ L → h₀.get? C = none → @Ne Nat I C → @Ne Nat I D → @Ne Nat C D → @Ne Nat I K → @Ne Nat C K → @Ne Nat D K → C ∉ fp → D ∉ fp → K ∉ fp → Off3 I C D news → (∀ p ∈ news, p.1 ≠ K) →
      codeAny (model prog w) A (.compStart e 0 (.ref I) (.ref D) (compEnvC scope [(x, K)] C env)) (RR (.ref D) C) { s₂ with heap := h₁, toks := tk }) :
    wpAny (model prog w) A (newList []) (fun acc s₃ => wpAny (model prog w) A (newFunctionEnv scope env.globals [] [] env.qual none .none (some env)) (fun cenv s₄ =>
      codeAny (model prog w) A (.compStart e 0 (.ref I) acc { cenv with scope := relabel scope env }) (RR acc cenv.locals) s₄) E s₃) E s₂ := by
  refine wpAny_newObj_type ?_
  generalize hH2 : s₂.heap.push { cls := .type "list", dict := none, data := .seq ([] : List Value).toArray } = H2
  simp only [newFunctionEnv, Option.isSome_some, if_true]
  refine wpAny_bind (wpAny_alloc ?_)
  refine wpAny_bind (wpAny_layCells _ (fun name kind cells => by cases hkc : kind == NameKind.cell <;> simp [hkc]) _ _ _ _ ?_)
  dsimp only
  simp only [List.forIn_nil]
  refine wpAny_bind (wpAny_pure ?_)
  refine wpAny_pure ?_
  rw [hcf, hpc]
  have hC : H2.objs.size = s₂.heap.objs.size + 1 := by rw [← hH2, Heap.size_push]
  have hKs : (H2.push { cls := .type "dict", data := .dict #[] }).objs.size = s₂.heap.objs.size + 1 + 1 := by rw [Heap.size_push, hC]
  generalize hH3 : H2.push { cls := .type "dict", data := .dict #[] } = H3 at hKs ⊢
  have up3 : ∀ b o, H2.get? b = some o → H3.get? b = some o := fun b o e => hH3 ▸ Heap.get?_push_of_some _ e
  generalize hH4 : H3.push { cls := .type "cell", data := .cell none } = H4
  have up4 : ∀ b o, H3.get? b = some o → H4.get? b = some o := fun b o e => hH4 ▸ Heap.get?_push_of_some _ e
  have old : ∀ b o, s₂.heap.get? b = some o → H4.get? b = some o := fun b o e => up4 _ _ (up3 _ _ (hH2 ▸ Heap.get?_push_of_some _ e))
  have hacc : H4.get? s₂.heap.objs.size = some (lst []) := up4 _ _ (up3 _ _ (hH2 ▸ Heap.get?_push_size _ rfl))
  have hnsC : H4.Ns H2.objs.size fun _ => none := by
    have h1 : H3.Ns H2.objs.size fun _ => none := hH3 ▸ Heap.Ns.new H2 (.type "dict")
    exact h1.keeps up4
  have hcK : H4.get? H3.objs.size = some { cls := .type "cell", data := .cell none } := hH4 ▸ Heap.get?_push_size _ rfl
  have below : ∀ b, b < s₂.heap.objs.size → b ≠ H2.objs.size ∧ b ≠ s₂.heap.objs.size ∧ b ≠ H3.objs.size := fun b hb => ⟨by rw [hC]; exact Nat.ne_of_lt (Nat.lt_succ_of_lt hb), Nat.ne_of_lt hb, by rw [hKs]; exact Nat.ne_of_lt (Nat.lt_succ_of_lt (Nat.lt_succ_of_lt hb))⟩
  have fresh : ∀ a, s₂.heap.objs.size ≤ a → s₂.heap.get? a = none := fun a ha => by
    cases e : s₂.heap.get? a with
    | none => rfl
    | some o' => exact absurd (Heap.lt_size e) (Nat.not_lt.mpr ha)
  have fresh₀ : ∀ a, s₂.heap.objs.size ≤ a → h₀.get? a = none := fun a ha => by
    cases e : h₀.get? a with
    | none => rfl
    | some o' => have := F.keep a o' e; rw [fresh a ha] at this; cases this
  have hLlt : L < s₂.heap.objs.size := F.ns.lt
  have hIlt : I < s₂.heap.objs.size := hfp I hIf
  have nf : ∀ a, s₂.heap.objs.size ≤ a → a ∉ fp := fun a ha hm => absurd (hfp _ hm) (Nat.not_lt.mpr ha)
  have cle : s₂.heap.objs.size ≤ H2.objs.size := by rw [hC]; exact Nat.le_succ _
  have kle : s₂.heap.objs.size ≤ H3.objs.size := by rw [hKs]; exact Nat.le_succ_of_le (Nat.le_succ _)
  refine k H2.objs.size s₂.heap.objs.size H3.objs.size H4 s₂.toks (fun _ => none) (F.keeps old) (fun p hp => ?_) hnsC old (Ne.symm (below L hLlt).1) (fresh₀ _ cle) (below I hIlt).1 (below I hIlt).2.1 (by rw [hC]; exact Nat.succ_ne_self _) (below I hIlt).2.2 (by rw [hC, hKs]; exact (Nat.succ_ne_self _).symm) (by rw [hKs]; exact Nat.ne_of_lt (Nat.lt_succ_of_lt (Nat.lt_succ_self _))) (nf _ cle) (nf _ (Nat.le_refl _)) (nf _ kle)
    (Off3.of fun p hp => ⟨off p hp, (below _ (Heap.lt_size (N p hp).1)).1, (below _ (Heap.lt_size (N p hp).1)).2.1⟩) (fun p hp => (below _ (Heap.lt_size (N p hp).1)).2.2)
  rcases List.mem_cons.mp hp with rfl | hp
  · exact ⟨hcK, Ne.symm (below L hLlt).2.2, fresh₀ _ kle⟩
  · rcases List.mem_cons.mp hp with rfl | hp
    · exact ⟨hacc, Ne.symm (below L hLlt).2.1, fresh₀ _ (Nat.le_refl _)⟩
    · exact ⟨old _ _ (N p hp).1, (N p hp).2⟩
theorem loopT {elt iter : Expr} {x y z : Str} {px py pz tp : Pos} {tk1 : Nat} {scope : Scope} {pos : Pos} {s₂ : Shared} {I C D K : Addr} {fp : List Addr} {n : Nat} {P : Nat → Value → Prop} {St : Nat → Heap → Prop} {news : List (Addr × Obj)} {mC : Str → Option Value}
    {R : Result → Shared → Prop} (W : Walks prog w A I fp [I] n P St) (hsz : n ≤ sizeLine) (hIo : ∀ i h, St i h → ∃ o, h.get? I = some o)
    (hgo : ∀ i (s : Shared) (T : Addr) (Q : Unit → Shared → Prop) (E : Value → Shared → Prop), St i s.heap → Q () s → wpAny (model prog w) A (letOwnedTupleGo (.Tuple [.Name x px, .Name y py, .Name z pz] tk1 tp) (.ref I) (.ref T)) Q E s)
    (hSt : ∀ i h h' o, St i h → h.get? I = some o → h'.get? I = some o → News h₀ L h' news → St i h')
    (hkind : scope.kind = .function) (hx : (relabel scope env).names.lookup x = some .cell) (hy : scope.names.lookup y = some .local) (hz : scope.names.lookup z = some .local) (hyz : y ≠ z) (hh : A.handled = none) (hst : St 0 s₂.heap)
    (F : Fr h₀ L s₂.heap m) (N : News h₀ L s₂.heap ((K, ({ cls := .type "cell", data := .cell none } : Obj)) :: (D, lst []) :: news)) (hn : s₂.heap.Ns C mC) (hIL : L ≠ I) (hI₀ : h₀.get? I = none) (hCL : C ≠ L) (hC₀ : h₀.get? C = none) (hCI : @Ne Nat I C) (hDI : @Ne Nat I D) (hCD : @Ne Nat C D) (hIK : @Ne Nat I K) (hCK : @Ne Nat C K) (hDK : @Ne Nat D K) (hCf : C ∉ fp) (hDf : D ∉ fp) (hKf : K ∉ fp) (off : Off3 I C D news) (offK : ∀ p ∈ news, p.1 ≠ K) (nd : (news.map (·.1)).Nodup)
    (turn : ∀ i v, i < n → P i v → TripOk prog w A h₀ L m env elt scope x y z news v)
    (done : ∀ h tk m', Fr h₀ L h m → News h₀ L h ((D, lst (List.replicate n (.bool true))) :: news) → h.Ns C m' → R (.ok .next) { s₂ with heap := h, toks := tk }) :
    codeAny (model prog w) A (.compLoop (.ListComp elt [⟨.Tuple [.Name x px, .Name y py, .Name z pz] tk1 tp, iter, [], 0⟩] scope pos) 0 (.ref I) (.ref D) (compEnvC scope [(x, K)] C env)) R s₂ := by
  have hDL : D ≠ L := (N _ (.tail _ (.head _))).2.1
  have hD₀ : h₀.get? D = none := (N _ (.tail _ (.head _))).2.2
  have hKL : K ≠ L := (N _ (.head _)).2.1
  have hK₀ : h₀.get? K = none := (N _ (.head _)).2.2
  have off3 := off.mem
  refine compLoop_last
    (fun k s' => ∃ h' tk i oK c m', s' = { s₂ with heap := h', toks := tk } ∧ i ≤ n ∧ k = n + 1 - i ∧ St i h' ∧ Fr h₀ L h' m ∧ h'.Ns C m' ∧ oK.data = .cell c ∧ News h₀ L h' ((K, oK) :: (D, lst (List.replicate i (.bool true))) :: news)) rfl ?_ (n + 1)
    ⟨s₂.heap, _, 0, _, none, mC, rfl, Nat.zero_le _, rfl, hst, F, hn, rfl, N⟩
  rintro k s' ⟨h', tk, i, oK, c, m', rfl, hi, rfl, hst', F', hn', hc', N'⟩
  by_cases hlt : i < n
  · refine W.item i _ _ _ hlt hst' fun v h₂ tk₂ hPv hst₂ hk₂ => ?_
    obtain ⟨t, ot, v₁, v₂, v₃, nt, rfl, hmt, hct, hdt, R''⟩ := turn i v hlt hPv
    have N₂ : News h₀ L h₂ ((K, oK) :: (D, lst (List.replicate i (.bool true))) :: news) := news_but N' hk₂ fun p hp => by
      rcases List.mem_cons.mp hp with rfl | hp
      · exact Ne.symm hIK
      · rcases List.mem_cons.mp hp with rfl | hp
        · exact Ne.symm hDI
        · exact (off3 p hp).1
    have ht : IsTup h₂ t #[v₁, v₂, v₃] := ⟨ot, (N₂ _ (.tail _ (.tail _ hmt))).1, hct, nt, hdt⟩
    refine hgo _ _ _ _ _ hst₂ ?_
    refine assign_Tuple_tuple hh ht rfl rfl fun h₅ he => ?_
    have he' : ∀ b o, h₂.get? b = some o → h₅.get? b = some o := fun b o e => he b o (Nat.ne_of_lt (Heap.lt_size e)) e
    have hn₅ := (hn'.at' fun o e => hk₂ _ o (by simpa using Ne.symm hCI) e).at' fun o e => he' _ o e
    have hcell : h₅.IsCell K c := ⟨oK, he' _ _ (N₂ _ (.head _)).1, hc'⟩
    refine assignInOrder_cons (wpAny_assign_Name (wpAny_storeName_cell (by simp [compEnvC, relabel, hkind]) hx (by simp [compEnvC]) hcell fun h₆ hc₆ hs₆ => ?_))
    have hn₆ : h₆.Ns C m' := hn₅.at' fun o e => hs₆.extBut _ _ hCK e
    refine assignInOrder_cons (wpAny_assign_Name (wpAny_storeName_local (lookup_relabel_local hy) hn₆ (fun h₇ hn₇ hs₇ => ?_) (by simp [compEnvC, relabel, hkind])))
    refine assignInOrder_cons (wpAny_assign_Name (wpAny_storeName_local (lookup_relabel_local hz) hn₇ (fun h₃ hn₃ hs₃ => ?_) (by simp [compEnvC, relabel, hkind])))
    refine assignInOrder_nil ?_
    have old3 : ∀ b o, b ≠ C → b ≠ K → h₂.get? b = some o → h₃.get? b = some o := fun b o hb hb' e => hs₃.extBut b o hb (hs₇.extBut b o hb (hs₆.extBut b o hb' (he' b o e)))
    have hst₃ : St (i + 1) h₃ := W.frame _ _ _ hst₂ fun b hb o e => old3 b o (fun q => hCf (by rw [← q]; exact hb)) (fun q => hKf (by rw [← q]; exact hb)) e
    obtain ⟨oI, heI⟩ := hIo _ _ hst₃
    obtain ⟨oC, heC, hoC⟩ := ns_obj hn₃
    have hc₃ : h₃.IsCell K (some v₁) := (hc₆.sameBut hs₇ (Ne.symm hCK)).sameBut hs₃ (Ne.symm hCK)
    obtain ⟨oK₃, heK, hdK⟩ := hc₃
    have F₃ : Fr h₀ L h₃ m := ((((fr_but F' hk₂ hIL hI₀).keeps he').change hs₆ hKL hK₀).change hs₇ hCL hC₀).change hs₃ hCL hC₀
    have N₃ : News h₀ L h₃ ((I, oI) :: (C, oC) :: (K, oK₃) :: (D, lst (List.replicate i (.bool true))) :: news) := fun p hp => by
      rcases List.mem_cons.mp hp with rfl | hp
      · exact ⟨heI, Ne.symm hIL, hI₀⟩
      · rcases List.mem_cons.mp hp with rfl | hp
        · exact ⟨heC, hCL, hC₀⟩
        · rcases List.mem_cons.mp hp with rfl | hp
          · exact ⟨heK, hKL, hK₀⟩
          · have z := N₂ p (.tail _ hp)
            refine ⟨old3 _ _ ?_ ?_ z.1, z.2⟩
            · rcases List.mem_cons.mp hp with rfl | hp
              · exact Ne.symm hCD
              · exact (off3 p hp).2.1
            · rcases List.mem_cons.mp hp with rfl | hp
              · exact hDK
              · exact offK p hp
    have nd₃ : (((I, oI) :: (C, oC) :: (K, oK₃) :: (D, lst (List.replicate i (.bool true))) :: news).map (·.1)).Nodup := by
      refine nd_cons.mpr ⟨fun q hq => ?_, nd_cons.mpr ⟨fun q hq => ?_, nd_cons.mpr ⟨fun q hq => ?_, nd_cons.mpr ⟨fun q hq => (off3 q hq).2.2, nd⟩⟩⟩⟩
      · rcases List.mem_cons.mp hq with rfl | hq
        · exact Ne.symm hCI
        · rcases List.mem_cons.mp hq with rfl | hq
          · exact Ne.symm hIK
          · rcases List.mem_cons.mp hq with rfl | hq
            · exact Ne.symm hDI
            · exact (off3 q hq).1
      · rcases List.mem_cons.mp hq with rfl | hq
        · exact Ne.symm hCK
        · rcases List.mem_cons.mp hq with rfl | hq
          · exact Ne.symm hCD
          · exact (off3 q hq).2.1
      · rcases List.mem_cons.mp hq with rfl | hq
        · exact hDK
        · exact offK q hq
    refine wpAny_mono (R'' C K oC oK₃ _ _ _ _ hoC (by simp [hyz]) (by simp) hdK F₃ N₃ nd₃ (.tail _ (.head _)) (.tail _ (.tail _ (.head _))) fun q hq => .tail _ (.tail _ (.tail _ (.tail _ hq)))) (fun b s₄ h₄ => ?_) fun _ _ e => e
    obtain ⟨rfl, h₄, tk₄, rfl, F₄, N₄⟩ := h₄
    have zI := (N₄ (I, oI) (.head _)).1
    have zC := (N₄ (C, oC) (.tail _ (.head _))).1
    have zK := (N₄ (K, oK₃) (.tail _ (.tail _ (.head _))))
    have zD := (N₄ (D, lst (List.replicate i (.bool true))) (.tail _ (.tail _ (.tail _ (.head _))))).1
    have N₄' : News h₀ L h₄ news := fun p hp => N₄ p (.tail _ (.tail _ (.tail _ (.tail _ hp))))
    have hst₄ : St (i + 1) h₄ := hSt _ _ _ _ hst₃ heI zI N₄'
    refine append_at (hsz := by show (List.replicate i (Value.bool true)).toArray.size ≤ sizeLine; rw [List.size_toArray, List.length_replicate]; omega) zD fun h₈ hs₈ hD₈ => ?_
    refine ⟨n + 1 - (i + 1), by omega, h₈, tk₄, i + 1, oK₃, some v₁, _, rfl, hlt, rfl, W.frame _ _ _ hst₄ fun b hb o e => hs₈.extBut b o (fun q => hDf (q ▸ hb)) e, F₄.change hs₈ hDL hD₀,
      (hoC.ns zC).sameBut hs₈ hCD, hdK, fun p hp => ?_⟩
    rcases List.mem_cons.mp hp with rfl | hp
    · exact ⟨hs₈.extBut _ _ (Ne.symm hDK) zK.1, zK.2⟩
    · rcases List.mem_cons.mp hp with rfl | hp
      · refine ⟨hD₈.trans ?_, hDL, hD₀⟩
        rw [List.replicate_succ']
        exact congrArg some (lst_snoc _ _)
      · exact ⟨hs₈.extBut _ _ (off3 p hp).2.2 (N₄' p hp).1, (N₄' p hp).2⟩
  · obtain rfl : i = n := Nat.le_antisymm hi (Nat.not_lt.mp hlt)
    refine W.done _ _ _ hst' fun h₂ tk₂ hk₂ => ?_
    refine done h₂ tk₂ _ (fr_but F' hk₂ hIL hI₀) (news_but (News.perm N' fun p hp => .tail _ hp) hk₂ fun p hp => ?_) (hn'.at' fun o e => hk₂ _ o (by simpa using Ne.symm hCI) e)
    rcases List.mem_cons.mp hp with rfl | hp
    · exact Ne.symm hDI
    · exact (off3 p hp).1
def TripSrc (prog : Program) (w : World) (A : Around) (h₀ : Heap) (L : Addr) (m : Str → Option Value) (env : Env) (elt : Expr) (scope : Scope) (x y z : Str) (Q : Value → Shared → Prop) (xv : Value) (s₁ : Shared) : Prop :=
  ∃ (ax : Addr) (vs : List Value) (n : Nat) (news : List (Addr × Obj)), xv = .ref ax ∧ A.handled = none ∧ Fr h₀ L s₁.heap m ∧ News h₀ L s₁.heap news ∧ (news.map (·.1)).Nodup ∧ (ax, listOf vs.toArray n) ∈ news ∧ vs.length ≤ 100 ∧
      (∀ v ∈ vs, TripOk prog w A h₀ L m env elt scope x y z news v) ∧
      ∀ D h tk, Fr h₀ L h m → News h₀ L h ((D, lst (List.replicate vs.length (.bool true))) :: news) → Q (.ref D) { s₁ with heap := h, toks := tk }
/-- a list comprehension over a list of triples; the first name is a cell, every element comes out True -/
theorem listComp_T {elt iter : Expr} {x y z : Str} {px py pz tp : Pos} {tk1 : Nat} {scope : Scope} {pos : Pos} {Q : Value → Shared → Prop} (F₀ : Fr h₀ L s.heap m)
    (hclos : closureFor scope env = pure []) (hcf : ∀ n, cellsFrom n scope.names [] = [(x, n)]) (hpc : ∀ h, pushCells h scope.names = h.push { cls := .type "cell", data := .cell none }) (hkind : scope.kind = .function)
    (hnames : ∀ y ∈ scope.names, y.2 = .local → scope.names.lookup y.1 = some .local) (hx : (relabel scope env).names.lookup x = some .cell) (hy : scope.names.lookup y = some .local) (hz : scope.names.lookup z = some .local) (hyz : y ≠ z)
    (h : wpAny (model prog w) A (eval iter env) (TripSrc prog w A h₀ L m env elt scope x y z Q) E s)
    (hs : ∀ x, foldedSetIterable iter env x = pure x := by intro _; rfl) :
    wpAny (model prog w) A (eval (.ListComp elt [⟨.Tuple [.Name x px, .Name y py, .Name z pz] tk1 tp, iter, [], 0⟩] scope pos) env) Q E s := by
  rw [eval_ListComp]
  refine wpAny_comprehension_free (use := none) rfl hs hclos hkind hnames (wpAny_mono h (fun xv s₁ h₁ => ?_) fun _ _ e => e)
  obtain ⟨ax, vs, nn, news, rfl, hh, F, N, nd, hm, hlen, hall, hfin⟩ := h₁
  have hl : s₁.heap.IsList ax vs.toArray := News.isList N hm
  have hlt : ax < s₁.heap.objs.size := Heap.lt_size (N _ hm).1
  refine wpAny_pyIter_list hl ?_
  have up : ∀ b o, s₁.heap.get? b = some o → (s₁.heap.push { cls := .type "list_iterator", data := .fields #[.ref ax, .int 0 0] }).get? b = some o := fun b o e => Heap.get?_push_of_some _ e
  have W := Walks.list (prog := prog) (w := w) hh s₁.heap.objs.size ax (Nat.ne_of_lt hlt) vs.toArray
  have st0 : (s₁.heap.push { cls := .type "list_iterator", data := .fields #[.ref ax, .int 0 0] }).IsListIter s₁.heap.objs.size ax 0 ∧ (s₁.heap.push { cls := .type "list_iterator", data := .fields #[.ref ax, .int 0 0] }).IsList ax vs.toArray := ⟨⟨_, Heap.get?_push_size _ rfl, rfl, rfl⟩, hl.push _⟩
  refine cell_start hcf hpc (fp := [s₁.heap.objs.size, ax]) (fun b hb => ?_) (.head _) (F.keeps up) (N.grown up) (fun p hp => Nat.ne_of_lt (Heap.lt_size (N p hp).1)) fun C D K h₁ tk mC F₁ N₁ hn₁ old hCL hC₀ hCI hDI hCD hIK hCK hDK hCf hDf hKf off offK => ?_
  · show b < (s₁.heap.push _).objs.size
    rw [Heap.size_push]
    rcases List.mem_cons.mp hb with rfl | hb
    · exact Nat.lt_succ_self _
    · rw [List.mem_singleton.mp hb]; exact Nat.lt_succ_of_lt hlt
  have loop : ∀ s₃ : Shared, s₃ = { s₁ with heap := h₁, toks := tk } → codeAny (model prog w) A (.compLoop (.ListComp elt [⟨.Tuple [.Name x px, .Name y py, .Name z pz] tk1 tp, iter, [], 0⟩] scope pos) 0 (.ref s₁.heap.objs.size) (.ref D) (compEnvC scope [(x, K)] C env))
      (compPost (model prog w) A E none Q (.ref D) C) s₃ := by
    rintro s₃ rfl
    refine loopT (mC := mC) W (by rw [List.size_toArray, sizeLine_eq]; omega) (fun i h st => by obtain ⟨o, e, _⟩ := st.1; exact ⟨o, e⟩) (fun i s T Q E st q => letGo_listiter st.1 q) (fun i h h' o st e e' N' => ⟨by obtain ⟨o', q, r⟩ := st.1; rw [e] at q; cases q; exact ⟨o, e', r⟩, News.isList N' hm⟩) hkind hx hy hz hyz hh (W.frame _ _ _ st0 fun b _ o e => old b o e) F₁ N₁ hn₁ (Nat.ne_of_lt F.ns.lt) (next_is_new F) hCL hC₀ hCI hDI hCD hIK hCK hDK hCf hDf hKf off offK nd (fun i v hi hP => hall v ?_) ?_
    · have hP' : vs.toArray[i]? = some v := hP
      rw [List.getElem?_toArray] at hP'
      exact List.mem_of_getElem? hP'
    · intro h tk m' F' N' hn'
      refine ⟨m', hn', fun h'' hs'' => ?_⟩
      rw [List.size_toArray] at N'
      refine hfin D h'' tk (F'.change hs'' hCL hC₀) fun p hp => ?_
      refine ⟨hs''.extBut _ _ ?_ (N' p hp).1, (N' p hp).2⟩
      rcases List.mem_cons.mp hp with rfl | hp
      · exact Ne.symm hCD
      · exact (off.mem p hp).2.1
  exact codeAny_compStart_list (loop _ rfl) (W.self 0 _ _ _ (W.frame _ _ _ st0 fun b _ o e => old b o e) (loop _ rfl))
end

end
section -- Ret3
open PySem PySem.W PyProof.Rows PySem.Calls
set_option maxRecDepth 100000
set_option maxHeartbeats 8000000
local macro_rules | `(tactic| walk_at "no such line") => `(tactic| skip)
local macro_rules | `(tactic| walk_at "no such line") => `(tactic| skip)
local macro_rules | `(tactic| walk_at "no such line") => `(tactic| skip)
local macro_rules | `(tactic| walk_at "no such line") => `(tactic| skip)
local macro_rules | `(tactic| walk_at "no such line") => `(tactic| skip)
local macro_rules | `(tactic| walk_at "no such line") => `(tactic| skip)
local macro_rules | `(tactic| walk_at "no such line") => `(tactic| skip)
local macro_rules | `(tactic| walk_at "no such line") => `(tactic| skip)
local macro_rules | `(tactic| walk_at "no such line") => `(tactic| skip)
local macro_rules | `(tactic| walk_at "no such line") => `(tactic| skip)
local macro_rules | `(tactic| walk_at "no such line") => `(tactic| skip)
local macro_rules | `(tactic| walk_at "no such line") => `(tactic| skip)
local macro_rules | `(tactic| walk_at "no such line") => `(tactic| skip)
local macro_rules | `(tactic| walk_at "no such line") => `(tactic| skip)
local macro_rules | `(tactic| walk_at "no such line") => `(tactic| skip)
local macro_rules | `(tactic| walk_at "no such line") => `(tactic| skip)
local macro_rules | `(tactic| walk_at "no such line") => `(tactic| skip)
local macro_rules | `(tactic| walk_at "no such line") => `(tactic| skip)
local macro_rules | `(tactic| walk_at "no such line") => `(tactic| skip)
local macro_rules | `(tactic| walk_at "no such line") => `(tactic| skip)
local macro_rules | `(tactic| walk_at "no such line") => `(tactic| skip)
local macro_rules | `(tactic| walk_at "no such line") => `(tactic| skip)
local macro_rules | `(tactic| walk_at "no such line") => `(tactic| skip)
theorem kfill_Ret3 : (PySem.Challenge.rw_vs0022_03 = PySem.Challenge.rw_vs0022_03) ∧ (hd.heap_39 = hd.heap_39) := by
  w_top off
  k_fill
  exact ⟨rfl, rfl⟩
local macro_rules | `(tactic| passes_own) => `(tactic| assumption)
local macro_rules | `(tactic| walk_at "eval ListComp") => `(tactic| refine stop_here ?_)
local macro_rules | `(tactic| walk_at "CompSrc") => `(tactic| refine stop_here ?_)
local macro_rules | `(tactic| walk_at "compareOp Eq ref ref") => `(tactic| refine stop_here ?_)
local macro_rules | `(tactic| walk_at "call ref") => `(tactic| refine stop_here ?_)
local macro_rules | `(tactic| walk_at "call builtin:len") => `(tactic| refine stop_here ?_)
local macro_rules | `(tactic| walk_at "call builtin:all") => `(tactic| refine stop_here ?_)
def rC : Got (match b8.hd with | .Return (some (.Call _ [.ListComp e g sc _] _ _)) _ => some (e, g, sc) | _ => none) := ⟨(_, _, _), rfl⟩
theorem bools_repT : ∀ n : Nat, LSm.BoolsAre (List.replicate n (Value.bool true)) (List.replicate n true)
  | 0 => .nil
  | n + 1 => .cons _ (bools_repT n)
theorem len_at {prog : Program} {w : World} {A : Around} {E : Value → Shared → Prop} {s : Shared} {h₀ : Heap} {L a : Addr} {G : List (Addr × Obj)} {vs : List Value} {n : Nat} {Q : Value → Shared → Prop} (N : News h₀ L s.heap G) (hm : (a, listOf vs.toArray n) ∈ G) (hz : vs.length ≤ 100) (h : Q (.int (vs.length : Int) (s.toks + 1)) { s with toks := s.toks + 1 + 1 }) :
    wpAny (model prog w) A (call (.builtin "len") [.ref a]) Q E s := by
  have hl : s.heap.IsList a vs.toArray := News.isList N hm
  have e : (List.toArray vs).size = vs.length := List.size_toArray ..
  exact call_len_list hl (by rw [e]; omega) (by rw [e]; exact h)
section
variable {w : World} {base h₀ : Heap} {L : Nat} {fa : Addr} {cd : Value} {s : Shared} {m mg mb : Str → Option Value} {p : Program} {loose : List Str} {mean : ExcName → Option Value} {E : Value → Shared → Prop}
theorem elt_spec {C K ka ta da : Addr} {oC oK bo : Obj} {m₂ : Str → Option Value} {r G : List (Addr × Obj)} {pt : Pt} {v : NetV} {tv : List Value} {n : Nat} {Q : Value → Shared → Prop}
    (B : Below callerA base [] h₀) (X₀ : (hd.heap_39 w.params).In h₀) (T : Top p loose mean mg mb h₀)
    (hC : LCg.NsObj oC m₂) (hy : m₂ (Str.ofString "times") = some (.ref ta)) (hz : m₂ (Str.ofString "bounds") = some (.ref da)) (hcK : oK.data = .cell (some (.ref v.self))) (F : Fr h₀ L s.heap m) (N : News h₀ L s.heap G) (nd : ND G) (hCG : (C, oC) ∈ G) (hKG : (K, oK) ∈ G) (hrG : ∀ q ∈ r, q ∈ G)
    (KH : KeptHas w r pt v ka ta da tv n bo) (h6 : Six pt.E) (hks : ∀ i : Nat, (i : Int) ≤ pt.n → (i : Int) ∈ v.ks) (hn : 0 ≤ pt.n ∧ pt.n ≤ 4) (hB : pt.B.length ≤ 60) (hsame : ∀ x y, firstOf y (v.G x) = lookT pt.B (x, y))
    (k : ∀ h' tk, Fr h₀ L h' m → News h₀ L h' G → Q (.bool true) { s with heap := h', toks := tk }) :
    wpAny (model PR w) (lawA L fa cd) (eval rC.val.1 (compEnvC rC.val.2.2 [(Str.ofString "net", K)] C (lawEnv L fa cd))) Q E s := by
  dsimp only [lawA, lawEnv, lawG, rC]
  have g1 := hrG _ KH.tms
  have g2 : v.In w G := KH.net.mono hrG
  have i1 := g2.i1
  have i2 := g2.i2
  have htl : tv.length = pt.n.toNat + 1 := by rw [KH.iv.length, List.length_map, List.length_range]
  have hiv := KH.iv
  k_steps
  unfold Stop
  refine LCg.ListComp_U (cl := [(Str.ofString "net", K)]) F (by with_unfolding_all rfl) (by decide) (by rfl) (by decide) (by rfl) ?_
  k_steps
  unfold Stop
  rename News _ _ _ _ => lN
  refine len_at lN g1 (by rw [htl]; omega) ?_
  rw [htl]
  k_steps
  unfold Stop
  rename Fr _ _ _ _ => lF
  rename News _ _ _ _ => lN
  rename IsRange _ _ _ _ _ _ _ _ => hR
  have e5 : pt.n.toNat = 0 ∨ pt.n.toNat = 1 ∨ pt.n.toNat = 2 ∨ pt.n.toNat = 3 ∨ pt.n.toNat = 4 := by omega
  refine LCg.CompSrc.range (n := pt.n.toNat + 1) (by rfl) lF lN hR ?q1 ?q2 ?q3 fun g' => ?_
  case q1 => rcases e5 with e | e | e | e | e <;> rw [e] <;> decide
  case q2 => rcases e5 with e | e | e | e | e <;> rw [e] <;> decide
  case q3 => (rw [sizeLine_eq]; omega)
  clear lF lN hR
  refine compRest_inv (fun i ys nw => IntsAre ys ((List.range i).map fun (j : Nat) => -(v.D (j : Int))) ∧ nw = G) ?turn ?done _ 0 [] _ (Nat.zero_add _) ⟨.nil, rfl⟩
  case turn =>
    rintro i ys nws x I2 oI C2 oC2 D m₃ h tk E' hi ⟨hys, rfl⟩ ⟨tx, rfl⟩ hC2 hx F2 N2 off ne
    k_steps
    unfold Stop
    rename Fr _ _ _ _ => lF
    rename News _ _ _ _ => lN
    refine' wpAny_call (getV (by assumption) lF (by assumption) lN (by assumption) ?hA ?hf ?hke ?hr (KH.net.mono fun q hq => .tail _ (.tail _ (.tail _ (hrG q hq)))) KH.ok ?hx fun h2 tk2 t2 F3 N3 => ?_)
    case hA => exact rfl
    case hf => exact rfl
    case hke => exact rfl
    case hr => simp only [depth_deeper, depth_in1, depth_caller]; decide
    case hx => exact (by have := hks i (by omega); simpa using this)
    (try dsimp only)
    clear lF lN
    k_steps
    refine LCg.CompEnd.intro F3 N3 _ (fun p hp => hp) off trivial ⟨?_, rfl⟩
    rw [List.range_succ, List.map_append, Int.zero_add]
    exact hys.append (.cons _ _ .nil)
  case done =>
    rintro ys nws ⟨hys, rfl⟩ D h tk F2 N2 off
    replace N2 : News h₀ L h ((D, listOf ys.toArray ys.length) :: nws) := N2
    k_steps
    unfold Stop
    rename Fr _ _ _ _ => lF
    rename News _ _ _ _ => lN
    refine ke_eq_ints (News.isList lN (.head _)) (News.isList lN (.tail _ g1)) hys hiv (by units_room) ?_
    rw [decide_eq_true rfl]
    k_steps
    unfold Stop
    rename Fr _ _ _ _ => lF
    rename News _ _ _ _ => lN
    refine' wpAny_call (tells_spec (bs := pt.B) (lb := r) (cl := r) (by assumption) lF (by assumption) (News.perm lN fun p hp => .tail _ hp) (by assumption) ?hA ?hf ?hke ?hr ?hu ?hH nd g2 KH.ok hrG h6 (hrG _ KH.bd) KH.bdP hrG KH.bdL hB hsame fun h5 tk5 r5 hr5 F5 N5 => ?_)
    case hA => exact rfl
    case hf => exact rfl
    case hke => exact rfl
    case hr => simp only [depth_deeper, depth_in1, depth_caller]; decide
    case hu => units_room
    case hH => exact rfl
    (try dsimp only)
    clear lF lN
    have N6 := News.perm N5 hr5
    k_steps
    exact k _ _ F5 N6
theorem ret3 {u : Str → Option Value} {U : Int} {tU : Tok} {st rA kA : Addr} {r G : List (Addr × Obj)} {ds : Nat → Stp} {kv : List Value} {kn : Nat} {Q : Flow → Shared → Prop}
    (B : Below callerA base [] h₀) (F : Fr h₀ L s.heap u) (X₀ : (hd.heap_39 w.params).In h₀) (T : Top p loose mean mg mb h₀) (hE : PassesOwn (model PR w) (lawA L fa cd) (lawEnv L fa cd) E)
    (hm : MHas u (basePs U tU st rA kA)) (N : News h₀ L s.heap G) (nd : ND G) (hk : (kA, listOf kv.toArray kn) ∈ G) (hrG : ∀ q ∈ r, q ∈ G) (hkl : kv.length ≤ 20) (hall : ∀ x ∈ kv, KeptAt w r U ds x)
    (hP : ∀ (row : List Nat) (i : Nat) (v : NetV) (ka ta da : Addr) (tv : List Value) (n : Nat) (bo : Obj), (sched 10)[i]? = some row → KeptHas w r (ptOf U ds row) v ka ta da tv n bo → Six (ptOf U ds row).E ∧ (∀ i : Nat, (i : Int) ≤ (ptOf U ds row).n → (i : Int) ∈ v.ks) ∧ (0 ≤ (ptOf U ds row).n ∧ (ptOf U ds row).n ≤ 4) ∧ (ptOf U ds row).B.length ≤ 60 ∧ ∀ x y, firstOf y (v.G x) = lookT (ptOf U ds row).B (x, y))
    (k : ∀ h' tk m' news', Fr h₀ L h' m' → News h₀ L h' news' → Q (.ret (.bool true)) { s with heap := h', toks := tk }) :
    wpAny (model PR w) (lawA L fa cd) (execs [b8.hd] (lawEnv L fa cd)) Q E s := by
  dsimp only [lawA, lawEnv, lawG, b8] at hE ⊢
  obtain ⟨u, rfl⟩ := kst_all (m := u) hm
  dsimp only [basePs, kstB] at F
  k_steps
  unfold Stop
  refine listComp_T F (by with_unfolding_all rfl) (by intro n; rfl) (by intro h; rfl) (by rfl) (by decide) (by rfl) (by rfl) (by rfl) (by decide) ?_
  k_steps
  rename Fr _ _ _ _ => lF
  rename News _ _ _ _ => lN
  refine ⟨kA, kv, kn, G, rfl, rfl, lF, lN, nd, hk, by omega, fun x hx => ?_, fun D h3 tk3 F3 N3 => ?_⟩
  · obtain ⟨row, i, v, ka, ta, da, tv, n, bo, hi, rfl, KH⟩ := hall x hx
    obtain ⟨p1, p2, p3, p4, p5⟩ := hP row i v ka ta da tv n bo hi KH
    refine ⟨ka, _, _, _, _, 0, rfl, hrG _ KH.tup, rfl, rfl, fun C K oC oK m₂ G' s' E' q1 q2 q3 q4 q5 q6 q7 q8 q9 q10 => ?_⟩
    exact elt_spec B X₀ T q1 q2 q3 q4 q5 q6 q7 q8 q9 (fun q hq => q10 _ (hrG _ hq)) KH p1 p2 p3 p4 p5 fun h' tk F' N' => ⟨rfl, h', tk, rfl, F', N'⟩
  · replace N3 : News h₀ L h3 ((D, listOf (List.replicate kv.length (Value.bool true)).toArray (List.replicate kv.length (Value.bool true)).length) :: G) := N3
    clear lF lN
    k_steps
    unfold Stop
    rename Fr _ _ _ _ => lF
    rename News _ _ _ _ => lN
    refine LSm.all_bools (bs := List.replicate kv.length true) lF lN rfl (News.isList lN (.head _)) (bools_repT _) fun h4 tk4 F4 N4 => ?_
    have e : (List.replicate kv.length true).all id = true := by simp
    rw [e]
    k_steps
    exact k _ _ _ _ F4 N4
end

end
section -- LawAll3
open PySem PySem.W PyProof.Rows PySem.Calls
set_option maxRecDepth 100000
set_option maxHeartbeats 8000000
local macro_rules | `(tactic| walk_at "no such line") => `(tactic| skip)
local macro_rules | `(tactic| walk_at "no such line") => `(tactic| skip)
local macro_rules | `(tactic| walk_at "no such line") => `(tactic| skip)
local macro_rules | `(tactic| walk_at "no such line") => `(tactic| skip)
local macro_rules | `(tactic| walk_at "no such line") => `(tactic| skip)
local macro_rules | `(tactic| walk_at "no such line") => `(tactic| skip)
local macro_rules | `(tactic| walk_at "no such line") => `(tactic| skip)
local macro_rules | `(tactic| walk_at "no such line") => `(tactic| skip)
local macro_rules | `(tactic| walk_at "no such line") => `(tactic| skip)
local macro_rules | `(tactic| walk_at "no such line") => `(tactic| skip)
local macro_rules | `(tactic| walk_at "no such line") => `(tactic| skip)
local macro_rules | `(tactic| walk_at "no such line") => `(tactic| skip)
local macro_rules | `(tactic| walk_at "no such line") => `(tactic| skip)
local macro_rules | `(tactic| walk_at "no such line") => `(tactic| skip)
local macro_rules | `(tactic| walk_at "no such line") => `(tactic| skip)
local macro_rules | `(tactic| walk_at "no such line") => `(tactic| skip)
local macro_rules | `(tactic| walk_at "no such line") => `(tactic| skip)
local macro_rules | `(tactic| walk_at "no such line") => `(tactic| skip)
local macro_rules | `(tactic| walk_at "no such line") => `(tactic| skip)
local macro_rules | `(tactic| walk_at "no such line") => `(tactic| skip)
local macro_rules | `(tactic| walk_at "no such line") => `(tactic| skip)
local macro_rules | `(tactic| walk_at "no such line") => `(tactic| skip)
local macro_rules | `(tactic| walk_at "no such line") => `(tactic| skip)
local macro_rules | `(tactic| walk_at "no such line") => `(tactic| skip)
local macro_rules | `(tactic| walk_at "no such line") => `(tactic| skip)
local macro_rules | `(tactic| walk_at "no such line") => `(tactic| skip)
local macro_rules | `(tactic| walk_at "no such line") => `(tactic| skip)
local macro_rules | `(tactic| walk_at "no such line") => `(tactic| skip)
local macro_rules | `(tactic| walk_at "no such line") => `(tactic| skip)
theorem kfill_LawAll3 : (PySem.Challenge.rw_vs0022_03 = PySem.Challenge.rw_vs0022_03) ∧ (hd.heap_39 = hd.heap_39) := by
  w_top off
  k_fill
  exact ⟨rfl, rfl⟩
local macro_rules | `(tactic| passes_own) => `(tactic| assumption)
local macro_rules | `(tactic| walk_at "exec For Tuple Name cons nil") => `(tactic| (k_here; (rename Fr _ _ _ _ => lF'); (with_unfolding_all refine' For_grow lF' ?_; k_whole)))
section
variable {w : World} {base h₀ : Heap} {L : Nat} {fa : Addr} {cd : Value} {s : Shared} {mg mb : Str → Option Value} {p : Program} {loose : List Str} {mean : ExcName → Option Value} {Q : Flow → Shared → Prop} {E : Value → Shared → Prop} {tl : List Stmt}
theorem rowsLoop {u : Str → Option Value} {U : Int} {tU : Tok} {st rA kA : Addr} {news : List (Addr × Obj)} {ds : Nat → Stp}
    (B : Below callerA base [] h₀) (F : Fr h₀ L s.heap u) (X₀ : (hd.heap_39 w.params).In h₀) (T : Top p loose mean mg mb h₀) (hE : PassesOwn (model PR w) (lawA L fa cd) (lawEnv L fa cd) E) (hU : 1 ≤ U) (ok : ∀ e, StpOk (ds e))
    (J : JT w L U tU st rA kA ds 0 u news) (N : News h₀ L s.heap news)
    (k : ∀ h' tk m' news', JT w L U tU st rA kA ds 10 m' news' → Fr h₀ L h' m' → News h₀ L h' news' →
      wpAny (model PR w) (lawA L fa cd) (execs tl (lawEnv L fa cd)) Q E { s with heap := h', toks := tk }) :
    wpAny (model PR w) (lawA L fa cd) (execs (b7.hd :: tl) (lawEnv L fa cd)) Q E s := by
  have J0 := J
  obtain ⟨hm, _⟩ := J0
  dsimp only [lawA, lawEnv, lawG, b7] at hE k ⊢
  obtain ⟨u, rfl⟩ := kst_all (m := u) hm
  dsimp only [basePs, kstB] at F
  k_steps
  rename Fr _ _ _ _ => lF
  rename News _ _ _ _ => lN
  refine ⟨rA, 10, _, news, fun i m nw => JT w L U tU st rA kA ds i m nw, rfl, rfl, lF, lN, J, fun i m nw hi Jt => ?_, fun I i x m nw vs nn h tk it hi Jt hrm hx off F' N' => ?_, fun m nw h tk Jt F' N' => ?_⟩
  · obtain ⟨_, o2, cv, kv, kn, rowsv, rn, r, _, rfl, _, _, RR, _⟩ := Jt
    refine ⟨rowsv, rn, .tail _ (.tail _ (.head _)), fun hlt => ?_, fun he => ?_⟩
    · rw [RR.len]; exact sched_lt i hlt
    · rw [RR.len, he]; exact sched_end
  · exact turn B F' X₀ T hE hU ok hi Jt hrm hx off N'
  · exact k _ _ _ _ Jt F' N'
theorem law_all {u : Str → Option Value} {o1 o2 : Obj} {sa : Addr} {vs : List Value} {ns : List Int}
    (B : Below callerA base [] h₀) (F : Fr h₀ L s.heap u) (X₀ : (hd.heap_39 w.params).In h₀) (T : Top p loose mean mg mb h₀)
    (hE : PassesOwn (model PR w) (lawA L fa cd) (lawEnv L fa cd) E)
    (N : News h₀ L s.heap [(L+1+1, o2), (L+1, o1)])
    (c1 : o1.data = .cell (some (.ref sa))) (c2 : o2.data = .cell none) (hS : h₀.IsList sa vs.toArray) (hI : IntsAre vs ns) (hl : ns.length ≤ 63)
    (kr : ∀ h' tk m' news', Fr h₀ L h' m' → News h₀ L h' news' → Q (.ret (.bool true)) { s with heap := h', toks := tk }) :
    wpAny (model PR w) (lawA L fa cd) (execs [b0.hd, b1.hd, b2.hd, b3.hd, b4.hd, b5.hd, b6.hd, b7.hd, b8.hd] (lawEnv L fa cd)) Q E s := by
  refine segA3a B F X₀ T N c1 hS hI hl fun h1 tk1 m1 U tU hU F1 e1 N1 => ?_
  refine segA3b B F1 X₀ T e1 N1 c1 c2 hS hI hl fun h2 tk2 m2 st ks a0 a1 a2 a3 d0 d1 d2 d3 r2 F2 e2 f2 N2 nd2 hst q0 q1 q2 q3 k0 k1 k2 k3 => ?_
  refine segA3c B F2 X₀ T e2 f2 N2 nd2 c2 fun h3 tk3 m3 v o2' r3 hr3 F3 e3 f3 c3 I3 O3 N3 nd3 => ?_
  refine segA3d B F3 X₀ T e3 f3 N3 nd3 c3 I3 O3 fun h4 tk4 m4 rA kA x r4 hr4 F4 e4 f4 g4 i4 R4 N4 nd4 => ?_
  obtain ⟨ds, hds, hS4⟩ : ∃ ds : Nat → Stp, (∀ e, StpOk (ds e)) ∧ StepsAt r4 ds st := by
    refine ⟨fun e => match e with | 0 => d0 | 1 => d1 | 2 => d2 | _ => d3, fun e => ?_, ⟨_, ks, hr4 _ (hr3 _ hst), fun e he => ?_⟩⟩
    · match e with
      | 0 => exact k0
      | 1 => exact k1
      | 2 => exact k2
      | e + 3 => exact k3
    · obtain ⟨t1, t2, t3, t4, t5, q0⟩ := q0
      obtain ⟨t1', t2', t3', t4', t5', q1⟩ := q1
      obtain ⟨t1'', t2'', t3'', t4'', t5'', q2⟩ := q2
      obtain ⟨u1, u2, u3, u4, u5, q3⟩ := q3
      match e, he with
      | 0, _ => exact ⟨a0, _, _, _, _, _, rfl, hr4 _ (hr3 _ q0)⟩
      | 1, _ => exact ⟨a1, _, _, _, _, _, rfl, hr4 _ (hr3 _ q1)⟩
      | 2, _ => exact ⟨a2, _, _, _, _, _, rfl, hr4 _ (hr3 _ q2)⟩
      | 3, _ => exact ⟨a3, _, _, _, _, _, rfl, hr4 _ (hr3 _ q3)⟩
      | e + 4, he => exact absurd he (by omega)
  have J0 : JT w L U tU st rA kA ds 0 m4 ((L+1+1, o2') :: (kA, listOf ([] : List Value).toArray 0) :: (rA, listOf [x].toArray 0) :: r4) :=
    ⟨MHas.cons e4 (MHas.cons f4 (MHas.cons g4 (MHas.cons i4 MHas.nil))), o2', _, [], 0, [x], 0, r4, c3, rfl, nd4, hS4, RowsAt.nil.snoc R4, Nat.le_refl _, fun _ h => nomatch h⟩
  refine rowsLoop B F4 X₀ T hE hU hds J0 N4 fun h5 tk5 m5 nw5 J5 F5 N5 => ?_
  obtain ⟨hm5, o5, cv, kv, kn, rowsv, rn, r5, hcv, rfl, nd5, S5, RR5, hkl, hK⟩ := J5
  refine ret3 (r := r5) (ds := ds) B F5 X₀ T hE hm5 N5 nd5 (.tail _ (.head _)) (fun q hq => .tail _ (.tail _ (.tail _ hq))) (by omega) hK (fun row i v ka ta da tv n bo hi KH => ?_) fun h' tk m' nw F' N' => kr h' tk m' nw F' N'
  have hl4 := sched_all row (List.mem_of_getElem? hi)
  have fc := facts hU hds hl4 KH.ok
  have Z := fc.st KH.sat
  have hpn := ptOf_n U ds row
  refine ⟨fc.h6, Z.ks, by omega, by have := fc.hBl; omega, fc.hB KH.sat⟩
end

end
section -- Top03
open PySem PySem.W PyProof.Rows PySem.Calls
set_option maxRecDepth 100000
set_option maxHeartbeats 8000000
local macro_rules | `(tactic| walk_at "no such line") => `(tactic| skip)
local macro_rules | `(tactic| walk_at "no such line") => `(tactic| skip)
local macro_rules | `(tactic| walk_at "no such line") => `(tactic| skip)
local macro_rules | `(tactic| walk_at "no such line") => `(tactic| skip)
local macro_rules | `(tactic| walk_at "no such line") => `(tactic| skip)
local macro_rules | `(tactic| walk_at "no such line") => `(tactic| skip)
local macro_rules | `(tactic| walk_at "no such line") => `(tactic| skip)
local macro_rules | `(tactic| walk_at "no such line") => `(tactic| skip)
local macro_rules | `(tactic| walk_at "no such line") => `(tactic| skip)
local macro_rules | `(tactic| walk_at "no such line") => `(tactic| skip)
local macro_rules | `(tactic| walk_at "no such line") => `(tactic| skip)
local macro_rules | `(tactic| walk_at "no such line") => `(tactic| skip)
local macro_rules | `(tactic| walk_at "no such line") => `(tactic| skip)
local macro_rules | `(tactic| walk_at "no such line") => `(tactic| skip)
local macro_rules | `(tactic| walk_at "no such line") => `(tactic| skip)
local macro_rules | `(tactic| walk_at "no such line") => `(tactic| skip)
local macro_rules | `(tactic| walk_at "no such line") => `(tactic| skip)
local macro_rules | `(tactic| walk_at "no such line") => `(tactic| skip)
local macro_rules | `(tactic| walk_at "no such line") => `(tactic| skip)
local macro_rules | `(tactic| walk_at "no such line") => `(tactic| skip)
local macro_rules | `(tactic| walk_at "no such line") => `(tactic| skip)
local macro_rules | `(tactic| walk_at "no such line") => `(tactic| skip)
local macro_rules | `(tactic| walk_at "no such line") => `(tactic| skip)
local macro_rules | `(tactic| walk_at "no such line") => `(tactic| skip)
local macro_rules | `(tactic| walk_at "no such line") => `(tactic| skip)
local macro_rules | `(tactic| walk_at "no such line") => `(tactic| skip)
local macro_rules | `(tactic| walk_at "no such line") => `(tactic| skip)
local macro_rules | `(tactic| walk_at "no such line") => `(tactic| skip)
local macro_rules | `(tactic| walk_at "no such line") => `(tactic| skip)
local macro_rules | `(tactic| walk_at "no such line") => `(tactic| skip)
local macro_rules | `(tactic| walk_at "no such line") => `(tactic| skip)
theorem kfill_Top03 : (PySem.Challenge.rw_vs0022_03 = PySem.Challenge.rw_vs0022_03) ∧ (hd.heap_39 = hd.heap_39) := by
  w_top off
  k_fill
  exact ⟨rfl, rfl⟩
theorem top : PySem.Challenge.rw_vs0022_03.Holds := Mine.hd (by
  w_on
  k_go0
  all_goals try k_fold
  rename Below _ _ _ _ => lB
  rename Fr _ _ _ _ => lF
  rename News _ _ _ _ => lN
  rename (hd.heap_39 _).In _ => lX
  rename Top _ _ _ _ _ _ => lT
  rename IntsAre _ _ => lI
  rename Heap.IsList _ _ _ => lS
  rename ¬ (_ < _) => lL
  refine law_all lB lF lX lT (by passes_own) lN (by with_unfolding_all assumption) (by with_unfolding_all assumption) lS lI (by omega) ?_
  intro h' tk m' news F N
  k_steps)

end
end Mine
theorem PySem.Challenge.cw_vs0022_03_holds : PySem.Challenge.rw_vs0022_03.Holds :=
  Mine.top
