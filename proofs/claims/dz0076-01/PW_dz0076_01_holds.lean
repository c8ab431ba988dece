import PyProof.Rows.All
import Wide.All
import OpenK.AllK
import Wide.FinOn
import PySem.Challenge.RW_dz0076_01
set_option Elab.async false
set_option maxRecDepth 100000
set_option maxHeartbeats 8000000

section
open PySem PySem.W PyProof.Rows
namespace Mine
open_top hd for PySem.Challenge.rw_dz0076_01
end Mine
end

/-! ## NFilter -/
section
open PySem PySem.W PyProof.Rows
namespace Mine

/-! ### the type filter: its slots, its making, its walk over a tuple of texts -/
theorem owner_filter : Manifest.owners.lookup (String.ofList ['r', 'e', 't', 'l', 'i', 'f'].reverse) = some Manifest.sig_filter := by kernel_rfl
theorem slot_filter_next : Slot "filter" "__next__" "filter.__next__" :=
  .of (owner := "filter") (n := "__next__") (by rw [typeLookup_type, builtinLookup_eq_fast]; kernel_rfl) (by decide +kernel) (by decide +kernel) (by decide +kernel)
    (by first | exact .inl (by decide +kernel) | exact .inr (by decide +kernel)) (by rw [isSubtype_type]; kernel_rfl)
theorem slot_filter_iter : Slot "filter" "__iter__" "filter.__iter__" :=
  .of (owner := "filter") (n := "__iter__") (by rw [typeLookup_type, builtinLookup_eq_fast]; kernel_rfl) (by decide +kernel) (by decide +kernel) (by decide +kernel)
    (by first | exact .inl (by decide +kernel) | exact .inr (by decide +kernel)) (by rw [isSubtype_type]; kernel_rfl)
theorem slot_filter_init : Slot "filter" "__init__" "object.__init__" :=
  .of (owner := "object") (n := "__init__") (by rw [typeLookup_type, builtinLookup_eq_fast]; kernel_rfl) (by decide +kernel) (by decide +kernel) (by decide +kernel)
    (by first | exact .inl (by decide +kernel) | exact .inr (by decide +kernel)) (by rw [isSubtype_type]; kernel_rfl)
theorem entry_filter_next : entryFor table "filter.__next__" = some Builtin.«filter.__next__» := entryFor_of_tree (by kernel_rfl)
theorem args_filter_next (a : Value) : argsOk "filter.__next__" ⟨[a], []⟩ := by
  unfold argsOk; rw [signature?_of (id := "filter.__next__") (n := ['_', '_', 't', 'x', 'e', 'n', '_', '_']) (o := ['r', 'e', 't', 'l', 'i', 'f']) (by kernel_rfl) owner_filter]; kernel_rfl
theorem args_filter_iter (a : Value) : argsOk "filter.__iter__" ⟨[a], []⟩ := by
  unfold argsOk; rw [signature?_of (id := "filter.__iter__") (n := ['_', '_', 'r', 'e', 't', 'i', '_', '_']) (o := ['r', 'e', 't', 'l', 'i', 'f']) (by kernel_rfl) owner_filter]; kernel_rfl
theorem entry_filter_iter : entryFor table "filter.__iter__" = some Builtin.«dict_keyiterator.__iter__» :=
  entryFor_alias (id' := "dict_keyiterator.__iter__") (by kernel_rfl) (by first | rfl | decide +kernel | (unfold String.splitOn; simp +decide [String.splitOnAux])) (by decide +kernel) (by kernel_rfl)
theorem mro_filter : mroOf (.type "filter") = pure [.type "filter", .type "object"] := by rw [mroOf_type]; kernel_rfl
theorem lookup_filter_new : typeLookup (.type "filter") "__new__" = pure (some (.builtin "filter.__new__")) := by rw [typeLookup_type, builtinLookup_eq_fast]; kernel_rfl
theorem called_filter : TypeCalled "filter" "filter.__new__" "object.__init__" :=
  ⟨by decide +kernel, by decide +kernel, ⟨_, _, mro_filter⟩, madeBy_type mro_filter lookup_filter_new (by decide +kernel), by decide +kernel, by rw [isSubtype_type]; kernel_rfl, slot_filter_init⟩
theorem typeCall_filter_2 (a b : Value) : checkTypeCall "filter" ⟨[a, b], []⟩ = pure () := by kernel_rfl
theorem newCall_filter_2 (a b : Value) : checkBuiltinCall "filter.__new__" ⟨[.type "filter", a, b], []⟩ = pure () := by kernel_rfl
theorem entry_filter_new : entryFor table "filter.__new__" = some Builtin.«filter.__new__» := entryFor_of_tree (by kernel_rfl)
theorem sub_filter : isSubtype (.type "filter") (.type "filter") = pure true := by rw [isSubtype_type]; kernel_rfl

abbrev IsFilter (h : Heap) (f it : Addr) : Prop :=
  h.get? f = some { cls := .type "filter", dict := none, data := .fields #[.builtin "len", .ref it], slots := #[] }

abbrev filH1 (h : Heap) (t : Addr) : Heap := h.push { cls := .type "tuple_iterator", data := .fields #[.ref t, .int 0 0] }
abbrev filH2 (h : Heap) (t : Addr) : Heap := (filH1 h t).push { cls := .type "filter", data := .fields #[.builtin "len", .ref h.objs.size] }

theorem meets_filter_new (t : Addr) (items : Array Value) :
    Meets (Builtin.«filter.__new__» ⟨[.type "filter", .builtin "len", .ref t], []⟩) (fun _ R s => s.heap.IsTuple t items ∧
      R (.ok (.ret (.ref (filH1 s.heap t).objs.size))) { s with heap := filH2 s.heap t }) :=
  .of_wp fun prog w A R s h => by
    obtain ⟨hp, g, d, tk, os⟩ := s; obtain ⟨hl, h⟩ := h
    have hsub := sub_filter
    have hL : Heap.IsTuple (Shared.heap ⟨hp, g, d, tk, os⟩) t items := hl
    wp_walk using wpAny_pyIter_tuple hL
    exact ⟨_, rfl, h⟩

section
variable {prog : Program} {w : World} {A : Around} {E : Value → Shared → Prop} {s : Shared}

theorem call_filter {t : Addr} {items : Array Value} {Q : Value → Shared → Prop} (hl : s.heap.IsTuple t items)
    (h : ∀ h', IsFilter h' (s.heap.objs.size + 1) s.heap.objs.size → h'.IsTupleIter s.heap.objs.size t 0 → h'.objs.size = s.heap.objs.size + 2 →
      (∀ c o, s.heap.get? c = some o → h'.get? c = some o) → Q (.ref (s.heap.objs.size + 1)) { s with heap := h' }) :
    wpAny (model prog w) A (call (.type "filter") [.builtin "len", .ref t]) Q E s := by
  refine callType_new called_filter (by decide) (typeCall_filter_2 _ _) (newCall_filter_2 _ _) (fun obj => F.args_object_init_3 obj _ _) entry_filter_new
    (meets_filter_new t items) ⟨hl, ?_⟩
  have z1 : (filH1 s.heap t).objs.size = s.heap.objs.size + 1 := Heap.size_push ..
  have z2 : (filH2 s.heap t).objs.size = s.heap.objs.size + 2 := by rw [Heap.size_push, z1]
  have g2 : (filH2 s.heap t).get? (filH1 s.heap t).objs.size = some _ := Heap.get?_push_size _ rfl
  have g1 : (filH2 s.heap t).get? s.heap.objs.size = some _ := Heap.get?_push_of_some _ (Heap.get?_push_size _ rfl)
  show _ ∧ _
  rw [z1] at g2 ⊢
  exact ⟨⟨_, g2, rfl⟩, h _ g2 ⟨_, g1, rfl, rfl⟩ z2 fun c o x => Heap.get?_push_of_some _ (Heap.get?_push_of_some _ x)⟩

theorem pyIter_filter {f it : Addr} {Q : Value → Shared → Prop} (hz : IsFilter s.heap f it) (h : Q (.ref f) s) : wpAny (model prog w) A (pyIter (.ref f)) Q E s := by
  have hT : s.TypeIs (.ref f) "filter" := ⟨_, hz, rfl⟩
  refine wpAny_pyIter_slot hT slot_filter_iter (wpAny_call_entry slot_filter_iter hT entry_filter_iter ?_ (args_filter_iter _))
  show wpAny _ _ (ret (.ref f)) _ _ s
  exact wpAny_pure ⟨_, rfl, "filter", _, hT, slot_filter_next.lookup, h⟩

/-- what a tuple's iterator does when it is asked for its next item: by the library's walker -/
theorem tup_asked {I t : Addr} {i : Nat} {items : Array Value} {Q : Option Value → Shared → Prop} (hh : A.handled = none) (at_ : s.heap.IsTupleIter I t i ∧ s.heap.IsTuple t items)
    (some_ : ∀ x h', items[i]? = some x → h'.IsTupleIter I t (i + 1) → Heap.SameBut I s.heap h' → Q (some x) { s with heap := h' })
    (none_ : items[i]? = none → ∀ h' e, Heap.ExtBut I s.heap h' → (∃ o, h'.get? e = some o ∧ o.cls = .type "StopIteration") → E (.ref e) { s with heap := h' }) :
    wpAny (model prog w) A (callSpecial? (.ref I) (Str.ofString "__next__")) Q E s := by
  have ty : s.TypeIs (.ref I) "tuple_iterator" := at_.1.typeIs
  refine wpAny_callSpecial?_slot ty F.slot_tuple_iterator_next (wpAny_call_entry F.slot_tuple_iterator_next ty F.entry_tuple_iterator_next ?_ (F.args_tuple_iterator_next_1 _))
  clear ty
  obtain ⟨hp, g, d, tk, os⟩ := s
  obtain ⟨⟨⟨_, d₁, _, l₁⟩, oI, cI, dI⟩, ⟨⟨_, d₂, _, l₂⟩, oT, cT, n, dT⟩⟩ := at_
  cases cI; cases dI; cases cT; cases dT
  dsimp only at oI oT
  wp_walk
  show wpAny _ _ (match items[i]? with | some x => _ | none => _) _ _ _
  cases hx : items[i]? with
  | some x =>
    dsimp only
    wp_walk
    refine ⟨x, rfl, some_ x _ hx ⟨_, Heap.get?_update_self _ oI rfl, rfl, ?_⟩ (Heap.SameBut.update ..)⟩
    simp [Obj.mapFields, rawInt]
  | none =>
    dsimp only
    wp_walk
    refine wpAny_raiseNew_none hh (none_ hx _ _ (fun b o hb e => ?_) ⟨_, Heap.get?_push_size _ rfl, rfl⟩)
    exact Heap.get?_push_of_some _ (Heap.get?_push_of_some _ (((Heap.SameBut.update hp I _).2 b hb).trans e))

/-- a text that is not empty -/
def full : Value → Bool
  | .str x _ => x.length != 0
  | _ => false

theorem filter_code {f it t : Addr} {items : Array Value} (hft : f ≠ it) (htt : t ≠ it) (hs : ∀ v ∈ items.toList, ∃ x u, v = Value.str x u ∧ x.length ≤ sizeLine) (hh : A.handled = none) {R : Result → Shared → Prop} :
    ∀ (n k : Nat) (s : Shared), items.size - k = n → IsFilter s.heap f it → s.heap.IsTupleIter it t k → s.heap.IsTuple t items →
    (∀ v j h' tk, k ≤ j → items[j]? = some v → full v = true → (∀ i v', k ≤ i → i < j → items[i]? = some v' → full v' = false) → h'.IsTupleIter it t (j + 1) → Heap.SameBut it s.heap h' → R (.ok (.ret v)) { s with heap := h', toks := tk }) →
    (∀ h' e tk, (∀ i v', k ≤ i → items[i]? = some v' → full v' = false) → Heap.ExtBut it s.heap h' → (∃ o, h'.get? e = some o ∧ o.cls = .type "StopIteration") → R (.error (.ref e)) { s with heap := h', toks := tk }) →
    codeAny (model prog w) A (.builtin "filter.__next__" ⟨[.ref f], []⟩) R s := by
  intro n
  induction n with
  | zero =>
    intro k s hn hf hit ht hgo hend
    refine codeAny_builtin entry_filter_next ?_
    rw [Around.under_plainId (by decide +kernel)]
    have hx : items[k]? = none := Array.getElem?_eq_none (by omega)
    show wpAny _ _ (field (.ref f) 0 >>= _) _ _ s
    refine wpAny_bind (wpAny_field hf rfl (x := .builtin "len") rfl ?_)
    show wpAny _ _ (field (.ref f) 1 >>= _) _ _ s
    refine wpAny_bind (wpAny_field hf rfl (x := .ref it) rfl ?_)
    refine wpAny_bind (tup_asked hh ⟨hit, ht⟩ (fun x h' e => absurd (hx.symm.trans e) (by simp)) fun _ h' e he ho => ?_)
    refine hend h' e s.toks (fun i v' hi hv => ?_) he ho
    rw [Array.getElem?_eq_none (by omega)] at hv; cases hv
  | succ n ih =>
    intro k s hn hf hit ht hgo hend
    have hlt : k < items.size := by omega
    refine codeAny_builtin entry_filter_next ?_
    rw [Around.under_plainId (by decide +kernel)]
    have hx : items[k]? = some items[k] := Array.getElem?_eq_getElem hlt
    obtain ⟨x, u, hv, hxl⟩ := hs items[k] (by simp)
    rw [hv] at hx
    show wpAny _ _ (field (.ref f) 0 >>= _) _ _ s
    refine wpAny_bind (wpAny_field hf rfl (x := .builtin "len") rfl ?_)
    show wpAny _ _ (field (.ref f) 1 >>= _) _ _ s
    refine wpAny_bind (wpAny_field hf rfl (x := .ref it) rfl ?_)
    refine wpAny_bind (tup_asked hh ⟨hit, ht⟩ (fun x' h' ex hit' hs' => ?_) fun e => absurd (hx.symm.trans e) (by simp))
    cases Option.some.inj (ex.symm.trans hx)
    dsimp only
    refine wpAny_bind (wpAny_holding ?_)
    show wpAny _ _ (call (.builtin "len") [.str x u] >>= _) _ _ _
    refine wpAny_bind (len_str (by unfold sizeLine at hxl; omega) ?_)
    refine wpAny_holding ?_
    refine truthy_int ?_
    have hsz : h'.objs.size = s.heap.objs.size := hs'.1
    by_cases h0 : x.length = 0
    · have hb : ((x.length : Int) != 0) = false := by simp [h0]
      rw [hb]
      refine wpAny_pure ⟨plainId_quiet (by decide +kernel) _, ih (k + 1) _ (by omega) (hs'.extBut _ _ hft hf) hit' (ht.extBut hs'.extBut htt) (fun v j h₂ tk hj hvj hfl hbe hit₂ hs₂ => ?_) fun h₂ e tk hbe he ho => ?_⟩
      · refine hgo v j h₂ tk (by omega) hvj hfl (fun i v' hi hij hv' => ?_) hit₂ (hs'.trans hs₂)
        by_cases hik : i = k
        · subst hik; rw [hx] at hv'; cases hv'; simp [full, h0]
        · exact hbe i v' (by omega) hij hv'
      · refine hend h₂ e tk (fun i v' hi hv' => ?_) (hs'.extBut.trans he) ho
        by_cases hik : i = k
        · subst hik; rw [hx] at hv'; cases hv'; simp [full, h0]
        · exact hbe i v' (by omega) hv'
    · have hb : ((x.length : Int) != 0) = true := by simp [h0]
      rw [hb]
      refine wpAny_pure ?_
      exact hgo _ k h' _ (Nat.le_refl _) hx (by simp [full, h0]) (fun i v' hi hik => by omega) hit' hs'

/-- how many of the first k are full -/
def fulls (items : Array Value) (k : Nat) : Nat := ((items.toList.take k).filter full).length

theorem fulls_skip {items : Array Value} {k j : Nat} (hkj : k ≤ j) (hj : j ≤ items.size) (hbe : ∀ i v', k ≤ i → i < j → items[i]? = some v' → full v' = false) : fulls items j = fulls items k := by
  unfold fulls
  obtain ⟨d, rfl⟩ := Nat.exists_eq_add_of_le hkj
  rw [List.take_add, List.filter_append]
  have : ((items.toList.drop k).take d).filter full = [] := by
    rw [List.filter_eq_nil_iff]
    intro v hv
    obtain ⟨i, hi, rfl⟩ := List.getElem_of_mem hv
    have hi' : i < min d (items.size - k) := by simpa using hi
    have hik : k + i < items.size := by omega
    have := hbe (k + i) items[k + i] (by omega) (by omega) (Array.getElem?_eq_getElem hik)
    simp [this]
  rw [this, List.append_nil]

theorem fulls_at {items : Array Value} {j : Nat} {v : Value} (hv : items[j]? = some v) (hf : full v = true) :
    (items.toList.filter full)[fulls items j]? = some v ∧ fulls items (j + 1) = fulls items j + 1 := by
  obtain ⟨hj, e⟩ := Array.getElem?_eq_some_iff.mp hv
  have hl : items.toList = items.toList.take j ++ v :: items.toList.drop (j + 1) := by
    conv => lhs; rw [← List.take_append_drop j items.toList]
    rw [List.drop_eq_getElem_cons (by simpa using hj)]
    simp [e]
  constructor
  · conv => lhs; rw [hl]
    rw [List.filter_append, List.filter_cons_of_pos hf]
    unfold fulls
    rw [List.getElem?_append_right (Nat.le_refl _)]
    simp
  · unfold fulls
    rw [List.take_succ_eq_append_getElem (by simpa using hj), List.filter_append]
    have : items.toList[j]'(by simpa using hj) = v := by simpa using e
    rw [this]; simp [hf]

theorem fulls_le (items : Array Value) (k : Nat) : fulls items k ≤ (items.toList.filter full).length := by
  unfold fulls
  exact ((List.take_sublist k items.toList).filter full).length_le
theorem fulls_all {items : Array Value} {k : Nat} (h : ∀ i v', k ≤ i → items[i]? = some v' → full v' = false) (hk : k ≤ items.size) : fulls items k = (items.toList.filter full).length := by
  rw [← fulls_skip hk (Nat.le_refl _) (fun i v' hi _ hv => h i v' hi hv)]
  unfold fulls
  rw [List.take_of_length_le (by simp)]

theorem Walks_filter (hh : A.handled = none) (f it t : Addr) (hft : f ≠ it) (htt : t ≠ it) (items : Array Value) (hs : ∀ v ∈ items.toList, ∃ x u, v = Value.str x u ∧ x.length ≤ sizeLine) :
    Walks prog w A f [f, it, t] [it] (items.toList.filter full).length (fun i v => (items.toList.filter full)[i]? = some v)
      (fun i h => IsFilter h f it ∧ h.IsTuple t items ∧ ∃ k, h.IsTupleIter it t k ∧ k ≤ items.size ∧ fulls items k = i) where
  sub := fun b hb => by simp at hb; simp [hb]
  frame := fun _ _ _ st hk => ⟨hk f (by simp) _ st.1, (let ⟨o, ho, r⟩ := st.2.1; ⟨o, hk t (by simp) o ho, r⟩), let ⟨k, ⟨o, ho, r⟩, r2⟩ := st.2.2; ⟨k, ⟨o, hk it (by simp) o ho, r⟩, r2⟩⟩
  item := fun i s Q E hi st hQ => by
    obtain ⟨hf, ht, k, hit, hk, hki⟩ := st
    have hT : s.TypeIs (.ref f) "filter" := ⟨_, hf, rfl⟩
    unfold pyNext
    refine wpAny_bind (wpAny_attempt (wpAny_callSpecial?_slot (name := Str.ofString "__next__") hT slot_filter_next (wpAny_call ?_)))
    refine codeAny_call_builtin_code (plainId_quiet (by decide +kernel) _) (slot_filter_next.check _ _ _ _ _ _ _ _ hT (args_filter_next _) ?_)
    refine filter_code hft htt hs hh _ k s rfl hf hit ht (fun v j h' tk hkj hv hfl hbe hit' hs' => ?_) fun h' e tk hbe he ho => ?_
    · obtain ⟨hj, _⟩ := Array.getElem?_eq_some_iff.mp hv
      have e1 := fulls_skip hkj (Nat.le_of_lt hj) hbe
      obtain ⟨e2, e3⟩ := fulls_at hv hfl
      refine wpAny_pure (hQ v h' tk (by rw [← hki, ← e1]; exact e2) ⟨hs'.extBut _ _ hft hf, ht.extBut hs'.extBut htt, j + 1, hit', hj, by rw [e3, e1, hki]⟩ fun b o hb e => hs'.extBut b o (fun h => hb (by simp [h])) e)
    · exact absurd (fulls_all hbe hk) (by omega)
  done := fun s Q E st hQ => by
    obtain ⟨hf, ht, k, hit, hk, hki⟩ := st
    have hT : s.TypeIs (.ref f) "filter" := ⟨_, hf, rfl⟩
    unfold pyNext
    refine wpAny_bind (wpAny_attempt (wpAny_callSpecial?_slot (name := Str.ofString "__next__") hT slot_filter_next (wpAny_call ?_)))
    refine codeAny_call_builtin_code (plainId_quiet (by decide +kernel) _) (slot_filter_next.check _ _ _ _ _ _ _ _ hT (args_filter_next _) ?_)
    refine filter_code hft htt hs hh _ k s rfl hf hit ht (fun v j h' tk hkj hv hfl hbe hit' hs' => ?_) fun h' e tk hbe he ho => ?_
    · obtain ⟨hj, _⟩ := Array.getElem?_eq_some_iff.mp hv
      have e1 := fulls_skip hkj (Nat.le_of_lt hj) hbe
      obtain ⟨e2, e3⟩ := fulls_at hv hfl
      have := fulls_le items (j + 1)
      omega
    · obtain ⟨o, ho, hc⟩ := ho
      refine wpAny_bind (wpAny_isInstance (T := "StopIteration") (b := true) ⟨o, ho, hc⟩ isSubtype_stop ?_)
      exact wpAny_pure (hQ h' tk fun b o hb e => he b o (fun h => hb (by simp [h])) e)
  self := fun _ _ _ _ st hQ => pyIter_filter st.1 hQ
end
end Mine
end

/-! ## NBase -/
section
open PySem PySem.W PyProof.Rows
namespace Mine

/-! ### the program's parts, by their place -/
abbrev prog := PySem.Challenge.rw_dz0076_01.row.prog
def top (i : Nat) : Stmt := PySem.Challenge.pw_dz0076_01.main.body.getD i (.Pass ⟨0, 0, 0, 0⟩)
def bodyOf : Stmt → List Stmt
  | .FunctionDef _ _ b _ _ _ _ _ _ _ => b
  | _ => []
def scopeOf : Stmt → Scope
  | .FunctionDef _ _ _ _ _ _ sc _ _ _ => sc
  | _ => { kind := .function, names := [], isGenerator := false, isCoroutine := false, more := [] }
def stm (f i : Nat) : Stmt := (bodyOf (top f)).getD i (.Pass ⟨0, 0, 0, 0⟩)

/-! ### what holds of the heap all through the call -/
def Grown (p ps : Array Value) : Prop := ∃ more, ps = p ++ more

structure Inv (w : World) (mg mb : Str → Option Value) (bm : Addr) (ob : Obj × Array Value) (h : Heap) : Prop where
  low : bm < 46
  K : (hd.heap_39 w.params).In h
  g : h.Ns mainGlobals mg
  b : h.Ns builtinsNs mb
  lim : h.NoLimit
  bb : ∀ x : Str, x ≠ "__name__" → mb x = bootBuiltins x
  bm : BMod h mainGlobals mg bm ob.1
  tab : ∃ ps, (h.IsCode 20 16 ps ∧ Grown ob.2 ps) ∧ h.TableAt 20 16 ps

section
variable {w : World} {mg mb : Str → Option Value} {bm : Addr} {ob : Obj × Array Value} {h h' : Heap}
theorem Inv.keeps (I : Inv w mg mb bm ob h) (k : ∀ b o, h.get? b = some o → h'.get? b = some o) : Inv w mg mb bm ob h' :=
  ⟨I.low, I.K.keeps k, I.g.keeps k, I.b.keeps k, I.lim.keeps k, I.bb, I.bm.keeps k, let ⟨ps, a, b⟩ := I.tab; ⟨ps, ⟨a.1.keeps k, a.2⟩, b.keeps k⟩⟩
theorem lookup16 (P : Params) : (hd.heap_39 P).lookup 16 = none := by rfl
theorem frag_low (P : Params) : ∀ {a : Addr} {o : Obj}, (hd.heap_39 P).lookup a = some o → a < 46 := by
  intro a o e
  have h : (hd.heap_39 P).all (fun p => decide (p.1 < 46)) = true := by rfl
  exact of_decide_eq_true (List.all_eq_true.mp h (a, o) (kb_mem e))
theorem tab_at {h h' : Heap} {p0 : Array Value} (k : ∀ b o, b < 46 → h.get? b = some o → h'.get? b = some o) (x : ∃ ps, (h.IsCode 20 16 ps ∧ Grown p0 ps) ∧ h.TableAt 20 16 ps) : ∃ ps, (h'.IsCode 20 16 ps ∧ Grown p0 ps) ∧ h'.TableAt 20 16 ps := by
  obtain ⟨ps, ⟨⟨o, vs, file, tf, flags, tg, inF, text, tt, op, ho, hd, h11, h2, h7, h9, h10, hop, rest⟩, gr⟩, ⟨oc, vc, hoc, r⟩, ht⟩ := x
  exact ⟨ps, ⟨⟨o, vs, file, tf, flags, tg, inF, text, tt, op, k _ _ (by decide) ho, hd, h11, h2, h7, h9, h10, k _ _ (by decide) hop, rest⟩, gr⟩, ⟨oc, vc, k _ _ (by decide) hoc, r⟩, k _ _ (by decide) ht⟩
theorem Inv.ext (I : Inv w mg mb bm ob h) (k : ∀ b o, b < 46 → b ≠ 16 → h.get? b = some o → h'.get? b = some o) (t : ∃ ps, (h'.IsCode 20 16 ps ∧ Grown ob.2 ps) ∧ h'.TableAt 20 16 ps) : Inv w mg mb bm ob h' := by
  obtain ⟨ps, a, b⟩ := I.tab
  have hb16 : bm ≠ 16 := fun e => by
    have := I.bm.obj
    rw [e, b.2] at this
    have hc := I.bm.cls
    rw [← Option.some.inj this] at hc
    exact absurd hc (by simp)
  have kn : ∀ a : Addr, a < 46 → a ≠ 16 → ∀ m, h.Ns a m → h'.Ns a m := fun a h1 h2 m x => x.at' fun o e => k a o h1 h2 e
  refine ⟨I.low, fun a o e => k a o (frag_low _ e) (fun q => ?_) (I.K a o e), kn _ (by decide) (by decide) _ I.g, kn _ (by decide) (by decide) _ I.b, ?_, I.bb, ?_, t⟩
  · rw [q, lookup16] at e; cases e
  · obtain ⟨mc, hn, e⟩ := I.lim
    exact ⟨mc, kn _ (by decide) (by decide) _ hn, e⟩
  · exact ⟨kn _ (by decide) (by decide) _ I.bm.ns, I.bm.name, I.bm.ne, k _ _ I.low hb16 I.bm.obj, I.bm.cls, I.bm.dict, I.bm.data⟩
theorem Inv.at (I : Inv w mg mb bm ob h) (k : ∀ b o, b < 46 → h.get? b = some o → h'.get? b = some o) : Inv w mg mb bm ob h' :=
  I.ext (fun b o hb _ e => k b o hb e) (tab_at k I.tab)
theorem Inv.same {L : Addr} (I : Inv w mg mb bm ob h) (hL : 45 < L) (hs : Heap.SameBut L h h') : Inv w mg mb bm ob h' :=
  I.at fun b o hb e => hs.extBut b o (Nat.ne_of_lt (Nat.lt_of_lt_of_le hb hL)) e
theorem Inv.size (I : Inv w mg mb bm ob h) : 45 < h.objs.size := Heap.lt_size (I.K 45 _ rfl)
end
end Mine
end

/-! ## NGen -/
section
open PySem PySem.W PyProof.Rows
namespace Mine
variable {w : World} {A : Around} {E : Value → Shared → Prop} {s : Shared}

/-- the code object of a generator expression is had: it stands in its function's table, or it is made and put there -/
theorem code_had {env : Env} {c P : Addr} {p0 : Array Value} {pos : Pos} {qual : Str} {scope : Scope} {Q : Value → Shared → Prop} (hc : env.code = .ref c)
    (tab : ∃ ps, (s.heap.IsCode c P ps ∧ Grown p0 ps) ∧ s.heap.TableAt c P ps)
    (k : ∀ code h' tk, Heap.ExtBut P s.heap h' → s.heap.objs.size ≤ h'.objs.size → (∃ ps, (h'.IsCode c P ps ∧ Grown p0 ps) ∧ h'.TableAt c P ps) → Q code { s with heap := h', toks := tk }) :
    wpAny (model prog w) A (genexprCode env pos qual scope) Q E s := by
  obtain ⟨ps, ⟨ic, mo, grown⟩, tb⟩ := tab
  cases found : codeAmong pos ps.toList with
  | some code => exact wpAny_genexprCode_hit hc ic found (k code s.heap s.toks (Heap.ExtBut.refl _ _) (Nat.le_refl _) ⟨ps, ⟨ic, mo, grown⟩, tb⟩)
  | none =>
    refine wpAny_genexprCodeX hc ic tb found fun code h' tk kept low high ic' _ tb' _ => ?_
    exact k _ h' tk kept (Nat.le_of_lt (Nat.lt_of_le_of_lt low high)) ⟨_, ⟨ic', mo ++ _, by rw [grown, Array.append_assoc]⟩, tb'⟩
end Mine
end

/-! ## NPlat1 -/
section
open PySem PySem.W PyProof.Rows
namespace Mine
variable {w : World} {A : Around} {E : Value → Shared → Prop} {s : Shared} {mg mb : Str → Option Value} {bm : Addr} {ob : Obj × Array Value}

/-- how much the texts weigh -/
def wt (ts : List Str) : Nat := (ts.map (·.length)).sum + ts.length
def keepFull (ts : List Str) : List Str := ts.filter fun x => x.length != 0
def joined (ts : List Str) : Str := Txt.join (Str.ofString "-") ((keepFull ts).map Txt.strip)

theorem strs_filter : ∀ {vs : List Value} {ts : List Str}, StrsAre vs ts → StrsAre (vs.filter full) (keepFull ts)
  | _, _, .nil => .nil
  | _, _, .cons y t r => by
    have ih := strs_filter r
    unfold keepFull at ih ⊢
    by_cases h : (y.length != 0) = true
    · rw [List.filter_cons_of_pos (by exact h), List.filter_cons_of_pos (by exact h)]; exact .cons y t ih
    · rw [List.filter_cons_of_neg (by exact h), List.filter_cons_of_neg (by exact h)]; exact ih
theorem strs_mem : ∀ {vs : List Value} {ts : List Str}, StrsAre vs ts → ∀ v ∈ vs, ∃ x u, v = Value.str x u ∧ x ∈ ts
  | _, _, .cons y t r, v, hv => by
    rcases List.mem_cons.mp hv with rfl | hv
    · exact ⟨y, t, rfl, List.mem_cons_self⟩
    · obtain ⟨x, u, e, hx⟩ := strs_mem r v hv
      exact ⟨x, u, e, List.mem_cons_of_mem _ hx⟩
theorem wt_mem {ts : List Str} {x : Str} (h : x ∈ ts) : x.length ≤ wt ts := by
  unfold wt
  have : x.length ≤ (ts.map (·.length)).sum := by
    induction ts with
    | nil => cases h
    | cons y r ih =>
      rcases List.mem_cons.mp h with rfl | h
      · simp
      · have := ih h; simp; omega
  omega
theorem wt_filter (ts : List Str) : wt (keepFull ts) ≤ wt ts := by
  unfold wt keepFull
  induction ts with
  | nil => simp
  | cons y r ih =>
    by_cases h : (y.length != 0) = true
    · rw [List.filter_cons_of_pos (by exact h)]; simp only [List.map_cons, List.sum_cons, List.length_cons]; omega
    · rw [List.filter_cons_of_neg (by exact h)]; simp only [List.map_cons, List.sum_cons, List.length_cons]; omega
theorem strip_le (x : Str) : (Txt.strip x).length ≤ x.length := by
  exact len_strip x
theorem wt_strip (ts : List Str) : wt (ts.map Txt.strip) ≤ wt ts := by
  unfold wt
  induction ts with
  | nil => simp
  | cons y r ih => have := strip_le y; simp only [List.map_cons, List.sum_cons, List.length_cons] at ih ⊢; omega

theorem nmB {name : Str} {scope : Scope} {L a : Addr} {cd : Value} {x : Str} {pos : Pos} {v : Value} {Q : Value → Shared → Prop} (I : Inv w mg mb bm ob s.heap) (hn : x ≠ "__name__") (hv : bootBuiltins x = some v)
    (hfree : nsIn (hd.heap_39 w.params) mainGlobals x = some none) (h : Q v s)
    (hk : scope.kind = .function := by rfl) (hx : (envOf name scope L a cd).kindOf x = some .globalImplicit := by rfl) (hd : (x == ("__debug__" : Str)) = false := by decide) :
    wpAny (model prog w) A (eval (.Name x pos) (envOf name scope L a cd)) Q E s :=
  Calls.Name_function_global hk hx (Calls.loadGlobal_builtin (env := envOf name scope L a cd) I.g (mg_none_of I.K I.g hfree) I.b ((I.bb x hn).trans hv) h) hd

theorem fp_lt {T n b : Nat} (h : T < n) (hb : b ∈ [n + 1, n, T]) : b < n + 2 := by
  simp at hb; omega
theorem fp_16 {T L n : Nat} (h : L < n) (hL : 16 < L) (hT : T ≠ 16) : 16 ∉ [n + 1, n, T] := by
  simp; omega
theorem fp_2 {L n : Nat} (h : L < n) (hL : 16 < L) : cStatics ∉ [n] := by
  show (2 : Nat) ∉ [n]
  simp; omega

theorem fp_gen {C a b : Nat} (h : C < a) (hb : b ∈ a :: C :: List.range C) : b < a + 1 := by
  simp at hb; omega
theorem wr_not {b n C z : Nat} (hb : b < n) (hz : z = n + 2) (hC : z ≤ C) : b ∉ [C, n] := by
  simp; omega
theorem passing_true (n : Nat) : passing (fun _ => true) n 0 = List.range n := by simp [passing]
theorem join_items {vs : List Value} {ts : List Str} {l : List (Str × Tok)} (hv : StrsAre vs ts)
    (hacc : ItemsOf (fun j y => ∃ i, (passing (fun _ => true) vs.length 0)[j]? = some i ∧ ∃ x u u', vs[i]? = some (Value.str x u) ∧ y = Value.str (Txt.strip x) u') (strValues l).toArray (passing (fun _ => true) vs.length 0).length) :
    l.map (·.1) = ts.map Txt.strip := by
  have hlen : l.length = vs.length := by have := hacc.1; simpa [strValues, passing_true] using this
  apply List.ext_getElem?
  intro j
  by_cases hj : j < vs.length
  · have hjl : j < l.length := by omega
    have := hacc.2 j (.str l[j].1 l[j].2) (by simp [strValues, hjl])
    obtain ⟨i, hi, x, u, u', hx, e⟩ := this
    rw [passing_true] at hi
    have hij : j = i := by
      have h2 := hi
      rw [List.getElem?_range hj] at h2
      exact Option.some.inj h2
    subst hij
    have hjt : j < ts.length := by rw [← hv.length]; exact hj
    obtain ⟨t, ht⟩ := hv.get j ts[j] (List.getElem?_eq_getElem hjt)
    rw [hx] at ht
    injection ht with ht
    injection ht with ht _
    injection e with e _
    simp [hjl, hjt, e, ht]
  · have h1 : l.length ≤ j := by omega
    have h2 : ts.length ≤ j := by rw [← hv.length]; omega
    simp [h1, h2]

theorem plat_join {L T : Addr} {m : Str → Option Value} {Q : Flow → Shared → Prop} {items : Array Value} {ts : List Str}
   (I : Inv w mg mb bm ob s.heap) (hh : A.handled = none) (hd : A.depth < recursionLimit) (hg : AllBare s.gens)
   (hn : s.heap.Ns L m) (hm : m (Str.ofString "args") = some (.ref T)) (hT : s.heap.IsTuple T items) (hts : StrsAre items.toList ts) (hw : wt ts ≤ 1000) (hL : 45 < L)
   (hQ : ∀ s' t', Inv w mg mb bm ob s'.heap → s'.heap.Ns L (fun y => if y = Str.ofString "platform" then some (.str (joined ts) t') else m y) →
      (∀ b o, b ≠ L → b ≠ 16 → s.heap.get? b = some o → s'.heap.get? b = some o) → AllBare s'.gens → s'.os = s.os → Q .next s') :
   wpAny (model prog w) A (exec (stm 1 0) (envOf (Str.ofString "_platform") (scopeOf (top 1)) L 21 (.ref 20))) Q E s := by
  obtain ⟨hp, gs, dr, tk, os⟩ := s
  dsimp only at I hg hn hT hQ
  show wpAny _ _ (exec (Stmt.Assign _ _ _) (envOf _ ⟨_, _, _, _, _⟩ _ _ _)) _ _ _
  walk1
  walk1
  walk1
  walk1
  walk1
  walk1
  refine wpAny_GeneratorExp_walksQ (cl := []) hh rfl rfl (by decide) rfl rfl rfl hd ?_ (fun _ => rfl)
  walk1
  refine nmB (v := .type "filter") I (by decide) (by decide +kernel) (by rfl) ?_
  walk1
  walk1
  refine nmB (v := .builtin "len") I (by decide) (by decide +kernel) (by rfl) ?_
  walk1
  refine wpAny_Name (wpAny_loadName_local rfl rfl hn hm ?_) (by decide)
  walk1
  show wpAny _ _ (call (.type "filter") [.builtin "len", .ref T]) _ _ _
  refine call_filter hT fun h' hf hit hsz hk => ?_
  refine pyIter_filter hf ?_
  dsimp only at hf hit hsz hk ⊢
  have hTlt : T < hp.objs.size := let ⟨_, e, _⟩ := hT; Heap.lt_size e
  have hLlt : L < hp.objs.size := hn.lt
  have I' : Inv w mg mb bm ob h' := I.keeps hk
  have hT' : h'.IsTuple T items := let ⟨o, e, r⟩ := hT; ⟨o, hk _ _ e, r⟩
  have h16 : T ≠ 16 := fun e => by
    obtain ⟨o, ho, hc, _⟩ := hT
    obtain ⟨ps, _, ht⟩ := I.tab
    rw [e, ht.2] at ho; cases ho; cases hc
  have hstr : ∀ v ∈ items.toList, ∃ x u, v = Value.str x u ∧ x.length ≤ sizeLine := fun v hv => by
    obtain ⟨x, u, e, hx⟩ := strs_mem hts v hv
    exact ⟨x, u, e, Nat.le_trans (wt_mem hx) (Nat.le_trans hw (by decide))⟩
  refine ⟨I'.lim, code_had (c := 20) (P := 16) rfl I'.tab fun code h₃ tk₃ hx₃ hsz₃ ht₃ => ?_⟩
  have I₃ : Inv w mg mb bm ob h₃ := I'.ext (fun b o _ hb e => hx₃ b o hb e) ht₃
  refine wpAny_builtinsFor I₃.bm.ns I₃.bm.name I₃.bm.ne I₃.bm.obj I₃.bm.cls I₃.bm.dict I₃.bm.data ?_
  have n16 : ∀ b ∈ [hp.objs.size + 1, hp.objs.size, T], b ≠ 16 := fun b hb e => fp_16 hLlt (Nat.lt_of_le_of_lt (by decide) hL) h16 (e ▸ hb)
  have hf₃ : IsFilter h₃ (hp.objs.size + 1) hp.objs.size := hx₃ _ _ (n16 _ (by simp)) hf
  have hT₃ : h₃.IsTuple T items := let ⟨o, e, r⟩ := hT'; ⟨o, hx₃ _ _ h16 e, r⟩
  have hit₃ : h₃.IsTupleIter hp.objs.size T 0 := let ⟨o, e, r⟩ := hit; ⟨o, hx₃ _ _ (n16 _ (by simp)) e, r⟩
  refine ⟨hp.objs.size + 1, _, _, _, _, _, (fun _ => true), (fun i y => ∃ x u u', (items.toList.filter full)[i]? = some (Value.str x u) ∧ y = Value.str (Txt.strip x) u'), rfl,
    (fun A' hA => Walks_filter hA (hp.objs.size + 1) hp.objs.size T (Nat.succ_ne_self _) (Nat.ne_of_lt hTlt) items hstr), ⟨hf₃, hT₃, 0, hit₃, Nat.zero_le _, by simp [fulls]⟩, ?_, I₃.lim, ?_, ?_, ?_⟩
  · intro b hb
    exact Nat.lt_of_lt_of_le (fp_lt hTlt hb) (hsz ▸ hsz₃)
  · exact fp_2 hLlt (Nat.lt_of_le_of_lt (by decide) hL)
  · intro href hhref
    refine ⟨fun A' E' i v s₂ m₂ hA hP hns hmx _ => wpAny_pure ⟨rfl, s₂.heap, s₂.toks, rfl, fun _ _ e => e⟩, fun A' E' i v s₂ m₂ hA hP _ hns hmx _ => ?_⟩
    obtain ⟨x, u, rfl, hx⟩ := strs_mem (strs_filter hts) v (List.mem_of_getElem? hP)
    have hxl : x.length ≤ sizeLine := Nat.le_trans (wt_mem hx) (Nat.le_trans (wt_filter ts) (Nat.le_trans hw (by decide)))
    walk1
    refine wpAny_Name (wpAny_loadName_local rfl rfl hns hmx ?_) (by decide)
    walk1
    walk1
    walk1
    exact ⟨⟨x, u, _, hP, rfl⟩, s₂.heap, _, rfl, fun _ _ e => e⟩
  · intro a h₅ tk₅ gn hbare hCa hsz₅ hk₅ W hat
    dsimp only at hCa hk₅
    have hC : h'.objs.size ≤ h₃.objs.size := hsz₃
    generalize h₃.objs.size = C at hCa hC W hat
    have hx₅ : ∀ b o, b ≠ 16 → h'.get? b = some o → h₅.get? b = some o := fun b o hb e => hk₅ b o (hx₃ b o hb e)
    have ht₅ : ∃ ps, (h₅.IsCode 20 16 ps ∧ Grown ob.2 ps) ∧ h₅.TableAt 20 16 ps := tab_at (fun b o _ e => hk₅ b o e) ht₃
    have hg₅ : AllBare (gs.push gn) := hg.push hbare
    walk1
    show wpAny _ _ (call (.builtin "str.join") [.str (Str.ofString "-") _, .ref a]) _ _ _
    have hflt : ∀ b ∈ a :: C :: List.range C, b < h₅.objs.size := fun b hb => by rw [hsz₅]; exact fp_gen hCa hb
    have hvf := strs_filter hts
    refine SC.joinGen (W.in4_2) (fun i s' st => st.1.typeIs) hat hflt List.mem_cons_self (fun i v hv => ?_) (fun s' l hm hacc => ?_) ?_
    · obtain ⟨_, _, x, u, u', _, e⟩ := hv
      exact ⟨_, _, e⟩
    · have hl : l.map (·.1) = (keepFull ts).map Txt.strip := join_items hvf hacc
      rw [hl]
      have hok : JoinOk (Str.ofString "-") ((keepFull ts).map Txt.strip) = true := joinOk_of_weight (by
        have h1 := wt_strip (keepFull ts)
        have h2 := wt_filter ts
        unfold wt at h1 h2 hw
        omega) (by decide)
      refine ⟨hok, fun t' k => ?_⟩
      have hkeep : ∀ b o, b ≠ 16 → hp.get? b = some o → s'.heap.get? b = some o := fun b o hb e =>
        hm.heap b o (wr_not (Heap.lt_size e) hsz hC) (hx₅ b o hb (hk b o e))
      have hn' : s'.heap.Ns L m := hn.at' fun o e => hkeep L o (Nat.ne_of_gt (Nat.lt_of_le_of_lt (by decide) hL)) e
      have ht' : ∃ ps, (s'.heap.IsCode 20 16 ps ∧ Grown ob.2 ps) ∧ s'.heap.TableAt 20 16 ps :=
        tab_at (fun b o hb e => hm.heap b o (wr_not (Nat.lt_of_lt_of_le hb I.size) hsz hC) e) ht₅
      refine wpAny_storeName_local rfl hn' (fun h₆ hn₆ hs₆ => ?_) rfl
      have I₆ : Inv w mg mb bm ob s'.heap := I.ext (fun b o _ hb e => hkeep b o hb e) ht'
      have g' : AllBare s'.gens := hg₅.movedS hm
      have o' : s'.os = os := hm.os
      exact hQ _ t' (I₆.same hL hs₆) hn₆ (fun b o hbL hb e => hs₆.extBut b o hbL (hkeep b o hb e)) g' o'
    · show (passing (fun _ => true) _ 0).length ≤ sizeLine
      rw [passing_true, List.length_range, hvf.length]
      have h2 := wt_filter ts
      have : (keepFull ts).length ≤ wt (keepFull ts) := Nat.le_add_left _ _
      exact Nat.le_trans this (Nat.le_trans h2 (Nat.le_trans hw (by decide)))
end Mine
end

/-! ## MPure -/
section
open PySem PyProof.Rows
namespace Mine
open PySem.StrLaws Builtin Builtin.Str

/-! ### replace, on lists of code points -/
def rp (y z : List Nat) : List Nat → List Nat
  | [] => []
  | c :: r => if y.isPrefixOf (c :: r) then z ++ rp y z (r.drop (y.length - 1)) else c :: rp y z r
termination_by l => l.length
decreasing_by
  · simp; omega
  · simp

theorem rp_nil (y z : List Nat) : rp y z [] = [] := by rw [rp]
theorem rp_hit {y z l : List Nat} (hy : 1 ≤ y.length) (h : y.isPrefixOf l = true) : rp y z l = z ++ rp y z (l.drop y.length) := by
  cases l with
  | nil =>
    have := List.isPrefixOf_iff_prefix.mp h
    have := this.length_le
    simp at this
    simp [this] at hy
  | cons c r =>
    rw [rp, if_pos h]
    congr 1
    obtain ⟨n, hn⟩ : ∃ n, y.length = n + 1 := ⟨y.length - 1, by omega⟩
    rw [hn, List.drop_succ_cons, Nat.add_sub_cancel]
theorem rp_miss {y z : List Nat} {c : Nat} {r : List Nat} (h : y.isPrefixOf (c :: r) = false) : rp y z (c :: r) = c :: rp y z r := by
  rw [rp, if_neg (by rw [h]; exact Bool.false_ne_true)]

theorem at_iff {x y : Str} {k : Nat} (hk : k ≤ x.length) : At x y x.length k ↔ y.cps.toList.isPrefixOf (x.cps.toList.drop k) = true := by
  unfold At
  rw [subAt_eq, List.isPrefixOf_iff_prefix, List.prefix_iff_eq_take]
  have hx : x.cps.toList.length = x.length := by simp [Str.length]
  have hy : y.cps.toList.length = y.length := by simp [Str.length]
  constructor
  · rintro ⟨_, h⟩
    rw [hy]; exact (eq_of_beq h).symm
  · intro h
    rw [hy] at h
    refine ⟨?_, beq_iff_eq.mpr h.symm⟩
    have := congrArg List.length h
    rw [hy, List.length_take, List.length_drop, hx] at this
    omega

theorem rp_skip {x y : Str} {z : List Nat} : ∀ (d a : Nat), a + d ≤ x.length → (∀ k, a ≤ k → k < a + d → ¬ At x y x.length k) →
    rp y.cps.toList z (x.cps.toList.drop a) = (x.cps.toList.drop a).take d ++ rp y.cps.toList z (x.cps.toList.drop (a + d))
  | 0, a, _, _ => by simp
  | d + 1, a, h, hn => by
    have hx : x.cps.toList.length = x.length := by simp [Str.length]
    have hlt : a < x.cps.toList.length := by omega
    have h1 : y.cps.toList.isPrefixOf (x.cps.toList.drop a) = false := by
      cases hq : y.cps.toList.isPrefixOf (x.cps.toList.drop a) with
      | false => rfl
      | true => exact absurd ((at_iff (by omega)).mpr hq) (hn a (Nat.le_refl _) (by omega))
    have ih := rp_skip (z := z) d (a + 1) (by omega) fun k hk hk' => hn k (by omega) (by omega)
    rw [List.drop_eq_getElem_cons hlt] at h1 ⊢
    rw [rp_miss h1, ih, List.take_succ_cons, List.cons_append]
    congr 4
    omega

theorem rp_parts {x y : Str} (z : Str) (hy : 1 ≤ y.length) : ∀ (cuts : List Nat) (a f : Nat), a ≤ x.length → ChainG x y x.length a cuts f → (∀ k, f ≤ k → ¬ At x y x.length k) →
    (Str.join z (partsFrom x y.length a cuts)).cps.toList = rp y.cps.toList z.cps.toList (x.cps.toList.drop a)
  | [], a, f, ha, h, hn => by
    have hx : x.cps.toList.length = x.length := by simp [Str.length]
    have e : f = a := h
    subst e
    show (strSub x f x.length).cps.toList = _
    rw [strSub_toList, rp_skip (x.length - f) f (by omega) fun k hk _ => hn k hk]
    rw [show f + (x.length - f) = x.length by omega, List.drop_of_length_le (by omega : x.cps.toList.length ≤ x.length), rp_nil, List.append_nil]
  | c :: r, a, f, ha, h, hn => by
    have hx : x.cps.toList.length = x.length := by simp [Str.length]
    have hyl : y.cps.toList.length = y.length := by simp [Str.length]
    obtain ⟨h1, h2, h3, h4⟩ := h
    have hc : c + y.length ≤ x.length := h2.1
    have ih := rp_parts z hy r (c + y.length) f hc h4 hn
    obtain ⟨p, q, e⟩ := partsFrom_ne x y.length (c + y.length) r
    show (Str.join z (strSub x a c :: partsFrom x y.length (c + y.length) r)).cps.toList = _
    rw [e] at ih ⊢
    show (strSub x a c ++ z ++ Str.join z (p :: q)).cps.toList = _
    rw [Str.cps_append, Str.cps_append, Array.toList_append, Array.toList_append, ih, strSub_toList]
    rw [rp_skip (c - a) a (by omega) fun k hk hk' => h3 k hk (by omega)]
    rw [show a + (c - a) = c by omega, rp_hit (l := x.cps.toList.drop c) (by omega) ((at_iff (by omega)).mp h2), List.drop_drop, hyl, List.append_assoc]

theorem replace_rp (x y z : Str) (hy : 1 ≤ y.length) : (Txt.replace x y z).cps.toList = rp y.cps.toList z.cps.toList x.cps.toList := by
  obtain ⟨f, hch, hno⟩ := occ_tight x y hy
  have hp := rp_parts z hy _ 0 f (Nat.zero_le _) hch hno
  rw [List.drop_zero] at hp
  have h10 : (y.length == 0) = false := by simp; omega
  unfold Txt.replace
  rw [h10, Bool.false_and, Bool.or_false]
  split
  · rename_i he
    rw [List.isEmpty_iff.mp he] at hch
    have e : f = 0 := hch
    have hx : x.cps.toList.length = x.length := by simp [Str.length]
    have := rp_skip (x := x) (y := y) (z := z.cps.toList) x.length 0 (by omega) fun k hk _ => hno k (by omega)
    rw [List.drop_zero] at this
    rw [this, Nat.zero_add, List.take_of_length_le (by omega), List.drop_of_length_le (by omega), rp_nil, List.append_nil]
  · rw [glued_eq_join, partsBetween_eq]
    exact hp

/-! one sign for another -/
theorem rp_one (a b : Nat) : ∀ l : List Nat, rp [a] [b] l = l.map fun c => if c = a then b else c
  | [] => rp_nil _ _
  | c :: r => by
    by_cases h : c = a
    · subst h
      rw [rp_hit (by simp) (by simp)]
      simp [rp_one c b r]
    · rw [rp_miss (Bool.eq_false_iff.mpr (by simp [Ne.symm h])), rp_one a b r]
      simp [h]

/-! ### hyphens -/
/-- a hyphen behind a hyphen is passed over -/
def step (acc : List Nat) (c : Nat) : List Nat := if c ≠ 45 ∨ acc.getLast? ≠ some 45 then acc ++ [c] else acc
def col (l : List Nat) : List Nat := l.foldl step []

theorem step_twice (acc : List Nat) : step (step acc 45) 45 = step acc 45 := by
  have h : (step acc 45).getLast? = some 45 := by
    unfold step
    split
    · simp
    · rename_i h
      simpa using h
  generalize step acc 45 = a at h
  unfold step
  rw [h]; simp

theorem col_rp : ∀ (n : Nat) (l acc : List Nat), l.length ≤ n → (rp [45, 45] [45] l).foldl step acc = l.foldl step acc := by
  intro n
  induction n with
  | zero => intro l acc h; have : l = [] := List.eq_nil_of_length_eq_zero (by omega); subst this; rw [rp_nil]
  | succ n ih =>
    intro l acc h
    match l with
    | [] => rw [rp_nil]
    | [c] => rw [rp_miss (Bool.eq_false_iff.mpr (by simp)), rp_nil]
    | c :: d :: r =>
      by_cases hh : c = 45 ∧ d = 45
      · obtain ⟨rfl, rfl⟩ := hh
        rw [rp_hit (by simp) (by simp)]
        simp only [List.length_cons, List.length_nil, List.drop_succ_cons, List.drop_zero, List.cons_append, List.nil_append, List.foldl_cons]
        rw [ih r _ (by simp at h; omega), step_twice]
      · have : ([45, 45] : List Nat).isPrefixOf (c :: d :: r) = false := by
          simp only [List.isPrefixOf, Bool.and_eq_false_iff, beq_eq_false_iff_ne]
          by_cases h1 : c = 45
          · right; left; exact fun e => hh ⟨h1, e.symm⟩
          · left; exact Ne.symm h1
        rw [rp_miss this, List.foldl_cons, List.foldl_cons, ih (d :: r) _ (by simp at h ⊢; omega)]

theorem rp_len : ∀ (n : Nat) (l : List Nat), l.length ≤ n → rp [45, 45] [45] l = l ∨ (rp [45, 45] [45] l).length < l.length := by
  intro n
  induction n with
  | zero => intro l h; have : l = [] := List.eq_nil_of_length_eq_zero (by omega); subst this; left; rw [rp_nil]
  | succ n ih =>
    intro l h
    match l with
    | [] => left; rw [rp_nil]
    | [c] => left; rw [rp_miss (Bool.eq_false_iff.mpr (by simp)), rp_nil]
    | c :: d :: r =>
      by_cases hh : ([45, 45] : List Nat).isPrefixOf (c :: d :: r) = true
      · right
        rw [rp_hit (by simp) hh]
        have := ih r (by simp at h; omega)
        simp only [List.length_cons, List.length_nil, List.drop_succ_cons, List.drop_zero, List.cons_append, List.nil_append]
        rcases this with e | e
        · rw [e]; omega
        · omega
      · rw [rp_miss (Bool.eq_false_iff.mpr hh)]
        rcases ih (d :: r) (by simp at h ⊢; omega) with e | e
        · left; rw [e]
        · right; simp at e ⊢; exact e

/-- no two hyphens stand side by side -/
def Single : List Nat → Prop
  | [] => True
  | [_] => True
  | c :: d :: r => ¬ (c = 45 ∧ d = 45) ∧ Single (d :: r)

theorem single_of_fix : ∀ l : List Nat, rp [45, 45] [45] l = l → Single l
  | [], _ => trivial
  | [_], _ => trivial
  | c :: d :: r, h => by
    by_cases hh : ([45, 45] : List Nat).isPrefixOf (c :: d :: r) = true
    · exfalso
      rw [rp_hit (by simp) hh] at h
      have := congrArg List.length h
      simp only [List.length_cons, List.length_nil, List.drop_succ_cons, List.drop_zero, List.cons_append, List.nil_append] at this
      rcases rp_len _ r (Nat.le_refl _) with e | e
      · rw [e] at this; omega
      · omega
    · have hm := rp_miss (y := [45, 45]) (z := [45]) (c := c) (r := d :: r) (Bool.eq_false_iff.mpr hh)
      rw [hm] at h
      refine ⟨fun ⟨h1, h2⟩ => hh (by simp [h1, h2]), single_of_fix (d :: r) (List.cons.inj h).2⟩

theorem foldl_single : ∀ (l acc : List Nat), Single l → (acc.getLast? = some 45 → l.head? ≠ some 45) → l.foldl step acc = acc ++ l
  | [], acc, _, _ => by simp
  | [c], acc, _, h => by
    simp only [List.foldl_cons, List.foldl_nil, step]
    by_cases hc : c = 45
    · rw [if_pos (.inr fun e => h e (by simp [hc]))]
    · rw [if_pos (.inl hc)]
  | c :: d :: r, acc, hs, h => by
    have e : step acc c = acc ++ [c] := by
      unfold step
      by_cases hc : c = 45
      · rw [if_pos (.inr fun e => h e (by simp [hc]))]
      · rw [if_pos (.inl hc)]
    rw [List.foldl_cons, e, foldl_single (d :: r) (acc ++ [c]) hs.2 (fun h1 h2 => hs.1 (by simp at h1 h2; exact ⟨h1, h2⟩))]
    simp
theorem col_single {l : List Nat} (h : Single l) : col l = l := by
  unfold col; rw [foldl_single l [] h (by simp)]; simp

theorem single_snoc : ∀ (l : List Nat) (c : Nat), Single l → (c ≠ 45 ∨ l.getLast? ≠ some 45) → Single (l ++ [c])
  | [], _, _, _ => trivial
  | [d], c, _, h => ⟨fun ⟨h1, h2⟩ => by rcases h with h | h; exact h h2; exact h (by simp [h1]), trivial⟩
  | d :: e :: r, c, hs, h => ⟨hs.1, single_snoc (e :: r) c hs.2 (by rcases h with h | h; exact .inl h; exact .inr (by simpa using h))⟩
theorem step_single {acc : List Nat} {c : Nat} (h : Single acc) : Single (step acc c) := by
  unfold step
  split
  · rename_i hc; exact single_snoc acc c h hc
  · exact h
theorem foldl_step_single : ∀ (l acc : List Nat), Single acc → Single (l.foldl step acc)
  | [], _, h => h
  | c :: r, acc, h => foldl_step_single r _ (step_single h)
theorem col_is_single (l : List Nat) : Single (col l) := foldl_step_single l [] trivial

/-- all hyphens at the end are taken off -/
def rst (l : List Nat) : List Nat := (l.reverse.dropWhile (· == 45)).reverse
/-- one hyphen at the end is taken off -/
def off1 (l : List Nat) : List Nat := if l.getLast? = some 45 then l.dropLast else l

theorem rst_stop {l : List Nat} (h : l.getLast? ≠ some 45) : rst l = l := by
  unfold rst
  cases hr : l.reverse with
  | nil => have : l = [] := by simpa using hr
           subst this; rfl
  | cons a b =>
    have hl : l = b.reverse ++ [a] := by rw [← List.reverse_reverse l, hr]; simp
    have ha : a ≠ 45 := fun e => h (by rw [hl, e]; simp)
    rw [List.dropWhile_cons_of_neg (by simpa using ha), ← hr, List.reverse_reverse]
theorem rst_go {l : List Nat} (h : l.getLast? = some 45) : rst l = rst l.dropLast := by
  unfold rst
  cases hr : l.reverse with
  | nil => have : l = [] := by simpa using hr
           subst this; simp at h
  | cons a b =>
    have hl : l = b.reverse ++ [a] := by rw [← List.reverse_reverse l, hr]; simp
    have ha : a = 45 := by rw [hl] at h; simpa using h
    rw [List.dropWhile_cons_of_pos (by simpa using ha), hl]
    simp
theorem single_last : ∀ (l : List Nat), Single l → l.getLast? = some 45 → l.dropLast.getLast? ≠ some 45
  | [], _, h => by simp at h
  | [c], _, _ => by simp
  | [c, d], hs, h => by
    simp at h ⊢
    exact fun e => hs.1 ⟨e, h⟩
  | c :: d :: e :: r, hs, h => by
    have := single_last (d :: e :: r) hs.2 (by simpa using h)
    simpa using this
theorem rst_single {l : List Nat} (h : Single l) : rst l = off1 l := by
  unfold off1
  split
  · rename_i hl
    rw [rst_go hl, rst_stop (single_last l h hl)]
  · rename_i hl
    exact rst_stop hl

/-! ### the law's walk -/
def unk : List Nat := [117, 110, 107, 110, 111, 119, 110]
def tl : List Nat → List Nat → List Nat
  | [], acc => acc
  | c :: r, acc => if unk.isPrefixOf (c :: r) then tl (r.drop 6) acc else tl r (step acc c)
termination_by l => l.length
decreasing_by
  · simp; omega
  · simp
theorem tl_nil (acc : List Nat) : tl [] acc = acc := by rw [tl]
theorem tl_hit {l acc : List Nat} (h : unk.isPrefixOf l = true) : tl l acc = tl (l.drop 7) acc := by
  cases l with
  | nil => simp [unk] at h
  | cons c r => rw [tl, if_pos h]; rfl
theorem tl_miss {c : Nat} {r acc : List Nat} (h : unk.isPrefixOf (c :: r) = false) : tl (c :: r) acc = tl r (step acc c) := by
  rw [tl, if_neg (by rw [h]; exact Bool.false_ne_true)]
theorem tl_rp : ∀ (n : Nat) (l acc : List Nat), l.length ≤ n → tl l acc = (rp unk [] l).foldl step acc := by
  intro n
  induction n with
  | zero => intro l acc h; have : l = [] := List.eq_nil_of_length_eq_zero (by omega); subst this; rw [rp_nil, tl_nil]; rfl
  | succ n ih =>
    intro l acc h
    cases l with
    | nil => rw [rp_nil, tl_nil]; rfl
    | cons c r =>
      by_cases hh : unk.isPrefixOf (c :: r) = true
      · rw [tl_hit hh, rp_hit (by simp [unk]) hh, List.nil_append]
        exact ih _ _ (by simp [unk] at h ⊢; omega)
      · have hh' : unk.isPrefixOf (c :: r) = false := Bool.eq_false_iff.mpr hh
        rw [tl_miss hh', rp_miss hh', List.foldl_cons]
        exact ih r _ (by simp at h; omega)
theorem tl_col (l : List Nat) : tl l [] = col (rp unk [] l) := tl_rp _ l [] (Nat.le_refl _)
end Mine
end

/-! ## NPlat2 -/
section
open PySem PySem.W PyProof.Rows
namespace Mine
variable {w : World} {A : Around} {E : Value → Shared → Prop} {s : Shared} {mg mb : Str → Option Value} {bm : Addr} {ob : Obj × Array Value}

abbrev envP (L : Addr) : Env := envOf (Str.ofString "_platform") (scopeOf (top 1)) L 21 (.ref 20)
/-- one name bound anew -/
def upd (m : Str → Option Value) (x : Str) (v : Value) : Str → Option Value := fun y => if y = x then some v else m y
theorem upd_same (m : Str → Option Value) (x : Str) (v : Value) : upd m x v x = some v := if_pos rfl
theorem upd_ne (m : Str → Option Value) {x y : Str} (v : Value) (h : y ≠ x) : upd m x v y = m y := if_neg h
abbrev pS : Str := Str.ofString "platform"
abbrev cS : Str := Str.ofString "cleaned"
local macro_rules | `(tactic| walk_at "mine replace") => `(tactic| (
  refine wpAny_with_toks (n := 1) (by assumption) ?_
  show wpAny _ _ (exec (Stmt.Assign _ _ _) (envOf _ ⟨_, _, _, _, _⟩ _ _ _)) _ _ _
  walk1
  walk1
  refine wpAny_Name (wpAny_loadName_local rfl rfl (by assumption) (by assumption) ?_) (by decide)
  walk1
  walk1
  walk1
  walk1
  walk1
  walk1
  walk1))

theorem plat_r1 {L : Addr} {m : Str → Option Value} {X : Str} {t : Tok} {Q : Flow → Shared → Prop}
    (htk : 0 < s.toks) (hn : s.heap.Ns L m) (hm : m (Str.ofString "platform") = some (.str X t)) (hX : X.length ≤ 1000)
    (hQ : ∀ h' tk t', 0 < tk → h'.Ns L (upd m pS (.str (Txt.replace X (Str.ofString " ") (Str.ofString "_")) t')) → Heap.SameBut L s.heap h' → Q .next { s with heap := h', toks := tk }) :
    wpAny (model prog w) A (exec (stm 1 1) (envP L)) Q E s := by
  walk_at "mine replace"
  refine SC.replaceW (Nat.ne_of_gt htk) (Nat.succ_ne_zero _) (Nat.ne_of_lt (Nat.lt_succ_self _)) (by decide) (Nat.le_trans hX (by decide)) (by decide) fun t' k => ?_
  exact wpAny_storeName_local rfl hn (fun h' hn' hs' htk' => hQ h' _ t' htk' hn' hs') rfl

theorem plat_r2 {L : Addr} {m : Str → Option Value} {X : Str} {t : Tok} {Q : Flow → Shared → Prop}
    (htk : 0 < s.toks) (hn : s.heap.Ns L m) (hm : m (Str.ofString "platform") = some (.str X t)) (hX : X.length ≤ 1000)
    (hQ : ∀ h' tk t', 0 < tk → h'.Ns L (upd m pS (.str (Txt.replace X (Str.ofString "/") (Str.ofString "-")) t')) → Heap.SameBut L s.heap h' → Q .next { s with heap := h', toks := tk }) :
    wpAny (model prog w) A (exec (stm 1 2) (envP L)) Q E s := by
  walk_at "mine replace"
  refine SC.replaceW (Nat.ne_of_gt htk) (Nat.succ_ne_zero _) (Nat.ne_of_lt (Nat.lt_succ_self _)) (by decide) (Nat.le_trans hX (by decide)) (by decide) fun t' k => ?_
  exact wpAny_storeName_local rfl hn (fun h' hn' hs' htk' => hQ h' _ t' htk' hn' hs') rfl

theorem plat_r3 {L : Addr} {m : Str → Option Value} {X : Str} {t : Tok} {Q : Flow → Shared → Prop}
    (htk : 0 < s.toks) (hn : s.heap.Ns L m) (hm : m (Str.ofString "platform") = some (.str X t)) (hX : X.length ≤ 1000)
    (hQ : ∀ h' tk t', 0 < tk → h'.Ns L (upd m pS (.str (Txt.replace X (Str.ofString "\\") (Str.ofString "-")) t')) → Heap.SameBut L s.heap h' → Q .next { s with heap := h', toks := tk }) :
    wpAny (model prog w) A (exec (stm 1 3) (envP L)) Q E s := by
  walk_at "mine replace"
  refine SC.replaceW (Nat.ne_of_gt htk) (Nat.succ_ne_zero _) (Nat.ne_of_lt (Nat.lt_succ_self _)) (by decide) (Nat.le_trans hX (by decide)) (by decide) fun t' k => ?_
  exact wpAny_storeName_local rfl hn (fun h' hn' hs' htk' => hQ h' _ t' htk' hn' hs') rfl

theorem plat_r4 {L : Addr} {m : Str → Option Value} {X : Str} {t : Tok} {Q : Flow → Shared → Prop}
    (htk : 0 < s.toks) (hn : s.heap.Ns L m) (hm : m (Str.ofString "platform") = some (.str X t)) (hX : X.length ≤ 1000)
    (hQ : ∀ h' tk t', 0 < tk → h'.Ns L (upd m pS (.str (Txt.replace X (Str.ofString ":") (Str.ofString "-")) t')) → Heap.SameBut L s.heap h' → Q .next { s with heap := h', toks := tk }) :
    wpAny (model prog w) A (exec (stm 1 4) (envP L)) Q E s := by
  walk_at "mine replace"
  refine SC.replaceW (Nat.ne_of_gt htk) (Nat.succ_ne_zero _) (Nat.ne_of_lt (Nat.lt_succ_self _)) (by decide) (Nat.le_trans hX (by decide)) (by decide) fun t' k => ?_
  exact wpAny_storeName_local rfl hn (fun h' hn' hs' htk' => hQ h' _ t' htk' hn' hs') rfl

theorem plat_r5 {L : Addr} {m : Str → Option Value} {X : Str} {t : Tok} {Q : Flow → Shared → Prop}
    (htk : 0 < s.toks) (hn : s.heap.Ns L m) (hm : m (Str.ofString "platform") = some (.str X t)) (hX : X.length ≤ 1000)
    (hQ : ∀ h' tk t', 0 < tk → h'.Ns L (upd m pS (.str (Txt.replace X (Str.ofString ";") (Str.ofString "-")) t')) → Heap.SameBut L s.heap h' → Q .next { s with heap := h', toks := tk }) :
    wpAny (model prog w) A (exec (stm 1 5) (envP L)) Q E s := by
  walk_at "mine replace"
  refine SC.replaceW (Nat.ne_of_gt htk) (Nat.succ_ne_zero _) (Nat.ne_of_lt (Nat.lt_succ_self _)) (by decide) (Nat.le_trans hX (by decide)) (by decide) fun t' k => ?_
  exact wpAny_storeName_local rfl hn (fun h' hn' hs' htk' => hQ h' _ t' htk' hn' hs') rfl

theorem plat_r6 {L : Addr} {m : Str → Option Value} {X : Str} {t : Tok} {Q : Flow → Shared → Prop}
    (htk : 0 < s.toks) (hn : s.heap.Ns L m) (hm : m (Str.ofString "platform") = some (.str X t)) (hX : X.length ≤ 1000)
    (hQ : ∀ h' tk t', 0 < tk → h'.Ns L (upd m pS (.str (Txt.replace X (Str.ofString "\"") (Str.ofString "-")) t')) → Heap.SameBut L s.heap h' → Q .next { s with heap := h', toks := tk }) :
    wpAny (model prog w) A (exec (stm 1 6) (envP L)) Q E s := by
  walk_at "mine replace"
  refine SC.replaceW (Nat.ne_of_gt htk) (Nat.succ_ne_zero _) (Nat.ne_of_lt (Nat.lt_succ_self _)) (by decide) (Nat.le_trans hX (by decide)) (by decide) fun t' k => ?_
  exact wpAny_storeName_local rfl hn (fun h' hn' hs' htk' => hQ h' _ t' htk' hn' hs') rfl

theorem plat_r7 {L : Addr} {m : Str → Option Value} {X : Str} {t : Tok} {Q : Flow → Shared → Prop}
    (htk : 0 < s.toks) (hn : s.heap.Ns L m) (hm : m (Str.ofString "platform") = some (.str X t)) (hX : X.length ≤ 1000)
    (hQ : ∀ h' tk t', 0 < tk → h'.Ns L (upd m pS (.str (Txt.replace X (Str.ofString "(") (Str.ofString "-")) t')) → Heap.SameBut L s.heap h' → Q .next { s with heap := h', toks := tk }) :
    wpAny (model prog w) A (exec (stm 1 7) (envP L)) Q E s := by
  walk_at "mine replace"
  refine SC.replaceW (Nat.ne_of_gt htk) (Nat.succ_ne_zero _) (Nat.ne_of_lt (Nat.lt_succ_self _)) (by decide) (Nat.le_trans hX (by decide)) (by decide) fun t' k => ?_
  exact wpAny_storeName_local rfl hn (fun h' hn' hs' htk' => hQ h' _ t' htk' hn' hs') rfl

theorem plat_r8 {L : Addr} {m : Str → Option Value} {X : Str} {t : Tok} {Q : Flow → Shared → Prop}
    (htk : 0 < s.toks) (hn : s.heap.Ns L m) (hm : m (Str.ofString "platform") = some (.str X t)) (hX : X.length ≤ 1000)
    (hQ : ∀ h' tk t', 0 < tk → h'.Ns L (upd m pS (.str (Txt.replace X (Str.ofString ")") (Str.ofString "-")) t')) → Heap.SameBut L s.heap h' → Q .next { s with heap := h', toks := tk }) :
    wpAny (model prog w) A (exec (stm 1 8) (envP L)) Q E s := by
  walk_at "mine replace"
  refine SC.replaceW (Nat.ne_of_gt htk) (Nat.succ_ne_zero _) (Nat.ne_of_lt (Nat.lt_succ_self _)) (by decide) (Nat.le_trans hX (by decide)) (by decide) fun t' k => ?_
  exact wpAny_storeName_local rfl hn (fun h' hn' hs' htk' => hQ h' _ t' htk' hn' hs') rfl

theorem plat_r9 {L : Addr} {m : Str → Option Value} {X : Str} {t : Tok} {Q : Flow → Shared → Prop}
    (htk : 0 < s.toks) (hn : s.heap.Ns L m) (hm : m (Str.ofString "platform") = some (.str X t)) (hX : X.length ≤ 1000)
    (hQ : ∀ h' tk t', 0 < tk → h'.Ns L (upd m pS (.str (Txt.replace X (Str.ofString "unknown") (Str.ofString "")) t')) → Heap.SameBut L s.heap h' → Q .next { s with heap := h', toks := tk }) :
    wpAny (model prog w) A (exec (stm 1 9) (envP L)) Q E s := by
  walk_at "mine replace"
  refine SC.replaceW (Nat.ne_of_gt htk) (Nat.succ_ne_zero _) (Nat.ne_of_lt (Nat.lt_succ_self _)) (by decide) (Nat.le_trans hX (by decide)) (by decide) fun t' k => ?_
  exact wpAny_storeName_local rfl hn (fun h' hn' hs' htk' => hQ h' _ t' htk' hn' hs') rfl

/-! the nine in a row -/
def reps9 (X : Str) : Str :=
  Txt.replace (Txt.replace (Txt.replace (Txt.replace (Txt.replace (Txt.replace (Txt.replace (Txt.replace (Txt.replace X
    (Str.ofString " ") (Str.ofString "_")) (Str.ofString "/") (Str.ofString "-")) (Str.ofString "\\") (Str.ofString "-")) (Str.ofString ":") (Str.ofString "-"))
    (Str.ofString ";") (Str.ofString "-")) (Str.ofString "\"") (Str.ofString "-")) (Str.ofString "(") (Str.ofString "-")) (Str.ofString ")") (Str.ofString "-")) (Str.ofString "unknown") (Str.ofString "")

end Mine
end

/-! ## NPlat3 -/
section
open PySem PySem.W PyProof.Rows
namespace Mine
variable {w : World} {A : Around} {E : Value → Shared → Prop} {s : Shared} {mg mb : Str → Option Value} {bm : Addr} {ob : Obj × Array Value}
local macro_rules | `(tactic| walk_at "mine replace") => `(tactic| (
  walk1
  walk1
  refine wpAny_Name (wpAny_loadName_local rfl rfl (by assumption) (by assumption) ?_) (by decide)
  walk1
  walk1
  walk1
  walk1
  walk1
  walk1
  walk1))

theorem plat_loop1 {L : Addr} {m : Str → Option Value} {X : Str} {t : Tok} {Q : Flow → Shared → Prop}
    (htk : 0 < s.toks) (hn : s.heap.Ns L m) (hm : m (Str.ofString "platform") = some (.str X t)) (hX : X.length ≤ 1000)
    (hQ : ∀ h' tk m' t' Y, 0 < tk → h'.Ns L m' → m' (Str.ofString "platform") = some (.str Y t') → Y.cps.toList = col X.cps.toList → Y.length ≤ 1000 → Heap.SameBut L s.heap h' → Q .next { s with heap := h', toks := tk }) :
    wpAny (model prog w) A (exec (stm 1 10) (envP L)) Q E s := by
  show wpAny _ _ (exec (Stmt.While _ _ _ _) (envOf _ ⟨_, _, _, _, _⟩ _ _ _)) _ _ _
  refine wpAny_While ?_
  refine codeAny_whileLoop (fun n s' => ∃ h' tk m' t' Y, s' = { s with heap := h', toks := tk } ∧ 0 < tk ∧ Heap.SameBut L s.heap h' ∧ h'.Ns L m' ∧ m' (Str.ofString "platform") = some (.str Y t') ∧ Y.length ≤ 1000 ∧ col Y.cps.toList = col X.cps.toList ∧ n = Y.length) ?_ X.length
    ⟨s.heap, s.toks, m, t, X, rfl, htk, Heap.SameBut.refl _ _, hn, hm, hX, rfl, rfl⟩
  rintro n s' ⟨h₁, tk₁, m₁, t₁, Y, rfl, htk₁, hs₁, hn₁, hm₁, hY, hcol, rfl⟩
  walk1
  walk1
  walk1
  rw [if_pos rfl]
  walk1
  walk_at "mine replace"
  refine wpAny_with_toks (n := 1) (Nat.succ_le_succ (Nat.zero_le _)) ?_
  refine SC.replaceW (Nat.ne_of_gt htk₁) (Nat.succ_ne_zero _) (Nat.ne_of_lt (Nat.lt_succ_self _)) (by decide) (Nat.le_trans hY (by decide)) (by decide) fun t₂ k₂ htk₂ => ?_
  refine wpAny_storeName_local rfl hn₁ (fun h₃ hn₃ hs₃ => ?_) rfl
  dsimp only at htk₂ hs₃ hn₃ ⊢
  have hZ : (Txt.replace Y (Str.ofString "--") (Str.ofString "-")).cps.toList = rp [45, 45] [45] Y.cps.toList := replace_rp _ _ _ (by decide)
  have hm3a : (fun x => if x = Str.ofString "cleaned" then some (Value.str (Txt.replace Y (Str.ofString "--") (Str.ofString "-")) t₂) else m₁ x) (Str.ofString "cleaned") = some (Value.str (Txt.replace Y (Str.ofString "--") (Str.ofString "-")) t₂) := if_pos rfl
  have hm3b : (fun x => if x = Str.ofString "cleaned" then some (Value.str (Txt.replace Y (Str.ofString "--") (Str.ofString "-")) t₂) else m₁ x) (Str.ofString "platform") = some (Value.str Y t₁) := (if_neg (by decide)).trans hm₁
  generalize (fun x => if x = Str.ofString "cleaned" then some (Value.str (Txt.replace Y (Str.ofString "--") (Str.ofString "-")) t₂) else m₁ x) = m₃ at hn₃ hm3a hm3b
  generalize Txt.replace Y (Str.ofString "--") (Str.ofString "-") = Z at *
  walk1
  walk1
  walk1
  refine wpAny_Name (wpAny_loadName_local rfl rfl hn₃ hm3a ?_) (by decide)
  refine wpAny_Name (wpAny_loadName_local rfl rfl hn₃ hm3b ?_) (by decide)
  walk1
  walk1
  by_cases hZY : Z = Y
  · rw [if_pos (by simp [hZY])]
    walk1
    walk1
    dsimp only
    refine hQ h₃ (k₂ + 1) m₃ t₁ Y (Nat.succ_pos _) hn₃ hm3b ?_ hY (hs₁.trans hs₃)
    rw [hZY] at hZ
    rw [← hcol]
    exact (col_single (single_of_fix _ hZ.symm)).symm
  · rw [if_neg (by simp [hZY])]
    walk1
    walk1
    walk1
    refine wpAny_Name (wpAny_loadName_local rfl rfl hn₃ hm3a ?_) (by decide)
    refine wpAny_storeName_local rfl hn₃ (fun h₄ hn₄ hs₄ => ?_) rfl
    walk1
    have hlt : Z.length < Y.length := by
      have h1 : Z.cps.toList.length = Z.length := by simp [Str.length]
      have h2 : Y.cps.toList.length = Y.length := by simp [Str.length]
      rcases rp_len _ Y.cps.toList (Nat.le_refl _) with e | e
      · exact absurd (Str.ext' (Array.toList_inj.mp (hZ.trans e))) hZY
      · rw [← hZ] at e; omega
    refine ⟨Z.length, hlt, h₄, _, _, t₂, Z, rfl, Nat.succ_pos _, (hs₁.trans hs₃).trans hs₄, hn₄, if_pos rfl, by omega, ?_, rfl⟩
    rw [← hcol, hZ]
    exact col_rp _ _ [] (Nat.le_refl _)
end Mine
end

/-! ## NPlat4 -/
section
open PySem PySem.W PyProof.Rows
namespace Mine
variable {w : World} {A : Around} {E : Value → Shared → Prop} {s : Shared} {mg mb : Str → Option Value} {bm : Addr} {ob : Obj × Array Value}

theorem kept_all (h₀ : Heap) : KeptH (fun h => ∀ b o, h₀.get? b = some o → h.get? b = some o) := fun _ _ k b o e => Heap.get?_push_of_some _ (k b o e)
section
variable {value slice : Expr} {x : Str} {t : Tok} {Q : Value → Shared → Prop}
theorem cut_ns {j : Int} {uj : Tok} (h : ∀ h' t' k, (∀ b o, s.heap.get? b = some o → h'.get? b = some o) → Q (.str (Txt.slice x none (some j)) t') { s with heap := h', toks := k })
    (hs : subscripted slice false (.str x t) (.ref s.heap.objs.size) = operate [.ref s.heap.objs.size, .str x t] (getItem (.str x t) (.ref s.heap.objs.size)) := by with_unfolding_all rfl)
    (ht : ∀ r, letTemporaryGo value (.str x t) r = pure () := by intro _; with_unfolding_all rfl) (hsz : x.length ≤ sizeLine := by size_fits) :
    wpAny (model prog w) A (subscriptTail value slice (.str x t) (.ref s.heap.objs.size)) Q E { s with heap := s.heap.push { cls := .type "slice", data := .fields #[.none, .int j uj, .none] } } :=
  tail_of_ItemOn (SBH.sliceItem_ns (kept_all s.heap) (fun _ _ e => e) h hsz) hs ht
theorem cut_sn {i : Int} {ui : Tok} (h : ∀ h' t' k, (∀ b o, s.heap.get? b = some o → h'.get? b = some o) → Q (.str (Txt.slice x (some i) none) t') { s with heap := h', toks := k })
    (hs : subscripted slice false (.str x t) (.ref s.heap.objs.size) = operate [.ref s.heap.objs.size, .str x t] (getItem (.str x t) (.ref s.heap.objs.size)) := by with_unfolding_all rfl)
    (ht : ∀ r, letTemporaryGo value (.str x t) r = pure () := by intro _; with_unfolding_all rfl) (hsz : x.length ≤ sizeLine := by size_fits) :
    wpAny (model prog w) A (subscriptTail value slice (.str x t) (.ref s.heap.objs.size)) Q E { s with heap := s.heap.push { cls := .type "slice", data := .fields #[.int i ui, .none, .none] } } :=
  tail_of_ItemOn (SBH.sliceItem_sn (kept_all s.heap) (fun _ _ e => e) h hsz) hs ht
theorem cut_ss {i j : Int} {ui uj : Tok} (h : ∀ h' t' k, (∀ b o, s.heap.get? b = some o → h'.get? b = some o) → Q (.str (Txt.slice x (some i) (some j)) t') { s with heap := h', toks := k })
    (hs : subscripted slice false (.str x t) (.ref s.heap.objs.size) = operate [.ref s.heap.objs.size, .str x t] (getItem (.str x t) (.ref s.heap.objs.size)) := by with_unfolding_all rfl)
    (ht : ∀ r, letTemporaryGo value (.str x t) r = pure () := by intro _; with_unfolding_all rfl) (hsz : x.length ≤ sizeLine := by size_fits) :
    wpAny (model prog w) A (subscriptTail value slice (.str x t) (.ref s.heap.objs.size)) Q E { s with heap := s.heap.push { cls := .type "slice", data := .fields #[.int i ui, .int j uj, .none] } } :=
  tail_of_ItemOn (SBH.sliceItem_ss (kept_all s.heap) (fun _ _ e => e) h hsz) hs ht
end
theorem len_list (x : Str) : x.cps.toList.length = x.length := by simp [Str.length]
theorem ofS_hyphen : Str.ofString "-" = ⟨#[45]⟩ := by decide +kernel
theorem item_last {Y : Str} (h : 1 ≤ Y.length) : (Txt.item Y (-1) == Str.ofString "-") = decide (Y.cps.toList.getLast? = some 45) := by
  have hl := len_list Y
  have hlt : Y.cps.toList.length - 1 < Y.cps.toList.length := by omega
  have e : Y.cps[((-1 : Int) + Y.length).toNat]? = some (Y.cps.toList[Y.cps.toList.length - 1]) := by
    rw [show ((-1 : Int) + Y.length).toNat = Y.cps.toList.length - 1 by omega, ← Array.getElem?_toList, List.getElem?_eq_getElem hlt]
  unfold Txt.item Txt.charAt
  rw [StrLaws.at_neg (by decide) (by omega) e, ofS_hyphen, List.getLast?_eq_getElem?, List.getElem?_eq_getElem hlt, Option.getD_some]
  rw [Bool.eq_iff_iff]
  simp
theorem slice_butlast {Y : Str} (h : 1 ≤ Y.length) : (Txt.slice Y none (some (-1))).cps.toList = Y.cps.toList.dropLast := by
  have hl := len_list Y
  have : Txt.slice Y none (some (-1)) = StrLaws.sliceText Y none (some (-1)) := rfl
  rw [this, StrLaws.sliceText_to_neg (by decide) (by omega)]
  show List.take ((-1 : Int) + Y.length - 0).toNat (List.drop 0 Y.cps.toList) = _
  rw [List.drop_zero, List.dropLast_eq_take, show ((-1 : Int) + Y.length - 0).toNat = Y.cps.toList.length - 1 by omega]

theorem plat_loop2 {L : Addr} {m : Str → Option Value} {X : Str} {t : Tok} {Q : Flow → Shared → Prop}
    (hn : s.heap.Ns L m) (hm : m (Str.ofString "platform") = some (.str X t)) (hX : X.length ≤ 1000)
    (hQ : ∀ h' tk m' t' Y, h'.Ns L m' → m' (Str.ofString "platform") = some (.str Y t') → Y.cps.toList = rst X.cps.toList → Y.length ≤ 1000 → (∀ b o, b ≠ L → s.heap.get? b = some o → h'.get? b = some o) → Q .next { s with heap := h', toks := tk }) :
    wpAny (model prog w) A (exec (stm 1 11) (envP L)) Q E s := by
  show wpAny _ _ (exec (Stmt.While _ _ _ _) (envOf _ ⟨_, _, _, _, _⟩ _ _ _)) _ _ _
  refine wpAny_While ?_
  refine codeAny_whileLoop (fun n s' => ∃ h' tk m' t' Y, s' = { s with heap := h', toks := tk } ∧ (∀ b o, b ≠ L → s.heap.get? b = some o → h'.get? b = some o) ∧ h'.Ns L m' ∧ m' (Str.ofString "platform") = some (.str Y t') ∧ Y.length ≤ 1000 ∧ rst Y.cps.toList = rst X.cps.toList ∧ n = Y.length) ?_ X.length
    ⟨s.heap, s.toks, m, t, X, rfl, (fun _ _ _ e => e), hn, hm, hX, rfl, rfl⟩
  rintro n s' ⟨h₁, tk₁, m₁, t₁, Y, rfl, hs₁, hn₁, hm₁, hY, hcol, rfl⟩
  walk1
  walk1
  refine wpAny_Name (wpAny_loadName_local rfl rfl hn₁ hm₁ ?_) (by decide)
  walk1
  by_cases h0 : Y.length = 0
  · have e0 : ((Y.length : Int) != 0) = false := by simp [h0]
    rw [e0, if_neg Bool.false_ne_true, if_neg Bool.false_ne_true]
    walk1
    refine hQ h₁ _ m₁ t₁ Y hn₁ hm₁ ?_ hY hs₁
    rw [← hcol, rst_stop]
    have : Y.cps.toList = [] := List.eq_nil_of_length_eq_zero (by rw [len_list, h0])
    rw [this]; simp
  · have e0 : ((Y.length : Int) != 0) = true := by simp [h0]
    have hpos : 1 ≤ Y.length := by omega
    rw [e0, if_pos rfl]
    walk1
    walk1
    walk1
    refine wpAny_Name (wpAny_loadName_local rfl rfl hn₁ hm₁ ?_) (by decide)
    walk1
    walk1
    walk1
    walk1
    walk1
    walk1
    walk1
    rw [item_last hpos]
    by_cases hl : Y.cps.toList.getLast? = some 45
    · rw [decide_eq_true hl, if_pos rfl]
      walk1
      walk1
      walk1
      walk1
      walk1
      refine wpAny_Name (wpAny_loadName_local rfl rfl hn₁ hm₁ ?_) (by decide)
      walk1
      walk1
      walk1
      walk1
      walk1
      walk1
      walk1
      refine cut_ns (s := { s with heap := h₁, toks := _ }) (fun h₂ t₂ k₂ hk₂ => ?_) (hsz := Nat.le_trans hY (by decide))
      refine wpAny_storeName_local rfl (hn₁.keeps hk₂) (fun h₃ hn₃ hs₃ => ?_) rfl
      walk1
      have hlen : (Txt.slice Y none (some (-1))).length = Y.length - 1 := by
        rw [← len_list, slice_butlast hpos, List.length_dropLast, len_list]
      refine ⟨_, ?_, h₃, _, _, t₂, _, rfl, (fun b o hb e => hs₃.extBut b o hb (hk₂ b o (hs₁ b o hb e))), hn₃, if_pos rfl, by omega, ?_, rfl⟩
      · omega
      · rw [slice_butlast hpos, ← rst_go hl, hcol]
    · rw [decide_eq_false hl, if_neg Bool.false_ne_true, if_neg Bool.false_ne_true]
      walk1
      refine hQ h₁ _ m₁ t₁ Y hn₁ hm₁ ?_ hY hs₁
      rw [← hcol, rst_stop hl]
end Mine
end

/-! ## NPlat5 -/
section
open PySem PySem.W PyProof.Rows
namespace Mine
variable {w : World} {A : Around} {E : Value → Shared → Prop} {s : Shared} {mg mb : Str → Option Value} {bm : Addr} {ob : Obj × Array Value}

/-- what _platform gives back, as code points -/
def platList (ts : List Str) : List Nat := rst (col (reps9 (joined ts)).cps.toList)

theorem replace_len1 (x : Str) (a b : Nat) : (Txt.replace x ⟨#[a]⟩ ⟨#[b]⟩).length = x.length := by
  rw [← len_list, replace_rp _ _ _ (by simp [Str.length]), ← len_list]
  show (rp [a] [b] x.cps.toList).length = _
  rw [rp_one, List.length_map]
theorem replace_len1' {x y z : Str} {a b : Nat} (hy : y = ⟨#[a]⟩) (hz : z = ⟨#[b]⟩) : (Txt.replace x y z).length = x.length := by
  rw [hy, hz]; exact replace_len1 x a b
theorem rp_unk_len : ∀ (n : Nat) (l : List Nat), l.length ≤ n → (rp unk [] l).length ≤ l.length := by
  intro n
  induction n with
  | zero => intro l h; have : l = [] := List.eq_nil_of_length_eq_zero (by omega); subst this; rw [rp_nil]; simp
  | succ n ih =>
    intro l h
    cases l with
    | nil => rw [rp_nil]; simp
    | cons c r =>
      by_cases hh : unk.isPrefixOf (c :: r) = true
      · rw [rp_hit (by simp [unk]) hh, List.nil_append]
        have := ih ((c :: r).drop unk.length) (by simp [unk] at h ⊢; omega)
        simp [unk] at this ⊢
        omega
      · rw [rp_miss (Bool.eq_false_iff.mpr hh)]
        have := ih r (by simp at h; omega)
        simp; omega
theorem ofS_unk : Str.ofString "unknown" = ⟨unk.toArray⟩ := by decide +kernel
theorem unk_len (x : Str) : (Txt.replace x (Str.ofString "unknown") (Str.ofString "")).length ≤ x.length := by
  rw [← len_list, replace_rp _ _ _ (by decide), ← len_list, ofS_unk]
  exact rp_unk_len _ _ (Nat.le_refl _)
theorem ofS_empty : Str.ofString "" = ⟨#[]⟩ := by decide +kernel
theorem ofS_und : Str.ofString "_" = ⟨#[95]⟩ := by decide +kernel
theorem ofS_blank : Str.ofString " " = ⟨#[32]⟩ := by decide +kernel
theorem ofS_slash : Str.ofString "/" = ⟨#[47]⟩ := by decide +kernel
theorem ofS_back : Str.ofString "\\" = ⟨#[92]⟩ := by decide +kernel
theorem ofS_colon : Str.ofString ":" = ⟨#[58]⟩ := by decide +kernel
theorem ofS_semi : Str.ofString ";" = ⟨#[59]⟩ := by decide +kernel
theorem ofS_quote : Str.ofString "\"" = ⟨#[34]⟩ := by decide +kernel
theorem ofS_open : Str.ofString "(" = ⟨#[40]⟩ := by decide +kernel
theorem ofS_close : Str.ofString ")" = ⟨#[41]⟩ := by decide +kernel
theorem join_len (ts : List Str) (hw : wt ts ≤ 1000) : (joined ts).length ≤ 1000 := by
  have h1 := wt_strip (keepFull ts)
  have h2 := wt_filter ts
  have h3 := StrLaws.join_length_le (Str.ofString "-") ((keepFull ts).map Txt.strip)
  unfold joined Txt.join
  rw [StrLaws.glued_eq_join]
  have h4 : (Str.ofString "-").length = 1 := by decide +kernel
  rw [h4, Nat.mul_one] at h3
  unfold wt at *
  omega

theorem bind_rest (fd : FuncData) (a : Arg) (vs : List Value) (h1 : fd.params = ⟨[], [], some a, [], [], none, []⟩) (h2 : fd.defaults = .none) :
    bindArgs fd ⟨vs, []⟩ = (do let t ← newTuple vs; pure [(a.arg, t)]) := by
  unfold bindArgs
  rw [h1, h2]
  cases vs <;> rfl

theorem plat_tail {L : Addr} {m : Str → Option Value} {X : Str} {t : Tok} {Q : Flow → Shared → Prop}
    (htk : 0 < s.toks) (hn : s.heap.Ns L m) (hm : m (Str.ofString "platform") = some (.str X t)) (hX : X.length ≤ 1000)
    (hQ : ∀ h' tk t' Y, (∀ b o, b ≠ L → s.heap.get? b = some o → h'.get? b = some o) → Y.cps.toList = rst (col (reps9 X).cps.toList) → Q (.ret (.str Y t')) { s with heap := h', toks := tk }) :
    wpAny (model prog w) A (execs (stm 1 1 :: stm 1 2 :: stm 1 3 :: stm 1 4 :: stm 1 5 :: stm 1 6 :: stm 1 7 :: stm 1 8 :: stm 1 9 :: stm 1 10 :: stm 1 11 :: stm 1 12 :: []) (envP L)) Q E s := by
  refine wpAny_execs_cons (plat_r1 htk hn hm hX fun h1 tk1 t1 htk1 hn1 hs1 => ?_)
  have hX1 := Nat.le_trans (Nat.le_of_eq (replace_len1' ofS_blank ofS_und)) hX
  refine wpAny_execs_cons (plat_r2 htk1 hn1 (upd_same _ _ _) hX1 fun h2 tk2 t2 htk2 hn2 hs2 => ?_)
  have hX2 := Nat.le_trans (Nat.le_of_eq (replace_len1' ofS_slash ofS_hyphen)) hX1
  refine wpAny_execs_cons (plat_r3 htk2 hn2 (upd_same _ _ _) hX2 fun h3 tk3 t3 htk3 hn3 hs3 => ?_)
  have hX3 := Nat.le_trans (Nat.le_of_eq (replace_len1' ofS_back ofS_hyphen)) hX2
  refine wpAny_execs_cons (plat_r4 htk3 hn3 (upd_same _ _ _) hX3 fun h4 tk4 t4 htk4 hn4 hs4 => ?_)
  have hX4 := Nat.le_trans (Nat.le_of_eq (replace_len1' ofS_colon ofS_hyphen)) hX3
  refine wpAny_execs_cons (plat_r5 htk4 hn4 (upd_same _ _ _) hX4 fun h5 tk5 t5 htk5 hn5 hs5 => ?_)
  have hX5 := Nat.le_trans (Nat.le_of_eq (replace_len1' ofS_semi ofS_hyphen)) hX4
  refine wpAny_execs_cons (plat_r6 htk5 hn5 (upd_same _ _ _) hX5 fun h6 tk6 t6 htk6 hn6 hs6 => ?_)
  have hX6 := Nat.le_trans (Nat.le_of_eq (replace_len1' ofS_quote ofS_hyphen)) hX5
  refine wpAny_execs_cons (plat_r7 htk6 hn6 (upd_same _ _ _) hX6 fun h7 tk7 t7 htk7 hn7 hs7 => ?_)
  have hX7 := Nat.le_trans (Nat.le_of_eq (replace_len1' ofS_open ofS_hyphen)) hX6
  refine wpAny_execs_cons (plat_r8 htk7 hn7 (upd_same _ _ _) hX7 fun h8 tk8 t8 htk8 hn8 hs8 => ?_)
  have hX8 := Nat.le_trans (Nat.le_of_eq (replace_len1' ofS_close ofS_hyphen)) hX7
  refine wpAny_execs_cons (plat_r9 htk8 hn8 (upd_same _ _ _) hX8 fun h9 tk9 t9 htk9 hn9 hs9 => ?_)
  have hX9 := Nat.le_trans (unk_len _) hX8
  refine wpAny_execs_cons (plat_loop1 htk9 hn9 (upd_same _ _ _) hX9 fun hA tkA mA tA YA htkA hnA hmA hYA hXA hsA => ?_)
  refine wpAny_execs_cons (plat_loop2 hnA hmA hXA fun hB tkB mB tB YB hnB hmB hYB hXB hsB => ?_)
  refine wpAny_execs_cons ?_
  show wpAny _ _ (exec (Stmt.Return (some _) _) (envOf _ ⟨_, _, _, _, _⟩ _ _ _)) _ _ _
  refine wpAny_Return_some ?_
  refine wpAny_Name (wpAny_loadName_local rfl rfl hnB hmB ?_) (by decide)
  refine hQ hB tkB tB YB (fun b o hb e => ?_) (by rw [hYB, hYA]; rfl)
  exact hsB b o hb (hsA.extBut b o hb (hs9.extBut b o hb (hs8.extBut b o hb (hs7.extBut b o hb (hs6.extBut b o hb (hs5.extBut b o hb (hs4.extBut b o hb (hs3.extBut b o hb (hs2.extBut b o hb (hs1.extBut b o hb e))))))))))

theorem plat_body {L T : Addr} {m : Str → Option Value} {items : Array Value} {ts : List Str} {Q : Flow → Shared → Prop}
    (I : Inv w mg mb bm ob s.heap) (hh : A.handled = none) (hd : A.depth < recursionLimit) (hg : AllBare s.gens) (htk : 0 < s.toks)
    (hn : s.heap.Ns L m) (hm : m (Str.ofString "args") = some (.ref T)) (hT : s.heap.IsTuple T items) (hts : StrsAre items.toList ts) (hw : wt ts ≤ 1000) (hL : 45 < L)
    (hQ : ∀ s' t' Y, Inv w mg mb bm ob s'.heap → (∀ b o, b ≠ L → b ≠ 16 → s.heap.get? b = some o → s'.heap.get? b = some o) → AllBare s'.gens → s'.os = s.os → Y.cps.toList = platList ts → Q (.ret (.str Y t')) s') :
    wpAny (model prog w) A (execs (bodyOf (top 1)) (envP L)) Q E s := by
  have hjl := join_len ts hw
  show wpAny _ _ (execs (stm 1 0 :: stm 1 1 :: stm 1 2 :: stm 1 3 :: stm 1 4 :: stm 1 5 :: stm 1 6 :: stm 1 7 :: stm 1 8 :: stm 1 9 :: stm 1 10 :: stm 1 11 :: stm 1 12 :: []) (envP L)) _ _ _
  refine wpAny_execs_cons (wpAny_with_toks (n := 1) htk (plat_join I hh hd hg hn hm hT hts hw hL fun s₁ t₁ I₁ hn₁ hk₁ hg₁ ho₁ htk₁ => ?_))
  refine plat_tail htk₁ hn₁ (if_pos rfl) hjl fun h' tk t' Y hk' hY => ?_
  refine hQ _ t' Y (I₁.at fun b o hb e => hk' b o (Nat.ne_of_lt (Nat.lt_of_lt_of_le hb hL)) e) (fun b o hbL hb e => hk' b o hbL (hk₁ b o hbL hb e)) hg₁ ho₁ hY

theorem plat_call {vs : List Value} {ts : List Str} {Q : Value → Shared → Prop}
    (I : Inv w mg mb bm ob s.heap) (hh : A.handled = none) (hd : A.depth + 10 < recursionLimit) (hg : AllBare s.gens) (hts : StrsAre vs ts) (hw : wt ts ≤ 1000)
    (hQ : ∀ s' t' Y, Inv w mg mb bm ob s'.heap → (∀ b o, b ≠ 16 → s.heap.get? b = some o → s'.heap.get? b = some o) → AllBare s'.gens → s'.os = s.os → Y.cps.toList = platList ts → Q (.str Y t') s') :
    wpAny (model prog w) A (call (.ref 21) vs) Q E s := by
  refine wpAny_call ?_
  refine codeAny_call_function (by omega) (I.K 21 _ rfl) rfl rfl rfl rfl (codeRec_of I.K rfl) ?_
  rw [bind_rest _ _ vs rfl rfl]
  have hlen : vs.length ≤ sizeLine := by
    rw [hts.length]
    exact Nat.le_trans (Nat.le_trans (Nat.le_add_left _ _) hw) (by decide)
  refine wpAny_bind (wpAny_newTuple (wpAny_pure ?_) hlen)
  refine wpAny_newFunctionEnv (by decide) (by intro x hx; cases hx with | head => rfl | tail _ h => cases h) (fun h₀ hns hsb => ?_) rfl
  dsimp only at hns hsb ⊢
  have hk₀ : ∀ b o, s.heap.get? b = some o → h₀.get? b = some o := fun b o e =>
    hsb.extBut b o (Nat.ne_of_lt (Nat.lt_of_lt_of_le (Heap.lt_size e) (by rw [Heap.size_push]; exact Nat.le_succ _))) (Heap.get?_push_of_some _ (Heap.get?_push_of_some _ e))
  have I₀ := I.keeps hk₀
  refine ⟨I₀.lim, codeAny_func ?_⟩
  have hT : h₀.IsTuple s.heap.objs.size vs.toArray := ⟨_, hsb.extBut _ _ (Nat.ne_of_lt (by rw [Heap.size_push]; exact Nat.lt_succ_self _)) (Heap.get?_push_of_some _ (Heap.get?_push_size _ rfl)), rfl, _, rfl⟩
  have hL : 45 < (s.heap.push { cls := .type "tuple", data := .seq vs.toArray }).objs.size := by rw [Heap.size_push]; exact Nat.lt_succ_of_lt I.size
  refine wpAny_mono (plat_body (L := (s.heap.push { cls := .type "tuple", data := .seq vs.toArray }).objs.size) (T := s.heap.objs.size) (items := vs.toArray) (ts := ts) I₀ hh
    (by show A.depth + 1 < recursionLimit; omega) hg (Nat.succ_pos _) hns rfl hT (by simpa using hts) hw hL
    (E := fun _ _ => False) (Q := fun f s' => match f with | .ret v => Q v s' | _ => False) fun s' t' Y I' hk' hg' ho' hY => ?_) ?_ ?_
  · refine hQ s' t' Y I' (fun b o hb e => hk' b o ?_ hb (hk₀ b o e)) hg' ho' hY
    exact Nat.ne_of_lt (Nat.lt_of_lt_of_le (Heap.lt_size e) (by rw [Heap.size_push]; exact Nat.le_succ _))
  · intro f s' h
    cases f with
    | ret v => exact h
    | next => exact h.elim
    | brk => exact h.elim
    | cont => exact h.elim
  · intro e s' h; exact h.elim
end Mine
end

/-! ## NBare -/
section
open PySem PySem.W PyProof.Rows
namespace Mine
variable {w : World} {A : Around} {E : Value → Shared → Prop} {s : Shared} {mg mb : Str → Option Value} {bm : Addr} {ob : Obj × Array Value}

abbrev envB (L : Addr) : Env := envOfC (Str.ofString "_law_bare") (scopeOf (top 3)) L 26 (.ref 25)

/-- a built-in name, in any block of the module -/
theorem nmE {env : Env} {x : Str} {pos : Pos} {v : Value} {Q : Value → Shared → Prop} (I : Inv w mg mb bm ob s.heap) (hg : env.globals = mainGlobals) (hb : env.builtins = builtinsNs) (hk : env.scope.kind = .function)
    (hx : env.kindOf x = some .globalImplicit) (hn : x ≠ "__name__") (hv : bootBuiltins x = some v)
    (hfree : nsIn (hd.heap_39 w.params) mainGlobals x = some none) (h : Q v s) (hd : (x == ("__debug__" : Str)) = false := by decide) :
    wpAny (model prog w) A (eval (.Name x pos) env) Q E s :=
  Calls.Name_function_global hk hx (Calls.loadGlobal_builtin (env := env) (hg ▸ I.g) (mg_none_of I.K I.g hfree) (hb ▸ I.b) ((I.bb x hn).trans hv) h) hd
/-- a name of the module's own -/
theorem nmG {env : Env} {x : Str} {pos : Pos} {v : Value} {Q : Value → Shared → Prop} (I : Inv w mg mb bm ob s.heap) (hg : env.globals = mainGlobals) (hk : env.scope.kind = .function)
    (hx : env.kindOf x = some .globalImplicit) (hv : nsIn (hd.heap_39 w.params) mainGlobals x = some (some v)) (h : Q v s) (hd : (x == ("__debug__" : Str)) = false := by decide) :
    wpAny (model prog w) A (eval (.Name x pos) env) Q E s :=
  Calls.Name_function_global hk hx (Calls.loadGlobal_global (env := env) (hg ▸ I.g) (mg_of I.K I.g hv) h) hd

/-- the place k of X holds no blank -/
def solid (X : Str) (k : Nat) : Bool := !Unicode.isSpace (X.cps.getD k 0)
def solidV (X : Str) : Value → Bool
  | .int k _ => solid X k.toNat
  | _ => false
def places (X : Str) : List Nat := (List.range X.length).filter (solid X)

/-- a comprehension's one test -/
theorem one_test {env : Env} {c : Expr} {p : Bool} {P : Shared → Prop}
    (h : wpAny (model prog w) A (isTrue c env (eval c env)) (fun ok s₄ => ok = p ∧ P s₄) E s) :
    wpAny (model prog w) A (forIn [c] true fun c r => if r = true then do let ok ← isTrue c env (eval c env); pure (ForInStep.yield ok) else pure (ForInStep.yield r)) (fun ok s₄ => ok = p ∧ P s₄) E s := by
  rw [List.forIn_cons]
  refine wpAny_bind ?_
  rw [if_pos rfl]
  exact wpAny_bind (wpAny_mono h (fun ok s₁ h₁ => wpAny_pure (wpAny_pure h₁)) fun _ _ e => e)
theorem paired_eq : ∀ {vs ys : List Value}, Paired (fun v y => y = v) vs ys → ys = vs
  | _, _, .nil => rfl
  | _, _, .cons e r => by rw [e, paired_eq r]
theorem places_ints {X : Str} : ∀ (vs : List Value) (a : Nat), (∀ j v, vs[j]? = some v → ∃ t, v = Value.int ((a + j : Nat) : Int) t) →
    IntsAre (vs.filter (solidV X)) (((List.range' a vs.length).filter (solid X)).map Int.ofNat)
  | [], _, _ => .nil
  | v :: r, a, h => by
    obtain ⟨t, rfl⟩ := h 0 v rfl
    have ih := places_ints (X := X) r (a + 1) fun j v hv => by
      obtain ⟨t, e⟩ := h (j + 1) v (by simpa using hv)
      exact ⟨t, by rw [e, show a + (j + 1) = a + 1 + j by omega]⟩
    rw [List.length_cons, List.range'_succ]
    by_cases hs : solid X a = true
    · rw [List.filter_cons_of_pos (by simpa [solidV] using hs), List.filter_cons_of_pos hs]
      exact .cons _ _ ih
    · rw [List.filter_cons_of_neg (by simpa [solidV] using hs), List.filter_cons_of_neg hs]
      exact ih

theorem charAt_nat {X : Str} {i : Nat} (hi : i < X.length) : Txt.item X (i : Int) = ⟨#[X.cps.getD i 0]⟩ := by
  have hi' : i < X.cps.size := hi
  unfold Txt.item Txt.charAt
  rw [StrLaws.at_nonneg (n := X.cps[i]) (by omega) (by simp)]
  simp [Array.getD, hi']
theorem item_space {X : Str} {i : Nat} (hi : i < X.length) : (!Txt.isspace (Txt.item X (i : Int))) = solid X i := by
  rw [charAt_nat hi]
  unfold Txt.isspace solid
  simp [Str.length]

theorem bare_places {L : Addr} {m : Str → Option Value} {X : Str} {t : Tok} {Q : Flow → Shared → Prop}
    (I : Inv w mg mb bm ob s.heap) (hh : A.handled = none) (hn : s.heap.Ns L m) (hc : s.heap.IsCell (L + 1) (some (.str X t))) (hX : X.length ≤ 1000)
    (hQ : ∀ D h' tk (ys : Array Value), h'.Ns L (upd m (Str.ofString "places") (.ref D)) → h'.IsList D ys → IntsAre ys.toList ((places X).map Int.ofNat) →
      (∀ b o, b ≠ L → s.heap.get? b = some o → h'.get? b = some o) → Q .next { s with heap := h', toks := tk }) :
    wpAny (model prog w) A (exec (stm 3 0) (envB L)) Q E s := by
  obtain ⟨hp, gs, dr, tk, os⟩ := s
  dsimp only at I hn hc hQ
  show wpAny _ _ (exec (Stmt.Assign [.Name _ _] (.ListComp _ [⟨.Name _ _, _, _, 0⟩] _ _) _) _) _ _ _
  refine wpAny_Assign_ListComp_free (cl := [(Str.ofString "text", L + 1)]) (solidV X) (fun v y => y = v) rfl rfl (by decide) rfl (by decide) rfl rfl rfl ?_
  walk1
  refine nmE (v := .type "range") I rfl rfl rfl rfl (by decide) (by decide +kernel) (by rfl) ?_
  walk1
  walk1
  walk1
  refine nmE (v := .builtin "len") I rfl rfl rfl rfl (by decide) (by decide +kernel) (by rfl) ?_
  walk1
  walk1
  refine wpAny_Name (wpAny_loadName_cell rfl rfl rfl hc ?_) (by decide)
  walk1
  walk1
  walk1
  refine call_range_1 ?_
  dsimp only
  refine wpAny_pyIter_range (IsRange.new hp 0 X.length 1 _ _ _) (small_one (by decide) (by decide) (by omega) (by omega)) ?_
  rw [rangeSize_one]
  have hsz : (if (0 : Int) < X.length then (X.length : Int) - 0 else 0) = X.length := by split <;> omega
  rw [hsz]
  dsimp only
  generalize hR : ({ cls := .type "range", data := .fields #[.int 0 _, .int _ _, .int 1 _] } : Obj) = oR
  have hz1 : (hp.push oR).objs.size = hp.objs.size + 1 := Heap.size_push ..
  have hLlt : L < hp.objs.size := hn.lt
  have hk0 : ∀ b o, hp.get? b = some o → ((hp.push oR).push { cls := .type "range_iterator", data := .fields #[rawInt 0, rawInt X.length, rawInt 1] }).get? b = some o :=
    fun b o e => Heap.get?_push_of_some _ (Heap.get?_push_of_some _ e)
  refine ⟨(hp.push oR).objs.size, _, _, X.length, _, _, m, rfl, (Walks.range hh (hp.push oR).objs.size 0 1 X.length).bound, Nat.le_trans hX (by decide), ?_, ?_, ?_, hn.keeps hk0, ⟨?_, ?_⟩, ?_⟩
  · show IsRangeIter _ _ _ _ _
    have := Heap.get?_push_size (hp.push oR) (o := { cls := .type "range_iterator", data := .fields #[rawInt 0, rawInt X.length, rawInt 1] }) rfl
    simpa [IsRangeIter] using this
  · intro b hb
    rw [List.mem_singleton.mp hb]
    exact Heap.lt_size (Heap.get?_push_size _ rfl)
  · intro hb
    have e : L = (hp.push oR).objs.size := List.mem_singleton.mp hb
    rw [hz1] at e
    exact absurd (e ▸ hLlt) (Nat.not_lt.mpr (Nat.le_succ _))
  · intro C i v s₃ m₃ E' hC hP hns hmx hk htk
    obtain ⟨hi, tv, rfl⟩ := hP
    have hc₃ : s₃.heap.IsCell (L + 1) (some (.str X t)) := by
      obtain ⟨o, ho, hdt⟩ := hc
      refine ⟨o, hk (L + 1) o (fun hb => ?_) (hk0 _ _ ho), hdt⟩
      have e : L + 1 = (hp.push oR).objs.size := List.mem_singleton.mp hb
      rw [hz1] at e
      exact absurd (e ▸ Heap.lt_size ho) (Nat.not_lt.mpr (Nat.le_succ _))
    refine one_test ?_
    walk1
    walk1
    walk1
    walk1
    refine wpAny_Name (wpAny_loadName_cell rfl rfl rfl hc₃ ?_) (by decide)
    refine wpAny_Name (wpAny_loadName_local rfl rfl hns hmx ?_) (by decide)
    walk1
    walk1
    walk1
    walk1
    walk1
    refine ⟨?_, s₃.heap, _, rfl, fun _ _ e => e⟩
    have e1 : (0 : Int) + (i : Int) * 1 = (i : Int) := by omega
    rw [e1, item_space hi]
    rfl
  · intro C i v s₃ m₃ E' hC hP hp hns hmx hk htk
    exact wpAny_Name (wpAny_loadName_local rfl rfl hns hmx ⟨rfl, s₃.heap, s₃.toks, rfl, fun _ _ e => e⟩) (by decide)
  · intro D h' tk' ys vs hD hl hpl hlen hPv hpair hns hk
    refine hQ D h' tk' ys hns hl ?_ fun b o hb e => hk b o hb (fun hm => ?_) (hk0 b o e)
    · rw [paired_eq hpair]
      have := places_ints (X := X) vs 0 fun j v hv => by
        obtain ⟨_, tv, e⟩ := hPv j v hv
        exact ⟨tv, by rw [e]; congr 1; omega⟩
      rw [hlen, ← List.range_eq_range'] at this
      exact this
    · have e' : b = (hp.push oR).objs.size := List.mem_singleton.mp hm
      rw [hz1] at e'
      exact absurd (e' ▸ Heap.lt_size e) (Nat.not_lt.mpr (Nat.le_succ _))

theorem item_neg {value slice : Expr} {l : Addr} {items : Array Value} {k : Int} {u : Tok} {x : Value} {Q : Value → Shared → Prop} (hl : s.heap.IsList l items) (h0 : k < 0) (h1 : -(items.size : Int) ≤ k) (hfit : -(2 ^ 63) ≤ k)
    (hx : items[(k + items.size).toNat]? = some x) (h : Q x s)
    (hs : subscripted slice false (.ref l) (.int k u) = operate [.ref l, .int k u] (getItem (.ref l) (.int k u)) := by with_unfolding_all rfl) :
    wpAny (model prog w) A (subscriptTail value slice (.ref l) (.int k u)) Q E s :=
  tail_any hl.typeIs slot_list_getitem.lookup (wpAny_getItem_list_neg hl h0 h1 hfit hx h) hs

/-- the text between its first and its last solid place -/
def bareS (X : Str) : Str := match places X with
  | [] => Str.empty
  | p :: r => Txt.slice X (some (p : Int)) (some (((p :: r).getLast (by simp) : Nat) + 1))

theorem bare_ret {L D : Addr} {m : Str → Option Value} {X : Str} {t : Tok} {ys : Array Value} {Q : Flow → Shared → Prop}
    (hn : s.heap.Ns L m) (hm : m (Str.ofString "places") = some (.ref D)) (hl : s.heap.IsList D ys) (hi : IntsAre ys.toList ((places X).map Int.ofNat))
    (hc : s.heap.IsCell (L + 1) (some (.str X t))) (hX : X.length ≤ 1000)
    (hQ : ∀ h' tk t', (∀ b o, s.heap.get? b = some o → h'.get? b = some o) → Q (.ret (.str (bareS X) t')) { s with heap := h', toks := tk }) :
    wpAny (model prog w) A (exec (stm 3 1) (envB L)) Q E s := by
  show wpAny _ _ (exec (Stmt.Return (some (.IfExp _ _ _ _)) _) _) _ _ _
  walk1
  walk1
  walk1
  refine wpAny_Name (wpAny_loadName_local rfl rfl hn hm ?_) (by decide)
  have hlen : ys.size = (places X).length := by have := hi.length; simpa using this
  have hpl : (places X).length ≤ 1000 := Nat.le_trans (List.length_filter_le _ _) (by simpa using hX)
  refine wpAny_truthy_list hl (by omega) ?_
  cases hp : places X with
  | nil =>
    have hE : ys = #[] := by
      have : ys.size = 0 := by rw [hlen, hp]; rfl
      exact Array.eq_empty_of_size_eq_zero this
    rw [hE]
    rw [if_neg (by simp)]
    walk1
    have e : bareS X = Str.ofString "" := by unfold bareS; rw [hp]; exact ofS_empty.symm
    rw [← e]
    exact hQ s.heap _ _ fun _ _ e => e
  | cons p r =>
    have hne : (!ys.isEmpty) = true := by
      have : ys.size ≠ 0 := by rw [hlen, hp]; simp
      simp [Array.isEmpty, this]
    rw [hne, if_pos rfl]
    rw [hp] at hi hlen
    have hlast : ((p :: r).map Int.ofNat)[(p :: r).length - 1]? = some (((p :: r).getLast (by simp) : Nat) : Int) := by
      rw [List.getElem?_map, ← List.getLast?_eq_getElem?, List.getLast?_eq_some_getLast (by simp)]; rfl
    obtain ⟨t0, h0⟩ := hi.get 0 p (by simp)
    obtain ⟨t1, h1⟩ := hi.get ((p :: r).length - 1) _ hlast
    have hb : (p :: r).getLast (by simp) < X.length := by
      have : (p :: r).getLast (by simp) ∈ places X := by rw [hp]; exact List.getLast_mem _
      exact List.mem_range.mp (List.mem_filter.mp this).1
    walk1
    refine wpAny_Name (wpAny_loadName_cell rfl rfl rfl hc ?_) (by decide)
    walk1
    walk1
    walk1
    refine wpAny_Name (wpAny_loadName_local rfl rfl hn hm ?_) (by decide)
    walk1
    refine item_listR hl (by decide) (by decide) (x := .int p t0) (by simpa using h0) ?_
    walk1
    walk1
    walk1
    refine wpAny_Name (wpAny_loadName_local rfl rfl hn hm ?_) (by decide)
    walk1
    walk1
    walk1
    refine item_neg hl (by decide) (by rw [hlen]; simp; omega) (by decide) (x := .int (((p :: r).getLast (by simp) : Nat) : Int) t1) ?_ ?_
    · rw [hlen, ← Array.getElem?_toList]
      rw [show ((-1 : Int) + ((p :: r).length : Nat)).toNat = (p :: r).length - 1 by simp; omega]
      exact h1
    walk1
    walk1
    walk1
    refine cut_ss (s := { s with toks := _ }) (fun h₂ t₂ k₂ hk₂ => ?_) (hsz := Nat.le_trans hX (by decide))
    have e : Txt.slice X (some (p : Int)) (some ((((p :: r).getLast (by simp) : Nat) : Int) + 1)) = bareS X := by unfold bareS; rw [hp]
    rw [e]
    exact hQ h₂ k₂ t₂ hk₂

/-! what the law's bare text is: the stripped text -/
theorem places_cons {X : Str} {p : Nat} {r : List Nat} (h : places X = p :: r) :
    p < X.length ∧ solid X p = true ∧ (∀ k, k < p → solid X k = false) ∧ (p :: r).getLast (by simp) < X.length ∧ solid X ((p :: r).getLast (by simp)) = true ∧
      (∀ k, (p :: r).getLast (by simp) < k → k < X.length → solid X k = false) ∧ p ≤ (p :: r).getLast (by simp) := by
  have mem : ∀ k, k ∈ p :: r ↔ k < X.length ∧ solid X k = true := fun k => by rw [← h]; unfold places; simp
  have srt : (p :: r).Pairwise (· < ·) := by rw [← h]; exact List.Pairwise.filter _ List.pairwise_lt_range
  have hp := (mem p).mp List.mem_cons_self
  have hl := (mem _).mp (List.getLast_mem (l := p :: r) (by simp))
  have first : ∀ k ∈ p :: r, p ≤ k := fun k hk => by
    rcases List.mem_cons.mp hk with rfl | hk
    · exact Nat.le_refl _
    · exact Nat.le_of_lt (List.rel_of_pairwise_cons srt hk)
  have last : ∀ k ∈ p :: r, k ≤ (p :: r).getLast (by simp) := fun k hk => by
    have e := List.dropLast_concat_getLast (l := p :: r) (by simp)
    rw [← e] at srt hk
    rcases List.mem_append.mp hk with hk | hk
    · exact Nat.le_of_lt ((List.pairwise_append.mp srt).2.2 k hk _ (by simp))
    · rw [List.mem_singleton.mp hk]; exact Nat.le_refl _
  refine ⟨hp.1, hp.2, fun k hk => ?_, hl.1, hl.2, fun k hk hkl => ?_, first _ (List.getLast_mem _)⟩
  · cases hs : solid X k with
    | false => rfl
    | true => have := first k ((mem k).mpr ⟨Nat.lt_trans hk hp.1, hs⟩); omega
  · cases hs : solid X k with
    | false => rfl
    | true => have := last k ((mem k).mpr ⟨hkl, hs⟩); omega

theorem bareS_strip (X : Str) : bareS X = Txt.strip X := by
  unfold Txt.strip
  rw [PyProof.Rows.stripBy_eq]
  obtain ⟨l1, l2, l3⟩ := lo_facts Unicode.isSpace X
  obtain ⟨u1, u2, u3, u4⟩ := hi_facts Unicode.isSpace X _ l1
  generalize stripLo Unicode.isSpace true X = lo at *
  generalize stripHi Unicode.isSpace true X lo = hi at *
  have sol : ∀ k, solid X k = false ↔ Unicode.isSpace (X.cps.getD k 0) = true := fun k => by unfold solid; simp
  unfold bareS
  cases hp : places X with
  | nil =>
    have none : ∀ k, k < X.length → Unicode.isSpace (X.cps.getD k 0) = true := fun k hk => by
      cases hs : solid X k with
      | false => exact (sol k).mp hs
      | true => have : k ∈ places X := List.mem_filter.mpr ⟨List.mem_range.mpr hk, hs⟩
                rw [hp] at this; cases this
    have hlo : lo = X.length := by
      rcases l3 with h | h
      · exact h
      · by_cases hlt : lo < X.length
        · rw [none lo hlt] at h; cases h
        · omega
    apply Str.ext'
    apply Array.toList_inj.mp
    rw [StrLaws.strSub_toList]
    have : hi - lo = 0 := by omega
    rw [this]; rfl
  | cons p r =>
    obtain ⟨h1, h2, h3, h4, h5, h6, h7⟩ := places_cons hp
    dsimp only
    generalize (p :: r).getLast (by simp) = q at *
    have hlo : lo = p := by
      rcases Nat.lt_trichotomy lo p with h | h | h
      · rcases l3 with h' | h'
        · omega
        · have := (sol lo).mp (h3 lo h); rw [this] at h'; cases h'
      · exact h
      · have := (sol p).mpr (l2 p h); rw [this] at h2; cases h2
    subst hlo
    have hhi : hi = q + 1 := by
      rcases Nat.lt_trichotomy hi (q + 1) with h | h | h
      · have := (sol q).mpr (u3 q (by omega) h4); rw [this] at h5; cases h5
      · exact h
      · rcases u4 with h' | h'
        · omega
        · have := (sol (hi - 1)).mp (h6 (hi - 1) (by omega) (by omega)); rw [this] at h'; cases h'
    subst hhi
    apply Str.ext'
    apply Array.toList_inj.mp
    rw [StrLaws.strSub_toList]
    have e := StrLaws.sliceText_nat X (a := lo) (b := q + 1) (by omega) (by omega)
    have e2 : Txt.slice X (some (lo : Int)) (some ((q : Int) + 1)) = StrLaws.sliceText X (some (lo : Int)) (some ((q + 1 : Nat) : Int)) := rfl
    rw [e2, e]

theorem bare_call {X : Str} {t : Tok} {Q : Value → Shared → Prop}
    (I : Inv w mg mb bm ob s.heap) (hh : A.handled = none) (hd : A.depth + 10 < recursionLimit) (hX : X.length ≤ 1000)
    (hQ : ∀ h' tk t', (∀ b o, s.heap.get? b = some o → h'.get? b = some o) → Q (.str (Txt.strip X) t') { s with heap := h', toks := tk }) :
    wpAny (model prog w) A (call (.ref 26) [.str X t]) Q E s := by
  refine wpAny_call ?_
  refine codeAny_call_cells (binds := [(Str.ofString "text", .str X t)]) (by omega) (I.K 26 _ rfl) rfl I.lim (codeRec_of I.K rfl) rfl rfl rfl ?_ fun s₁ x => ?_
  · intro y hy
    rw [List.mem_singleton.mp hy]
    exact .inr ⟨rfl, rfl⟩
  obtain ⟨h₁, tk₁, rfl⟩ := x.toInCall.same
  have hns : h₁.Ns s.heap.objs.size _ := x.toInCall.ns
  have hk₁ : ∀ b o, s.heap.get? b = some o → h₁.get? b = some o := x.toInCall.keep
  have hc : h₁.IsCell (s.heap.objs.size + 1) (some (.str X t)) := x.cell (Str.ofString "text") _ rfl
  have I₁ := I.keeps hk₁
  refine wpAny_mono (E := fun _ _ => False) (Q := fun f s' => match f with | .ret v => Q v s' | _ => False) ?_ ?_ ?_
  · show wpAny _ _ (execs (stm 3 0 :: stm 3 1 :: []) (envB s.heap.objs.size)) _ _ _
    refine wpAny_execs_cons (bare_places I₁ hh hns hc hX fun D h₂ tk₂ ys hn₂ hl₂ hi₂ hk₂ => ?_)
    have hc₂ : h₂.IsCell (s.heap.objs.size + 1) (some (.str X t)) := let ⟨o, ho, r⟩ := hc; ⟨o, hk₂ _ o (Nat.succ_ne_self _) ho, r⟩
    refine wpAny_execs_cons (bare_ret hn₂ (upd_same _ _ _) hl₂ hi₂ hc₂ hX fun h₃ tk₃ t₃ hk₃ => ?_)
    rw [bareS_strip]
    exact hQ h₃ tk₃ t₃ fun b o e => hk₃ b o (hk₂ b o (Nat.ne_of_lt (Heap.lt_size e)) (hk₁ b o e))
  · intro f s' h
    cases f with
    | ret v => exact h
    | next => exact h.elim
    | brk => exact h.elim
    | cont => exact h.elim
  · intro e s' h; exact h.elim
end Mine
end

/-! ## NTold1 -/
section
open PySem PySem.W PyProof.Rows
namespace Mine
variable {w : World} {A : Around} {E : Value → Shared → Prop} {s : Shared} {mg mb : Str → Option Value} {bm : Addr} {ob : Obj × Array Value}

/-- two names bound from a pair -/
theorem pair_bound {env : Env} {x y : Str} {p q r : Pos} {n : Nat} {a : Addr} {u v : Value} {m : Str → Option Value} {Q : Unit → Shared → Prop} (hh : A.handled = none)
    (kx : env.kindOf x = some .local) (ky : env.kindOf y = some .local) (kf : (env.scope.kind == .class || (env.scope.kind == .module && env.locals != env.globals)) = false)
    (pair : s.heap.IsTuple a #[u, v]) (hn : s.heap.Ns env.locals m)
    (k : ∀ h' tk, h'.Ns env.locals (upd (upd m x u) y v) → (∀ b o, b ≠ env.locals → s.heap.get? b = some o → h'.get? b = some o) → Q () { s with heap := h', toks := tk }) :
    wpAny (model prog w) A (assign (.Tuple [.Name x p, .Name y q] n r) env (.ref a)) Q E s := by
  refine wpAny_assign_Tuple hh pair rfl rfl fun g kg => ?_
  have ng : g.Ns env.locals m := hn.extBut kg (Nat.ne_of_lt hn.lt)
  refine wpAny_bind (m := holding [v] (assign (.Name x p) env u)) (wpAny_holding (wpAny_assign_Name (wpAny_storeName_local kx ng (fun g₁ n₁ k₁ => ?_) kf)))
  refine wpAny_bind (m := holding [] (assign (.Name y q) env v)) (wpAny_holding (wpAny_assign_Name (wpAny_storeName_local ky n₁ (fun g₂ n₂ k₂ => ?_) kf)))
  refine wpAny_pure (k g₂ _ n₂ fun b o hb e => ?_)
  have e₁ : g.get? b = some o := kg b o (Nat.ne_of_lt (Heap.lt_size e)) e
  exact (k₂.2 b hb).trans ((k₁.2 b hb).trans e₁)

/-- a loop over an enumerated list, by what holds of the whole state; the turn is handed the pair -/
theorem enum_turns {env : Env} {R : Result → Shared → Prop} {ts : List Expr} {p : Pos} {n : Nat} {body : List Stmt} {D I l : Addr} {items : Array Value} (hh : A.handled = none) (hDI : D ≠ I) (hlD : l ≠ D) (hlI : l ≠ I) (J : Nat → Shared → Prop)
    (hmove : ∀ i s₁ h₁ tk, J i s₁ → (∀ b o, b ≠ D → b ≠ I → s₁.heap.get? b = some o → h₁.get? b = some o) → J i { s₁ with heap := h₁, toks := tk })
    (start : IsEnum s.heap D I 0 .none ∧ s.heap.IsListIter I l 0 ∧ s.heap.IsList l items ∧ J 0 s)
    (step : ∀ i v a t s₁, items[i]? = some v → J i s₁ → s₁.heap.IsTuple a #[.int i t, v] →
      wpAny (model prog w) A (assign (.Tuple ts n p) env (.ref a)) (fun _ s₂ => wpAny (model prog w) A (execs body env)
        (fun f s₃ => f = .next ∧ J (i + 1) s₃ ∧ ∀ b ∈ [D, I, l], ∀ o, s₁.heap.get? b = some o → s₃.heap.get? b = some o)
        (notedBy (model prog w) A env fun e s' => R (.error e) s') s₂) (notedBy (model prog w) A env fun e s' => R (.error e) s') s₁)
    (hR : ∀ s', J items.size s' → R (.ok .next) s') :
    codeAny (model prog w) A (.forLoop (.Tuple ts n p) (.ref D) body [] env) R s := by
  let At : Nat → Shared → Prop := fun i s' => (∃ w₀, IsEnum s'.heap D I (i : Nat) w₀) ∧ s'.heap.IsListIter I l i ∧ s'.heap.IsList l items ∧ J i s'
  refine codeAny_forLoop_any (fun left s' => ∃ i, At i s' ∧ i + left = items.size) (fun left s' H => ?_) items.size ⟨0, ⟨⟨.none, start.1⟩, start.2⟩, Nat.zero_add _⟩
  obtain ⟨i, ⟨⟨w₀, en⟩, li, ls, j⟩, sum⟩ := H
  match left, sum with
  | 0, sum =>
    have last : i = items.size := sum
    refine wpAny_pyNext_enum_end hh en li ls (Array.getElem?_eq_none (Nat.le_of_eq last.symm)) fun g kg => wpAny_execs_nil (hR _ ?_)
    exact last ▸ hmove i s' g s'.toks j fun b o _ hb e => kg b o hb e
  | left + 1, sum =>
    have inside : i < items.size := by omega
    have drawn : items[i]? = some items[i] := Array.getElem?_eq_getElem inside
    have D0 : D < s'.heap.objs.size := Heap.lt_size en
    refine wpAny_pyNext_enum_item en li ls drawn hDI fun g₁ out li₁ pr _ k₁ => wpAny_letOwnedTupleGo_enum out fun g₂ en₂ k₂ => ?_
    have j₂ := hmove i s' g₂ (s'.toks + 1) j fun b o hD hI e => k₂.extBut b o hD (k₁ b o hD hI e)
    have pr₂ : g₂.IsTuple s'.heap.objs.size #[.int i s'.toks, items[i]] := ⟨_, k₂.extBut _ _ (Nat.ne_of_gt D0) pr, rfl, _, rfl⟩
    refine wpAny_mono (step i _ _ _ _ drawn j₂ pr₂) (fun _ s₂ t₂ => wpAny_mono t₂ (fun f s₃ t₃ => ?_) fun _ _ z => z) fun _ _ z => z
    obtain ⟨rfl, j₃, k₃⟩ := t₃
    have li₂ : g₂.IsListIter I l (i + 1) := li₁.extBut k₂.extBut (Ne.symm hDI)
    have ls₂ : g₂.IsList l items := let ⟨o, e, r⟩ := ls; ⟨o, k₂.extBut l o hlD (k₁ l o hlD hlI e), r⟩
    exact ⟨left, Nat.lt_succ_self _, i + 1, ⟨⟨_, k₃ D (by simp) _ en₂⟩, li₂.at fun o e => k₃ I (by simp) o e, ls₂.at fun o e => k₃ l (by simp) o e, j₃⟩, by omega⟩
end Mine
end

/-! ## NTold2 -/
section
open PySem PySem.W PyProof.Rows
namespace Mine
variable {w : World} {A : Around} {E : Value → Shared → Prop} {s : Shared} {mg mb : Str → Option Value} {bm : Addr} {ob : Obj × Array Value}

abbrev envT (L : Addr) : Env := envOf (Str.ofString "_law_told") (scopeOf (top 4)) L 31 (.ref 30)
abbrev hy : Str := Str.ofString "-"

/-- the first i texts, stripped and joined -/
def wholeTo (ts : List Str) (i : Nat) : Str := Str.join hy ((ts.take i).map Txt.strip)

theorem fp_list {l n b : Nat} (h : l < n) (hb : b ∈ [n, l]) : b < n + 1 := by
  simp at hb; omega
theorem ne_empty (x : Str) (u : Tok) : (x != Str.ofString "") = full (Value.str x u) := by
  unfold full
  rw [ofS_empty, Bool.eq_iff_iff]
  simp only [bne_iff_ne, ne_eq]
  constructor
  · intro h e
    exact h (Str.ext' (Array.eq_empty_of_size_eq_zero e))
  · intro h e
    rw [e] at h
    exact h rfl
theorem same_list {vs vs' : List Value} (hl : vs'.length = vs.toArray.size) (h : ∀ (j : Nat) (v : Value), vs'[j]? = some v → vs.toArray[j]? = some v) : vs' = vs := by
  apply List.ext_getElem?
  intro j
  by_cases hj : j < vs'.length
  · rw [List.getElem?_eq_getElem hj]
    have := h j _ (List.getElem?_eq_getElem hj)
    simpa using this.symm
  · rw [List.getElem?_eq_none (by omega), List.getElem?_eq_none (by simp at hl; omega)]

theorem join_snoc (sep x : Str) : ∀ l : List Str, l ≠ [] → Str.join sep (l ++ [x]) = Str.join sep l ++ (sep ++ x)
  | [], h => (h rfl).elim
  | [a], _ => by show a ++ sep ++ x = a ++ (sep ++ x); rw [Str.append_assoc]
  | a :: b :: r, _ => by
    show a ++ sep ++ Str.join sep (b :: r ++ [x]) = a ++ sep ++ Str.join sep (b :: r) ++ (sep ++ x)
    rw [join_snoc sep x (b :: r) (by simp), Str.append_assoc, Str.append_assoc, Str.append_assoc]
theorem wholeTo_zero (ks : List Str) : wholeTo ks 0 = Str.ofString "" := by
  rw [ofS_empty]; rfl
theorem wholeTo_succ {ks : List Str} {i : Nat} {x : Str} (h : ks[i]? = some x) : wholeTo ks (i + 1) = wholeTo ks i ++ ((if 0 < i then hy else Str.ofString "") ++ Txt.strip x) := by
  have hi : i < ks.length := (List.getElem?_eq_some_iff.mp h).1
  have hx : ks[i] = x := (List.getElem?_eq_some_iff.mp h).2
  unfold wholeTo
  rw [List.take_succ_eq_append_getElem hi, hx, List.map_append]
  by_cases h0 : 0 < i
  · rw [if_pos h0]
    exact join_snoc hy _ _ (by
      intro e
      have := congrArg List.length e
      rw [List.length_map, List.length_take, List.length_nil] at this
      omega)
  · have : i = 0 := by omega
    subst this
    rw [if_neg h0, ofS_empty]
    show Txt.strip x = Str.empty ++ (Str.empty ++ Txt.strip x)
    rw [Str.empty_append, Str.empty_append]
theorem wholeTo_len {ts : List Str} (hw : wt ts ≤ 1000) (i : Nat) : (wholeTo (keepFull ts) i).length ≤ 1000 := by
  have h1 := StrLaws.join_length_le hy (((keepFull ts).take i).map Txt.strip)
  have h2 : wt (((keepFull ts).take i).map Txt.strip) ≤ wt ((keepFull ts).take i) := wt_strip _
  have h3 : wt ((keepFull ts).take i) ≤ wt (keepFull ts) := by
    unfold wt
    have hs := List.take_sublist i (keepFull ts)
    have e1 := hs.length_le
    have e2 : (((keepFull ts).take i).map (·.length)).sum ≤ ((keepFull ts).map (·.length)).sum := by
      conv => rhs; rw [← List.take_append_drop i (keepFull ts), List.map_append, List.sum_append]
      exact Nat.le_add_right _ _
    omega
  have h4 := wt_filter ts
  have h5 : hy.length = 1 := by decide +kernel
  rw [h5, Nat.mul_one] at h1
  unfold wholeTo
  unfold wt at *
  omega
theorem wholeTo_all (ts : List Str) : wholeTo (keepFull ts) (keepFull ts).length = joined ts := by
  unfold wholeTo joined Txt.join
  rw [StrLaws.glued_eq_join, List.take_length]

theorem told_for {L l : Addr} {m : Str → Option Value} {vs : List Value} {ts : List Str} {t : Tok} {Q : Flow → Shared → Prop}
    (I : Inv w mg mb bm ob s.heap) (hh : A.handled = none) (hd : A.depth + 10 < recursionLimit) (hn : s.heap.Ns L m) (hm : m (Str.ofString "texts") = some (.ref l)) (hw' : m (Str.ofString "whole") = some (.str (Str.ofString "") t))
    (hl : s.heap.IsList l vs.toArray) (hts : StrsAre vs ts) (hw : wt ts ≤ 1000) (hL : 45 < L)
    (hQ : ∀ h' tk m' t', h'.Ns L m' → m' (Str.ofString "whole") = some (.str (joined ts) t') → (∀ b o, b ≠ L → s.heap.get? b = some o → h'.get? b = some o) → Q .next { s with heap := h', toks := tk }) :
    wpAny (model prog w) A (exec (stm 4 1) (envT L)) Q E s := by
  obtain ⟨hp, gs, dr, tk, os⟩ := s
  dsimp only at I hn hl hQ
  show wpAny _ _ (exec (Stmt.For (.Tuple [.Name _ _, .Name _ _] _ _) _ _ [] _) _) _ _ _
  refine wpAny_For ?_
  walk1
  refine nmE (v := .type "enumerate") I rfl rfl rfl rfl (by decide) (by decide +kernel) (by rfl) ?_
  walk1
  walk1
  refine wpAny_ListComp_walk full (fun v y => y = v) (by decide) (by decide) rfl (by decide) rfl ?_
  refine wpAny_Name (wpAny_loadName_local rfl rfl hn hm ?_) (by decide)
  have hllt : l < hp.objs.size := let ⟨_, e, _⟩ := hl; Heap.lt_size e
  have hlen : vs.length ≤ 1000 := by rw [hts.length]; exact Nat.le_trans (Nat.le_add_left _ _) hw
  refine wpAny_pyIter_list hl ?_
  refine ⟨_, _, _, _, _, _, rfl, Walks.list hh hp.objs.size l (Nat.ne_of_lt hllt) vs.toArray, Nat.le_trans (by simpa using hlen) (by decide : 1000 ≤ sizeLine), ⟨⟨_, Heap.get?_push_size _ rfl, rfl, rfl⟩, hl.push _⟩, ?_, ⟨?_, ?_⟩, ?_⟩
  · intro b hb
    show b < (hp.push _).objs.size
    rw [Heap.size_push]
    exact fp_list hllt hb
  · intro C i v s₃ m₃ E' hP hns hmx hk htk
    obtain ⟨x, u, rfl, hx⟩ := strs_mem hts v (by simpa using List.mem_of_getElem? (l := vs) (i := i) (by simpa using hP))
    refine one_test ?_
    walk1
    refine wpAny_Name (wpAny_loadName_local rfl rfl hns hmx ?_) (by decide)
    walk1
    walk1
    walk1
    exact ⟨ne_empty x u, s₃.heap, _, rfl, fun _ _ e => e⟩
  · intro C i v s₃ m₃ E' hP hpv hns hmx hk htk
    exact wpAny_Name (wpAny_loadName_local rfl rfl hns hmx ⟨rfl, s₃.heap, s₃.toks, rfl, fun _ _ e => e⟩) (by decide)
  · intro D h₁ tk₁ ys vs' hD hlD hplD hlen' hPv hpair hk
    have hys : ys.toList = vs.filter full := by rw [paired_eq hpair, same_list hlen' hPv]
    have hyt : StrsAre ys.toList (keepFull ts) := by rw [hys]; exact strs_filter hts
    have hk₁ : ∀ b o, hp.get? b = some o → h₁.get? b = some o := fun b o e => hk b o (by
      rw [List.mem_singleton]; exact Nat.ne_of_lt (Heap.lt_size e)) (Heap.get?_push_of_some _ e)
    have hLlt : L < h₁.objs.size := (hn.keeps hk₁).lt
    have hDlt : D < h₁.objs.size := let ⟨_, e, _⟩ := hlD; Heap.lt_size e
    have hDL : D ≠ L := fun e => by
      obtain ⟨o, _, _, ho, _⟩ := hn
      rw [e] at hD
      have hD' : (hp.push _).get? L = none := hD
      rw [Heap.get?_push_of_some _ ho] at hD'; cases hD'
    walk1
    show wpAny _ _ (call (.type "enumerate") [.ref D]) _ _ _
    refine call_enumerate_list hlD fun h₂ hen hit₂ hsz₂ hk₂ => ?_
    refine wpAny_pyIter_enum hen ?_
    dsimp only at hen hit₂ hsz₂ hk₂ ⊢
    have hkA : ∀ b o, hp.get? b = some o → h₂.get? b = some o := fun b o e => hk₂ b o (hk₁ b o e)
    have hI2 : h₁.objs.size ≠ L := Nat.ne_of_gt hLlt
    have hD2 : h₁.objs.size + 1 ≠ L := Nat.ne_of_gt (Nat.lt_succ_of_lt hLlt)
    have low : ∀ b o, hp.get? b = some o → b ≠ h₁.objs.size + 1 ∧ b ≠ h₁.objs.size := fun b o e => ⟨Nat.ne_of_lt (Nat.lt_succ_of_lt (Heap.lt_size (hk₁ b o e))), Nat.ne_of_lt (Heap.lt_size (hk₁ b o e))⟩
    refine enum_turns (D := h₁.objs.size + 1) (I := h₁.objs.size) (l := D) (items := ys) hh (Nat.succ_ne_self _) (Nat.ne_of_lt (Nat.lt_succ_of_lt hDlt)) (Nat.ne_of_lt hDlt)
      (fun i s' => ∃ h' tk' m' t', s' = { heap := h', gens := gs, drawn := dr, toks := tk', os := os } ∧ h'.Ns L m' ∧ m' (Str.ofString "whole") = some (.str (wholeTo (keepFull ts) i) t') ∧ ∀ b o, b ≠ L → hp.get? b = some o → h'.get? b = some o)
      ?_ ⟨hen, hit₂, (let ⟨o, e, r⟩ := hlD; ⟨o, hk₂ _ _ e, r⟩), h₂, _, m, t, rfl, hn.keeps hkA, hw', fun b o _ e => hkA b o e⟩ ?_ ?_
    · rintro i s₁ g tkg ⟨h', tk', m', t', rfl, n', e', k'⟩ kg
      exact ⟨g, tkg, m', t', rfl, n'.at' fun o e => kg L o (Ne.symm hD2) (Ne.symm hI2) e, e', fun b o hb e => kg b o (low b o e).1 (low b o e).2 (k' b o hb e)⟩
    · rintro i v a tki s₁ hv ⟨h', tk', m₁, tw, rfl, hns', hJ, hk'⟩ hpair
      have hvt : ys.toList[i]? = some v := by rw [Array.getElem?_toList]; exact hv
      have hit : i < (keepFull ts).length := by rw [← hyt.length]; exact (List.getElem?_eq_some_iff.mp hvt).1
      obtain ⟨u, hu⟩ := hyt.get i _ (List.getElem?_eq_getElem hit)
      have hx : (keepFull ts)[i]? = some (keepFull ts)[i] := List.getElem?_eq_getElem hit
      rw [hvt] at hu
      injection hu with hu
      subst hu
      have hxl : ((keepFull ts)[i]).length ≤ 1000 := Nat.le_trans (wt_mem (List.getElem_mem hit)) (Nat.le_trans (wt_filter ts) hw)
      have hsl : (Txt.strip (keepFull ts)[i]).length ≤ 1000 := Nat.le_trans (strip_le _) hxl
      have hwl := wholeTo_len hw i
      have hsucc := wholeTo_succ hx
      generalize (keepFull ts)[i] = x at *
      refine pair_bound (m := m₁) hh rfl rfl rfl hpair hns' fun h₃ tk₃ hns₃ hk₃ => ?_
      replace hns₃ : h₃.Ns L (upd (upd m₁ (Str.ofString "k") (.int (i : Int) tki)) (Str.ofString "text") (.str x u)) := hns₃
      replace hk₃ : ∀ b o, b ≠ L → h'.get? b = some o → h₃.get? b = some o := hk₃
      dsimp only
      have hmw : upd (upd m₁ (Str.ofString "k") (.int (i : Int) tki)) (Str.ofString "text") (.str x u) (Str.ofString "whole") = some (.str (wholeTo (keepFull ts) i) tw) :=
        (upd_ne _ _ (by decide)).trans ((upd_ne _ _ (by decide)).trans hJ)
      have hmk : upd (upd m₁ (Str.ofString "k") (.int (i : Int) tki)) (Str.ofString "text") (.str x u) (Str.ofString "k") = some (.int (i : Int) tki) :=
        (upd_ne _ _ (by decide)).trans (upd_same _ _ _)
      have hmt : upd (upd m₁ (Str.ofString "k") (.int (i : Int) tki)) (Str.ofString "text") (.str x u) (Str.ofString "text") = some (.str x u) := upd_same _ _ _
      generalize upd (upd m₁ (Str.ofString "k") (.int (i : Int) tki)) (Str.ofString "text") (.str x u) = m₃ at hns₃ hmw hmk hmt
      have I₃ : Inv w mg mb bm ob h₃ := I.at fun b o hb e => hk₃ b o (Nat.ne_of_lt (Nat.lt_of_lt_of_le hb hL)) (hk' b o (Nat.ne_of_lt (Nat.lt_of_lt_of_le hb hL)) e)
      have fin : ∀ (h₅ : Heap) (tk₅ : Nat) (m₅ : Str → Option Value) (t₅ : Tok), h₅.Ns L m₅ → m₅ (Str.ofString "whole") = some (.str (wholeTo (keepFull ts) (i + 1)) t₅) → (∀ b o, b ≠ L → h₃.get? b = some o → h₅.get? b = some o) →
          (Flow.next = Flow.next ∧ (∃ h'' tk'' m'' t'', ({ heap := h₅, gens := gs, drawn := dr, toks := tk₅, os := os } : Shared) = { heap := h'', gens := gs, drawn := dr, toks := tk'', os := os } ∧ h''.Ns L m'' ∧ m'' (Str.ofString "whole") = some (.str (wholeTo (keepFull ts) (i + 1)) t'') ∧ ∀ b o, b ≠ L → hp.get? b = some o → h''.get? b = some o) ∧
            ∀ b ∈ [h₁.objs.size + 1, h₁.objs.size, D], ∀ o, h'.get? b = some o → h₅.get? b = some o) := fun h₅ tk₅ m₅ t₅ n5 e5 k5 => by
        refine ⟨rfl, ⟨h₅, tk₅, m₅, t₅, rfl, n5, e5, fun b o hb e => k5 b o hb (hk₃ b o hb (hk' b o hb e))⟩, fun b hb o e => ?_⟩
        have hbL : b ≠ L := by
          simp only [List.mem_cons, List.not_mem_nil, or_false] at hb
          rcases hb with rfl | rfl | rfl
          · exact hD2
          · exact hI2
          · exact hDL
        exact k5 b o hbL (hk₃ b o hbL e)
      walk1
      walk1
      refine wpAny_loadName_local rfl rfl hns₃ hmw ?_
      walk1
      walk1
      walk1
      refine wpAny_Name (wpAny_loadName_local rfl rfl hns₃ hmk ?_) (by decide)
      walk1
      walk1
      walk1
      by_cases h0 : 0 < i
      · rw [decide_eq_true (by omega), if_pos rfl]
        walk1
        walk1
        refine nmG (v := .ref 26) I₃ rfl rfl rfl (by rfl) ?_
        refine callWith_K I₃.K (by rfl) ?_
        walk1
        refine wpAny_Name (wpAny_loadName_local rfl rfl hns₃ hmt ?_) (by decide)
        walk1
        refine ⟨I₃.K, ?_⟩
        show wpAny _ _ (call (.ref 26) [.str x u]) _ _ _
        refine bare_call I₃ hh hd hxl fun h₄ tk₄ t₄ hk₄ => ?_
        walk1
        walk1
        refine wpAny_storeName_local rfl (hns₃.keeps hk₄) (fun h₅ hn₅ hs₅ => ?_) rfl
        walk1
        exact fin h₅ _ _ _ hn₅ (by rw [hsucc, if_pos h0]; exact if_pos rfl) fun b o hb e => hs₅.extBut b o hb (hk₄ b o e)
      · rw [decide_eq_false (by omega), if_neg Bool.false_ne_true]
        walk1
        walk1
        refine nmG (v := .ref 26) I₃ rfl rfl rfl (by rfl) ?_
        refine callWith_K I₃.K (by rfl) ?_
        walk1
        refine wpAny_Name (wpAny_loadName_local rfl rfl hns₃ hmt ?_) (by decide)
        walk1
        refine ⟨I₃.K, ?_⟩
        show wpAny _ _ (call (.ref 26) [.str x u]) _ _ _
        refine bare_call I₃ hh hd hxl fun h₄ tk₄ t₄ hk₄ => ?_
        walk1
        walk1
        refine wpAny_storeName_local rfl (hns₃.keeps hk₄) (fun h₅ hn₅ hs₅ => ?_) rfl
        walk1
        exact fin h₅ _ _ _ hn₅ (by rw [hsucc, if_neg h0]; exact if_pos rfl) fun b o hb e => hs₅.extBut b o hb (hk₄ b o e)
    · rintro s' ⟨h', tk', m', t', rfl, n', e', k'⟩
      refine hQ h' tk' m' t' n' ?_ k'
      rw [e', show ys.size = (keepFull ts).length from by have := hyt.length; simpa using this, wholeTo_all]
end Mine
end

/-! ## NTold3 -/
section
open PySem PySem.W PyProof.Rows
namespace Mine
variable {w : World} {A : Around} {E : Value → Shared → Prop} {s : Shared} {mg mb : Str → Option Value} {bm : Addr} {ob : Obj × Array Value}

/-- a sign as the law writes it -/
def sgn (c : Nat) : Nat := if c = 32 then 95 else if c ∈ [47, 92, 58, 59, 34, 40, 41] then 45 else c
def SgnF (v y : Value) : Prop := ∀ c u, v = Value.str ⟨#[c]⟩ u → ∃ u', y = Value.str ⟨#[sgn c]⟩ u'

theorem pair_signs : ∀ (cs : List Nat) (vs ys : List Value), vs.length = cs.length → (∀ (j : Nat) (v : Value), vs[j]? = some v → ∃ c u, cs[j]? = some c ∧ v = Value.str ⟨#[c]⟩ u) → Paired SgnF vs ys →
    ∃ l : List (Str × Tok), strValues l = ys ∧ l.map (·.1) = cs.map fun c => (⟨#[sgn c]⟩ : Str)
  | [], [], _, _, _, .nil => ⟨[], rfl, rfl⟩
  | c :: cs, v :: vs, _, hl, h, .cons e r => by
    obtain ⟨c', u, hc, rfl⟩ := h 0 v rfl
    simp at hc
    subst hc
    obtain ⟨u', rfl⟩ := e c u rfl
    obtain ⟨l, h1, h2⟩ := pair_signs cs vs _ (by simpa using hl) (fun j v hv => by simpa using h (j + 1) v (by simpa using hv)) r
    exact ⟨(⟨#[sgn c]⟩, u') :: l, by simp [strValues] at h1 ⊢; exact h1, by simp [h2]⟩
theorem join_signs : ∀ cs : List Nat, (Str.join (⟨#[]⟩ : Str) (cs.map fun c => (⟨#[sgn c]⟩ : Str))).cps.toList = cs.map sgn
  | [] => rfl
  | [c] => rfl
  | c :: d :: r => by
    have ih := join_signs (d :: r)
    show ((⟨#[sgn c]⟩ : Str) ++ ⟨#[]⟩ ++ Str.join (⟨#[]⟩ : Str) ((d :: r).map fun c => (⟨#[sgn c]⟩ : Str))).cps.toList = _
    rw [Str.cps_append, Str.cps_append, Array.toList_append, Array.toList_append, ih]
    rfl
theorem sign_blank (c : Nat) : ((⟨#[c]⟩ : Str) == Str.ofString " ") = decide (c = 32) := by
  rw [ofS_blank, Bool.eq_iff_iff]; simp
theorem ofS_marks : Str.ofString "/\\:;\"()" = ⟨#[47, 92, 58, 59, 34, 40, 41]⟩ := by decide +kernel
theorem sign_marks (c : Nat) : Txt.contains (Str.ofString "/\\:;\"()") ⟨#[c]⟩ = decide (c ∈ [47, 92, 58, 59, 34, 40, 41]) := by
  unfold Txt.contains
  rw [StrLaws.found_one, ofS_marks]

theorem sgnF_of {c : Nat} {u u' : Tok} {y : Str} (h : y = ⟨#[sgn c]⟩) : SgnF (Value.str ⟨#[c]⟩ u) (Value.str y u') := by
  intro c' u'' e
  injection e with e _
  have : c = c' := by injection e with e; simpa using e
  subst this
  exact ⟨u', by rw [h]⟩

theorem told_signs {L : Addr} {m : Str → Option Value} {X : Str} {t : Tok} {Q : Flow → Shared → Prop}
    (hh : A.handled = none) (hn : s.heap.Ns L m) (hm : m (Str.ofString "whole") = some (.str X t)) (hX : X.length ≤ 1000)
    (hQ : ∀ h' tk t' Y, h'.Ns L (upd m (Str.ofString "whole") (.str Y t')) → Y.cps.toList = X.cps.toList.map sgn → (∀ b o, b ≠ L → s.heap.get? b = some o → h'.get? b = some o) → Q .next { s with heap := h', toks := tk }) :
    wpAny (model prog w) A (exec (stm 4 2) (envT L)) Q E s := by
  obtain ⟨hp, gs, dr, tk, os⟩ := s
  dsimp only at hn hQ
  show wpAny _ _ (exec (Stmt.Assign [.Name _ _] (.Call (.Attribute _ _ _) [.ListComp _ [⟨.Name _ _, _, _, 0⟩] _ _] [] _) _) _) _ _ _
  walk1
  walk1
  walk1
  walk1
  walk1
  walk1
  refine wpAny_ListComp_walk (fun _ => true) SgnF (by decide) (by decide) rfl (by decide) rfl ?_
  refine wpAny_Name (wpAny_loadName_local rfl rfl hn hm ?_) (by decide)
  refine wpAny_pyIter_str fun o St W hst => ?_
  have hxs : X.cps.size ≤ 1000 := hX
  refine ⟨_, _, _, _, _, _, rfl, W A hh, Nat.le_trans hxs (by decide), hst, ?_, ⟨?_, ?_⟩, ?_⟩
  · intro b hb
    rw [List.mem_singleton.mp hb]
    show hp.objs.size < (hp.push o).objs.size
    rw [Heap.size_push]; exact Nat.lt_succ_self _
  · intro C i v s₃ m₃ E' hP hns hmx hk htk
    exact wpAny_pure ⟨rfl, s₃.heap, s₃.toks, rfl, fun _ _ e => e⟩
  · intro C i v s₃ m₃ E' hP _ hns hmx hk htk
    obtain ⟨c, u, hc, rfl⟩ := hP
    walk1
    walk1
    refine wpAny_Name (wpAny_loadName_local rfl rfl hns hmx ?_) (by decide)
    walk1
    walk1
    walk1
    rw [sign_blank]
    by_cases h1 : c = 32
    · rw [decide_eq_true h1, if_pos rfl]
      walk1
      exact ⟨sgnF_of (by rw [ofS_und]; simp [sgn, h1]), s₃.heap, _, rfl, fun _ _ e => e⟩
    · rw [decide_eq_false h1, if_neg Bool.false_ne_true]
      walk1
      walk1
      refine wpAny_Name (wpAny_loadName_local rfl rfl hns hmx ?_) (by decide)
      walk1
      walk1
      walk1
      rw [StrLaws.found_one, ofS_marks]
      by_cases h2 : c ∈ [47, 92, 58, 59, 34, 40, 41]
      · rw [decide_eq_true h2, if_pos rfl]
        walk1
        exact ⟨sgnF_of (by rw [ofS_hyphen]; unfold sgn; rw [if_neg h1, if_pos h2]), s₃.heap, _, rfl, fun _ _ e => e⟩
      · rw [decide_eq_false h2, if_neg Bool.false_ne_true]
        refine wpAny_Name (wpAny_loadName_local rfl rfl hns hmx ?_) (by decide)
        exact ⟨sgnF_of (by unfold sgn; rw [if_neg h1, if_neg h2]), s₃.heap, _, rfl, fun _ _ e => e⟩
  · intro D h₁ tk₁ ys vs hD hl hpl hlen hPv hpair hk
    have hk₁ : ∀ b o, hp.get? b = some o → h₁.get? b = some o := fun b o' e => hk b o' (by
      rw [List.mem_singleton]; exact Nat.ne_of_lt (Heap.lt_size e)) (Heap.get?_push_of_some _ e)
    have hpair' : Paired SgnF vs ys.toList := by
      have e : vs.filter (fun _ => true) = vs := List.filter_eq_self.mpr fun _ _ => rfl
      rwa [e] at hpair
    obtain ⟨l, hl1, hl2⟩ := pair_signs X.cps.toList vs ys.toList (by simpa using hlen) (fun j v hv => by
      obtain ⟨c, u, hc, e⟩ := hPv j v hv
      exact ⟨c, u, by rw [Array.getElem?_toList]; exact hc, e⟩) hpair'
    walk1
    show wpAny _ _ (call (.builtin "str.join") [.str (Str.ofString "") _, .ref D]) _ _ _
    refine SC.join (l := l) (texts := X.cps.toList.map fun c => (⟨#[sgn c]⟩ : Str)) (by rw [hl1]; simpa using hl) hl2 (joinOk_of_weight (by
      have h1 : ((X.cps.toList.map fun c => (⟨#[sgn c]⟩ : Str)).map (·.length)).sum = X.length := by
        rw [List.map_map]
        have : ((fun x : Str => x.length) ∘ fun c => (⟨#[sgn c]⟩ : Str)) = fun _ => 1 := by funext c; rfl
        rw [this, ← len_list X]
        generalize X.cps.toList = cs
        induction cs with
        | nil => rfl
        | cons _ _ ih => simp at ih ⊢; omega
      rw [h1, List.length_map, len_list]
      omega) (by decide)) fun t' k => ?_
    refine wpAny_storeName_local rfl (hn.keeps hk₁) (fun h₂ hn₂ hs₂ => ?_) rfl
    refine hQ h₂ _ t' _ hn₂ ?_ fun b o' hb e => hs₂.extBut b o' hb (hk₁ b o' e)
    unfold Txt.join
    rw [StrLaws.glued_eq_join, ofS_empty]
    exact join_signs _
end Mine
end

/-! ## NTold4 -/
section
open PySem PySem.W PyProof.Rows
namespace Mine
variable {w : World} {A : Around} {E : Value → Shared → Prop} {s : Shared} {mg mb : Str → Option Value} {bm : Addr} {ob : Obj × Array Value}

theorem idx_clip (l : Option Int) {j : Int} {len : Nat} (h : (len : Int) ≤ j) : Builtin.Str.strSliceIndices l (some j) 1 len = Builtin.Str.strSliceIndices l (some (len : Int)) 1 len := by
  unfold Builtin.Str.strSliceIndices
  have a : ¬ (j < 0) := by omega
  have b : ¬ ((len : Int) < 0) := by omega
  have c : min j (len : Int) = len := by omega
  have d : min (len : Int) (len : Int) = len := by omega
  simp only [a, b, c, d, if_false, show (1 : Int) > 0 by decide, if_true]
theorem slice_clip (x : Str) (l : Option Int) {j : Int} (h : (x.length : Int) ≤ j) : Txt.slice x l (some j) = Txt.slice x l (some (x.length : Int)) := by
  unfold Txt.slice
  rw [idx_clip l h]
theorem slice7 {W : Str} {k : Nat} (hk : k ≤ W.length) : (Txt.slice W (some (k : Int)) (some ((k : Int) + 7))).cps.toList = (W.cps.toList.drop k).take 7 := by
  have hl := len_list W
  by_cases h : k + 7 ≤ W.length
  · have e : Txt.slice W (some (k : Int)) (some ((k : Int) + 7)) = StrLaws.sliceText W (some (k : Int)) (some ((k + 7 : Nat) : Int)) := rfl
    rw [e, StrLaws.sliceText_nat W (by omega) h]
    show (W.cps.toList.drop k).take (k + 7 - k) = _
    rw [show k + 7 - k = 7 by omega]
  · rw [slice_clip W _ (by omega)]
    have e : Txt.slice W (some (k : Int)) (some (W.length : Int)) = StrLaws.sliceText W (some (k : Int)) (some ((W.length : Nat) : Int)) := rfl
    rw [e, StrLaws.sliceText_nat W hk (Nat.le_refl _)]
    show (W.cps.toList.drop k).take (W.length - k) = _
    rw [List.take_of_length_le (by rw [List.length_drop, hl]; exact Nat.le_refl _), List.take_of_length_le (by rw [List.length_drop, hl]; omega)]
theorem slice_last (T : Str) : (Txt.slice T (some (-1)) none).cps.toList = (T.cps.toList.getLast?).toList := by
  have hl := len_list T
  by_cases h : 1 ≤ T.length
  · have e : Txt.slice T (some (-1)) none = StrLaws.sliceText T (some (-1)) none := rfl
    rw [e, StrLaws.sliceText_from_neg (by decide) (by omega)]
    show (T.cps.toList.drop ((-1 : Int) + T.length).toNat).take ((T.cps.toList.length : Int) - ((-1 : Int) + T.length)).toNat = _
    rw [show ((-1 : Int) + T.length).toNat = T.cps.toList.length - 1 by omega, show ((T.cps.toList.length : Int) - ((-1 : Int) + T.length)).toNat = 1 by omega]
    have hne : T.cps.toList ≠ [] := fun e => by rw [e] at hl; simp at hl; omega
    rw [List.getLast?_eq_some_getLast hne]
    conv => lhs; rw [← List.dropLast_concat_getLast hne]
    rw [List.drop_left' (by simp)]
    rfl
  · have h0 : T.cps.toList = [] := List.eq_nil_of_length_eq_zero (by omega)
    rw [h0]
    have := Txt.slice_le T (some (-1)) none
    have h1 := len_list (Txt.slice T (some (-1)) none)
    exact List.eq_nil_of_length_eq_zero (by omega)
theorem str_eq_list {x y : Str} : (x == y) = decide (x.cps.toList = y.cps.toList) := by
  rw [Bool.eq_iff_iff, beq_iff_eq, decide_eq_true_iff]
  exact ⟨fun e => by rw [e], fun e => Str.ext' (Array.toList_inj.mp e)⟩
theorem is_unk {W : Str} {k : Nat} (hk : k ≤ W.length) : (Txt.slice W (some (k : Int)) (some ((k : Int) + 7)) == Str.ofString "unknown") = unk.isPrefixOf (W.cps.toList.drop k) := by
  rw [str_eq_list, slice7 hk, ofS_unk, Bool.eq_iff_iff, decide_eq_true_iff, List.isPrefixOf_iff_prefix, List.prefix_iff_eq_take]
  exact ⟨fun e => e.symm, fun e => e.symm⟩
theorem last_ne (T : Str) : (Txt.slice T (some (-1)) none != Str.ofString "-") = decide (T.cps.toList.getLast? ≠ some 45) := by
  show (!(Txt.slice T (some (-1)) none == Str.ofString "-")) = _
  rw [str_eq_list, slice_last, ofS_hyphen]
  cases T.cps.toList.getLast? with
  | none => rfl
  | some c => by_cases h : c = 45 <;> simp [h]
theorem last_eq' (T : Str) : (Txt.slice T (some (-1)) none == Str.ofString "-") = decide (T.cps.toList.getLast? = some 45) := by
  rw [str_eq_list, slice_last, ofS_hyphen]
  cases T.cps.toList.getLast? with
  | none => rfl
  | some c => by_cases h : c = 45 <;> simp [h]
theorem item_ne {W : Str} {k : Nat} (hk : k < W.length) : (Txt.item W (k : Int) != Str.ofString "-") = decide (W.cps.getD k 0 ≠ 45) := by
  rw [charAt_nat hk, ofS_hyphen, Bool.eq_iff_iff]
  simp
theorem drop_cons {W : Str} {k : Nat} (hk : k < W.length) : W.cps.toList.drop k = W.cps.getD k 0 :: W.cps.toList.drop (k + 1) := by
  have hk' : k < W.cps.size := hk
  rw [List.drop_eq_getElem_cons (by rw [len_list]; exact hk)]
  simp [Array.getD, hk']

theorem told_while {L : Addr} {m : Str → Option Value} {W : Str} {t t1 t2 : Tok} {Q : Flow → Shared → Prop}
    (I : Inv w mg mb bm ob s.heap) (hL : 45 < L) (hn : s.heap.Ns L m) (hm : m (Str.ofString "whole") = some (.str W t)) (hmt : m (Str.ofString "told") = some (.str (Str.ofString "") t1)) (hmk : m (Str.ofString "k") = some (.int 0 t2)) (hW : W.length ≤ 1000)
    (hQ : ∀ h' tk m' t' Y, h'.Ns L m' → m' (Str.ofString "told") = some (.str Y t') → Y.cps.toList = tl W.cps.toList [] → Y.length ≤ 1000 → (∀ b o, b ≠ L → s.heap.get? b = some o → h'.get? b = some o) → Q .next { s with heap := h', toks := tk }) :
    wpAny (model prog w) A (exec (stm 4 5) (envT L)) Q E s := by
  show wpAny _ _ (exec (Stmt.While _ _ _ _) _) _ _ _
  refine wpAny_While ?_
  refine codeAny_whileLoop (fun n s' => ∃ h' tk m' tw tt tk' T k, s' = { s with heap := h', toks := tk } ∧ (∀ b o, b ≠ L → s.heap.get? b = some o → h'.get? b = some o) ∧ h'.Ns L m' ∧
      m' (Str.ofString "whole") = some (.str W tw) ∧ m' (Str.ofString "told") = some (.str T tt) ∧ m' (Str.ofString "k") = some (.int ((k : Nat) : Int) tk') ∧ T.length ≤ k ∧ k ≤ W.length ∧
      tl (W.cps.toList.drop k) T.cps.toList = tl W.cps.toList [] ∧ n = W.length - k) ?_ W.length
    ⟨s.heap, s.toks, m, t, t1, t2, Str.ofString "", 0, rfl, (fun _ _ _ e => e), hn, hm, hmt, hmk, by rw [ofS_empty]; exact Nat.le_refl _, Nat.zero_le _, by rw [ofS_empty]; rfl, rfl⟩
  rintro n s' ⟨h₁, tk₁, m₁, tw, tt, tk', T, k, rfl, hs₁, hn₁, hm₁, hmt₁, hmk₁, hTk, hkW, htl, rfl⟩
  have I₁ : Inv w mg mb bm ob h₁ := I.at fun b o hb e => hs₁ b o (Nat.ne_of_lt (Nat.lt_of_lt_of_le hb hL)) e
  walk1
  refine wpAny_Name (wpAny_loadName_local rfl rfl hn₁ hmk₁ ?_) (by decide)
  walk1
  refine nmE (v := .builtin "len") I₁ rfl rfl rfl rfl (by decide) (by decide +kernel) (by rfl) ?_
  walk1
  walk1
  refine wpAny_Name (wpAny_loadName_local rfl rfl hn₁ hm₁ ?_) (by decide)
  walk1
  walk1
  walk1
  walk1
  by_cases hlt : k < W.length
  · rw [decide_eq_true (by omega), if_pos rfl]
    walk1
    walk1
    walk1
    walk1
    refine wpAny_Name (wpAny_loadName_local rfl rfl hn₁ hm₁ ?_) (by decide)
    walk1
    walk1
    refine wpAny_Name (wpAny_loadName_local rfl rfl hn₁ hmk₁ ?_) (by decide)
    walk1
    walk1
    refine wpAny_Name (wpAny_loadName_local rfl rfl hn₁ hmk₁ ?_) (by decide)
    walk1
    walk1
    walk1
    refine cut_ss (s := { s with heap := h₁, toks := _ }) (fun h₂ t₂ k₂ hk₂ => ?_) (hsz := Nat.le_trans hW (by decide))
    walk1
    walk1
    walk1
    rw [is_unk hkW]
    have hn₂ := hn₁.keeps hk₂
    have hsz₂ : ∀ b o, b ≠ L → s.heap.get? b = some o → h₂.get? b = some o := fun b o hb e => hk₂ b o (hs₁ b o hb e)
    cases hu : unk.isPrefixOf (W.cps.toList.drop k) with
    | true =>
      rw [if_pos rfl]
      walk1
      walk1
      refine wpAny_loadName_local rfl rfl hn₂ hmk₁ ?_
      walk1
      walk1
      refine wpAny_storeName_local rfl hn₂ (fun h₃ hn₃ hs₃ => ?_) rfl
      refine wpAny_execs_nil (wpAny_execs_nil ?_)
      have h7 : k + 7 ≤ W.length := by
        have := (List.isPrefixOf_iff_prefix.mp hu).length_le
        rw [List.length_drop, len_list] at this
        simp [unk] at this
        omega
      refine ⟨W.length - (k + 7), by omega, h₃, _, _, tw, tt, _, T, k + 7, rfl, (fun b o hb e => hs₃.extBut b o hb (hsz₂ b o hb e)), hn₃,
        (if_neg (by decide)).trans hm₁, (if_neg (by decide)).trans hmt₁, (if_pos rfl).trans (by congr 2), by omega, h7, ?_, rfl⟩
      rw [← htl, tl_hit hu, List.drop_drop]
    | false =>
      rw [if_neg Bool.false_ne_true]
      have hdc := drop_cons hlt
      have hu' := hu
      rw [hdc] at hu'
      rw [hdc, tl_miss hu'] at htl
      walk1
      walk1
      walk1
      walk1
      walk1
      refine wpAny_Name (wpAny_loadName_local rfl rfl hn₂ hm₁ ?_) (by decide)
      refine wpAny_Name (wpAny_loadName_local rfl rfl hn₂ hmk₁ ?_) (by decide)
      walk1
      walk1
      walk1
      walk1
      rw [item_ne hlt]
      by_cases hc : W.cps.getD k 0 ≠ 45
      · rw [decide_eq_true hc, if_pos rfl, if_pos rfl]
        have hst : step T.cps.toList (W.cps.getD k 0) = T.cps.toList ++ [W.cps.getD k 0] := by unfold step; rw [if_pos (.inl hc)]
        walk1
        walk1
        refine wpAny_loadName_local rfl rfl hn₂ hmt₁ ?_
        walk1
        refine wpAny_Name (wpAny_loadName_local rfl rfl hn₂ hm₁ ?_) (by decide)
        refine wpAny_Name (wpAny_loadName_local rfl rfl hn₂ hmk₁ ?_) (by decide)
        walk1
        walk1
        refine wpAny_storeName_local rfl hn₂ (fun h₅ hn₅ hs₅ => ?_) rfl
        refine wpAny_execs_nil ?_
        dsimp only
        walk1
        walk1
        refine wpAny_loadName_local rfl rfl hn₅ ((if_neg (by decide)).trans hmk₁) ?_
        walk1
        walk1
        refine wpAny_storeName_local rfl hn₅ (fun h₆ hn₆ hs₆ => ?_) rfl
        refine wpAny_execs_nil (wpAny_execs_nil ?_)
        refine ⟨W.length - (k + 1), by omega, h₆, _, _, tw, _, _, T ++ Txt.item W (k : Int), k + 1, rfl, (fun b o hb e => hs₆.extBut b o hb (hs₅.extBut b o hb (hsz₂ b o hb e))), hn₆,
          (if_neg (by decide)).trans ((if_neg (by decide)).trans hm₁), (if_neg (by decide)).trans (if_pos rfl), (if_pos rfl).trans (by congr 2), ?_, by omega, ?_, rfl⟩
        · rw [Str.length_append, charAt_nat hlt]
          show T.length + 1 ≤ k + 1
          omega
        · rw [← htl, hst, Str.cps_append, Array.toList_append, charAt_nat hlt]
      · rw [decide_eq_false hc, if_neg Bool.false_ne_true]
        walk1
        walk1
        walk1
        refine wpAny_Name (wpAny_loadName_local rfl rfl hn₂ hmt₁ ?_) (by decide)
        walk1
        walk1
        walk1
        walk1
        walk1
        walk1
        walk1
        refine cut_sn (s := { s with heap := h₂, toks := _ }) (fun h₃ t₃ k₃ hk₃ => ?_) (hsz := Nat.le_trans (Nat.le_trans hTk (Nat.le_trans hkW hW)) (by decide))
        have hn₃ := hn₂.keeps hk₃
        have hsz₃ : ∀ b o, b ≠ L → s.heap.get? b = some o → h₃.get? b = some o := fun b o hb e => hk₃ b o (hsz₂ b o hb e)
        walk1
        walk1
        walk1
        rw [last_ne]
        by_cases hl : T.cps.toList.getLast? ≠ some 45
        · rw [decide_eq_true hl, if_pos rfl, if_pos rfl]
          have hst : step T.cps.toList (W.cps.getD k 0) = T.cps.toList ++ [W.cps.getD k 0] := by unfold step; rw [if_pos (.inr hl)]
          walk1
          walk1
          refine wpAny_loadName_local rfl rfl hn₃ hmt₁ ?_
          walk1
          refine wpAny_Name (wpAny_loadName_local rfl rfl hn₃ hm₁ ?_) (by decide)
          refine wpAny_Name (wpAny_loadName_local rfl rfl hn₃ hmk₁ ?_) (by decide)
          walk1
          walk1
          refine wpAny_storeName_local rfl hn₃ (fun h₅ hn₅ hs₅ => ?_) rfl
          refine wpAny_execs_nil ?_
          dsimp only
          walk1
          walk1
          refine wpAny_loadName_local rfl rfl hn₅ ((if_neg (by decide)).trans hmk₁) ?_
          walk1
          walk1
          refine wpAny_storeName_local rfl hn₅ (fun h₆ hn₆ hs₆ => ?_) rfl
          refine wpAny_execs_nil (wpAny_execs_nil ?_)
          refine ⟨W.length - (k + 1), by omega, h₆, _, _, tw, _, _, T ++ Txt.item W (k : Int), k + 1, rfl, (fun b o hb e => hs₆.extBut b o hb (hs₅.extBut b o hb (hsz₃ b o hb e))), hn₆,
            (if_neg (by decide)).trans ((if_neg (by decide)).trans hm₁), (if_neg (by decide)).trans (if_pos rfl), (if_pos rfl).trans (by congr 2), ?_, by omega, ?_, rfl⟩
          · rw [Str.length_append, charAt_nat hlt]
            show T.length + 1 ≤ k + 1
            omega
          · rw [← htl, hst, Str.cps_append, Array.toList_append, charAt_nat hlt]
        · rw [decide_eq_false hl, if_neg Bool.false_ne_true]
          have hst : step T.cps.toList (W.cps.getD k 0) = T.cps.toList := by
            unfold step; rw [if_neg (by rintro (h | h); exact hc h; exact hl h)]
          walk1
          rw [if_neg Bool.false_ne_true]
          refine wpAny_execs_nil ?_
          dsimp only
          walk1
          walk1
          refine wpAny_loadName_local rfl rfl hn₃ hmk₁ ?_
          walk1
          walk1
          refine wpAny_storeName_local rfl hn₃ (fun h₆ hn₆ hs₆ => ?_) rfl
          refine wpAny_execs_nil (wpAny_execs_nil ?_)
          refine ⟨W.length - (k + 1), by omega, h₆, _, _, tw, tt, _, T, k + 1, rfl, (fun b o hb e => hs₆.extBut b o hb (hsz₃ b o hb e)), hn₆,
            (if_neg (by decide)).trans hm₁, (if_neg (by decide)).trans hmt₁, (if_pos rfl).trans (by congr 2), by omega, by omega, ?_, rfl⟩
          rw [← htl, hst]
  · rw [decide_eq_false (by omega), if_neg Bool.false_ne_true]
    walk1
    have hk0 : W.cps.toList.drop k = [] := List.drop_of_length_le (by rw [len_list]; omega)
    rw [hk0, tl_nil] at htl
    exact hQ h₁ _ m₁ tt T hn₁ hmt₁ htl (by omega) hs₁
end Mine
end

/-! ## NTold5 -/
section
open PySem PySem.W PyProof.Rows
namespace Mine
variable {w : World} {A : Around} {E : Value → Shared → Prop} {s : Shared} {mg mb : Str → Option Value} {bm : Addr} {ob : Obj × Array Value}

/-- what _law_told gives back, as code points -/
def toldList (ts : List Str) : List Nat := off1 (tl ((joined ts).cps.toList.map sgn) [])

theorem told_ret {L : Addr} {m : Str → Option Value} {T : Str} {t : Tok} {Q : Flow → Shared → Prop}
    (hn : s.heap.Ns L m) (hm : m (Str.ofString "told") = some (.str T t)) (hT : T.length ≤ 1000)
    (hQ : ∀ h' tk t' Y, (∀ b o, s.heap.get? b = some o → h'.get? b = some o) → Y.cps.toList = off1 T.cps.toList → Q (.ret (.str Y t')) { s with heap := h', toks := tk }) :
    wpAny (model prog w) A (exec (stm 4 6) (envT L)) Q E s := by
  show wpAny _ _ (exec (Stmt.Return (some (.IfExp _ _ _ _)) _) _) _ _ _
  walk1
  walk1
  walk1
  walk1
  refine wpAny_Name (wpAny_loadName_local rfl rfl hn hm ?_) (by decide)
  walk1
  walk1
  walk1
  walk1
  walk1
  walk1
  walk1
  refine cut_sn (s := { s with toks := _ }) (fun h₁ t₁ k₁ hk₁ => ?_) (hsz := Nat.le_trans hT (by decide))
  have hn₁ := hn.keeps hk₁
  walk1
  walk1
  walk1
  rw [last_eq']
  by_cases hl : T.cps.toList.getLast? = some 45
  · rw [decide_eq_true hl, if_pos rfl]
    walk1
    refine wpAny_Name (wpAny_loadName_local rfl rfl hn₁ hm ?_) (by decide)
    walk1
    walk1
    walk1
    walk1
    walk1
    walk1
    walk1
    refine cut_ns (s := { s with heap := h₁, toks := _ }) (fun h₂ t₂ k₂ hk₂ => ?_) (hsz := Nat.le_trans hT (by decide))
    refine hQ h₂ k₂ t₂ _ (fun b o e => hk₂ b o (hk₁ b o e)) ?_
    have hpos : 1 ≤ T.length := by
      rw [← len_list]
      cases hT' : T.cps.toList with
      | nil => rw [hT'] at hl; simp at hl
      | cons => simp
    rw [slice_butlast hpos]
    unfold off1
    rw [if_pos hl]
  · rw [decide_eq_false hl, if_neg Bool.false_ne_true]
    refine wpAny_Name (wpAny_loadName_local rfl rfl hn₁ hm ?_) (by decide)
    refine hQ h₁ _ t T hk₁ ?_
    unfold off1
    rw [if_neg hl]

theorem told_call {l : Addr} {vs : List Value} {ts : List Str} {Q : Value → Shared → Prop}
    (I : Inv w mg mb bm ob s.heap) (hh : A.handled = none) (hd : A.depth + 20 < recursionLimit) (hl : s.heap.IsList l vs.toArray) (hts : StrsAre vs ts) (hw : wt ts ≤ 1000)
    (hQ : ∀ h' tk t' Y, (∀ b o, s.heap.get? b = some o → h'.get? b = some o) → Y.cps.toList = toldList ts → Q (.str Y t') { s with heap := h', toks := tk }) :
    wpAny (model prog w) A (call (.ref 31) [.ref l]) Q E s := by
  refine wpAny_call ?_
  refine codeAny_call_def (binds := [(Str.ofString "texts", .ref l)]) (by omega) (I.K 31 _ rfl) rfl I.lim (codeRec_of I.K rfl) rfl (BindsTo.of_eq rfl) (by decide) (by intro x hx; cases hx with | head => rfl | tail _ h => cases h) fun h₀ hns hk₀ => ?_
  have hL : 45 < s.heap.objs.size := I.size
  generalize hLe : s.heap.objs.size = L at hns hL
  have I₀ := I.keeps hk₀
  have hl₀ : h₀.IsList l vs.toArray := let ⟨o, e, r⟩ := hl; ⟨o, hk₀ _ _ e, r⟩
  have hkL : ∀ b o, s.heap.get? b = some o → b ≠ L := fun b o e => by rw [← hLe]; exact Nat.ne_of_lt (Heap.lt_size e)
  refine wpAny_mono (E := fun _ _ => False) (Q := fun f s' => match f with | .ret v => Q v s' | _ => False) ?_ ?_ ?_
  · show wpAny _ _ (execs (stm 4 0 :: stm 4 1 :: stm 4 2 :: stm 4 3 :: stm 4 4 :: stm 4 5 :: stm 4 6 :: []) (envT L)) _ _ _
    refine wpAny_execs_cons ?_
    show wpAny _ _ (exec (Stmt.Assign [.Name _ _] _ _) _) _ _ _
    walk1
    walk1
    refine wpAny_storeName_local rfl hns (fun h₁ hn₁ hs₁ => ?_) rfl
    dsimp only
    have I₁ : Inv w mg mb bm ob h₁ := I₀.same hL hs₁
    have hlL : l ≠ L := let ⟨o, e, _⟩ := hl; hkL _ _ e
    refine wpAny_execs_cons (told_for I₁ hh (by show A.depth + 1 + 10 < recursionLimit; omega) hn₁ rfl rfl (let ⟨o, e, r⟩ := hl₀; ⟨o, hs₁.extBut _ _ hlL e, r⟩) hts hw hL fun h₂ tk₂ m₂ t₂ hn₂ hm₂ hk₂ => ?_)
    refine wpAny_execs_cons (told_signs hh hn₂ hm₂ (join_len ts hw) fun h₃ tk₃ t₃ W hn₃ hW hk₃ => ?_)
    have hWl : W.length ≤ 1000 := by rw [← len_list, hW, List.length_map, len_list]; exact join_len ts hw
    refine wpAny_execs_cons ?_
    show wpAny _ _ (exec (Stmt.Assign [.Name _ _] _ _) _) _ _ _
    walk1
    walk1
    refine wpAny_storeName_local rfl hn₃ (fun h₄ hn₄ hs₄ => ?_) rfl
    dsimp only
    refine wpAny_execs_cons ?_
    show wpAny _ _ (exec (Stmt.Assign [.Name _ _] _ _) _) _ _ _
    walk1
    walk1
    refine wpAny_storeName_local rfl hn₄ (fun h₅ hn₅ hs₅ => ?_) rfl
    dsimp only
    have hk₅ : ∀ b o, b ≠ L → s.heap.get? b = some o → h₅.get? b = some o := fun b o hb e => hs₅.extBut b o hb (hs₄.extBut b o hb (hk₃ b o hb (hk₂ b o hb (hs₁.extBut b o hb (hk₀ b o e)))))
    have I₅ : Inv w mg mb bm ob h₅ := I.at fun b o hb e => hk₅ b o (Nat.ne_of_lt (Nat.lt_of_lt_of_le hb hL)) e
    refine wpAny_execs_cons (told_while I₅ hL hn₅ ((if_neg (by decide)).trans ((if_neg (by decide)).trans (upd_same _ _ _))) ((if_neg (by decide)).trans (if_pos rfl)) (if_pos rfl) hWl fun h₆ tk₆ m₆ t₆ Y hn₆ hm₆ hY hYl hk₆ => ?_)
    refine wpAny_execs_cons (told_ret hn₆ hm₆ hYl fun h₇ tk₇ t₇ Z hk₇ hZ => ?_)
    refine hQ h₇ tk₇ t₇ Z (fun b o e => hk₇ b o (hk₆ b o (hkL b o e) (hk₅ b o (hkL b o e) e))) ?_
    rw [hZ, hY, hW]
    rfl
  · intro f s' h
    cases f with
    | ret v => exact h
    | next => exact h.elim
    | brk => exact h.elim
    | cont => exact h.elim
  · intro e s' h; exact h.elim
end Mine
end

/-! ## NEq -/
section
open PySem PySem.W PyProof.Rows
namespace Mine

theorem rep1 {x y z : Str} {a b : Nat} (hy : y = ⟨#[a]⟩) (hz : z = ⟨#[b]⟩) : (Txt.replace x y z).cps.toList = x.cps.toList.map fun c => if c = a then b else c := by
  rw [hy, hz, replace_rp _ _ _ (by simp [Str.length])]
  exact rp_one a b _
theorem repU (x : Str) : (Txt.replace x (Str.ofString "unknown") (Str.ofString "")).cps.toList = rp unk [] x.cps.toList := by
  rw [replace_rp _ _ _ (by decide), ofS_unk, ofS_empty]
def chain (c : Nat) : Nat :=
  (fun c => if c = 41 then 45 else c) ((fun c => if c = 40 then 45 else c) ((fun c => if c = 34 then 45 else c) ((fun c => if c = 59 then 45 else c) ((fun c => if c = 58 then 45 else c) ((fun c => if c = 92 then 45 else c) ((fun c => if c = 47 then 45 else c) ((fun c => if c = 32 then 95 else c) c)))))))
theorem chain_sgn (c : Nat) : chain c = sgn c := by
  unfold chain sgn
  by_cases h1 : c = 32
  · subst h1; decide
  by_cases h2 : c ∈ [47, 92, 58, 59, 34, 40, 41]
  · simp only [List.mem_cons, List.not_mem_nil, or_false] at h2
    rcases h2 with rfl | rfl | rfl | rfl | rfl | rfl | rfl <;> decide
  · rw [if_neg h1, if_neg h2]
    simp only [List.mem_cons, List.not_mem_nil, or_false, not_or] at h2
    obtain ⟨a, b, c', d, e, f, g⟩ := h2
    simp [h1, a, b, c', d, e, f, g]
theorem reps9_list (X : Str) : (reps9 X).cps.toList = rp unk [] (X.cps.toList.map sgn) := by
  unfold reps9
  rw [repU, rep1 ofS_close ofS_hyphen, rep1 ofS_open ofS_hyphen, rep1 ofS_quote ofS_hyphen, rep1 ofS_semi ofS_hyphen, rep1 ofS_colon ofS_hyphen, rep1 ofS_back ofS_hyphen, rep1 ofS_slash ofS_hyphen, rep1 ofS_blank ofS_und]
  simp only [List.map_map]
  congr 2
  funext c
  exact chain_sgn c

/-- the two readings agree -/
theorem plat_told (ts : List Str) : platList ts = toldList ts := by
  unfold platList toldList
  rw [reps9_list, tl_col, rst_single (col_is_single _)]
end Mine
end

/-! ## NRows1 -/
section
open PySem PySem.W PyProof.Rows
namespace Mine
variable {w : World} {A : Around} {E : Value → Shared → Prop} {s : Shared} {mg mb : Str → Option Value} {bm : Addr} {ob : Obj × Array Value}

/-- a loop over a list, by what holds of the whole state -/
theorem list_loop {env : Env} {R : Result → Shared → Prop} {x : Str} {px : Pos} {body : List Stmt} {I l : Addr} {items : Array Value} (hh : A.handled = none) (hne : l ≠ I) (J : Nat → Shared → Prop)
    (hmove : ∀ i s₁ h₁, J i s₁ → Heap.ExtBut I s₁.heap h₁ → J i { s₁ with heap := h₁ })
    (hit : s.heap.IsListIter I l 0) (hl : s.heap.IsList l items) (h0 : J 0 s)
    (step : ∀ i v s₁, items[i]? = some v → J i s₁ → I < s₁.heap.objs.size → wpAny (model prog w) A (assign (.Name x px) env v) (fun _ s₂ => wpAny (model prog w) A (execs body env) (fun f s₃ => match f with
        | .next => J (i + 1) s₃ ∧ (∀ o, s₁.heap.get? I = some o → s₃.heap.get? I = some o) ∧ (∀ o, s₁.heap.get? l = some o → s₃.heap.get? l = some o)
        | .ret v => R (.ok (.ret v)) s₃
        | _ => False)
      (notedBy (model prog w) A env fun e s' => R (.error e) s') s₂) (notedBy (model prog w) A env fun e s' => R (.error e) s') s₁)
    (hR : ∀ s', J items.size s' → R (.ok .next) s') :
    codeAny (model prog w) A (.forLoop (.Name x px) (.ref I) body [] env) R s := by
  refine codeAny_forLoop (fun k s' => ∃ i, J i s' ∧ s'.heap.IsListIter I l i ∧ s'.heap.IsList l items ∧ i ≤ items.size ∧ k = items.size + 1 - i) ?_ (items.size + 1) ⟨0, h0, hit, hl, Nat.zero_le _, rfl⟩
  rintro k s' ⟨i, hJ, hit', hl', hi, rfl⟩
  by_cases hlt : i < items.size
  · refine wpAny_pyNext_list_item hit' hl' (x := items[i]) (by simp [hlt]) fun h₁ hit₁ hs₁ => ?_
    refine wpAny_mono (step i items[i] _ (by simp [hlt]) (hmove i s' h₁ hJ hs₁.extBut) (let ⟨_, e, _⟩ := hit₁; Heap.lt_size e)) (fun _ s₂ h₂ => wpAny_mono h₂ (fun f s₃ h₃ => ?_) fun _ _ e => e) fun _ _ e => e
    cases f with
    | next =>
      obtain ⟨hJ₃, k1, k2⟩ := h₃
      refine ⟨items.size + 1 - (i + 1), by omega, i + 1, hJ₃, ?_, ?_, hlt, rfl⟩
      · exact hit₁.at k1
      · exact (hl'.extBut hs₁.extBut hne).at k2
    | ret v => exact h₃
    | brk => exact h₃.elim
    | cont => exact h₃.elim
  · have hin : i = items.size := by omega
    subst hin
    refine wpAny_pyNext_list_end hh hit' hl' (by simp) fun h₁ he₁ => wpAny_execs_nil ?_
    exact hR _ (hmove _ s' h₁ hJ he₁)

abbrev envR (L : Addr) : Env := envOf (Str.ofString "_law_rows") (scopeOf (top 5)) L 38 (.ref 37)
/-- a row: a list of texts, no heavier than B, off the addresses av -/
def RowOk (h : Heap) (av : List Addr) (B : Nat) (v : Value) : Prop :=
  ∃ a us ts, v = .ref a ∧ a ∉ av ∧ h.PlainList a (List.toArray us) ∧ StrsAre us ts ∧ ts ≠ [] ∧ wt ts ≤ B
theorem RowOk.move {h h' : Heap} {av : List Addr} {B : Nat} {v : Value} (x : RowOk h av B v) (k : ∀ b o, b ∉ av → h.get? b = some o → h'.get? b = some o) : RowOk h' av B v := by
  obtain ⟨a, us, ts, e, ha, ⟨n, hp⟩, r⟩ := x
  exact ⟨a, us, ts, e, ha, ⟨n, k a _ ha hp⟩, r⟩
theorem RowOk.more {h : Heap} {av : List Addr} {B B' : Nat} {v : Value} (x : RowOk h av B v) (k : B ≤ B') : RowOk h av B' v := by
  obtain ⟨a, us, ts, e, ha, hp, hs, hne, hw⟩ := x
  exact ⟨a, us, ts, e, ha, hp, hs, hne, Nat.le_trans hw k⟩

theorem strs_snoc : ∀ {vs : List Value} {ts : List Str}, StrsAre vs ts → ∀ x u, StrsAre (vs ++ [Value.str x u]) (ts ++ [x])
  | _, _, .nil, x, u => .cons x u .nil
  | _, _, .cons y t r, x, u => .cons y t (strs_snoc r x u)
theorem wt_snoc (ts : List Str) (x : Str) : wt (ts ++ [x]) = wt ts + (x.length + 1) := by
  unfold wt
  simp
  omega

theorem plain_add (h : Heap) (us : List Value) (v : Value) : (h.push { cls := .type "list", data := .seq (us.toArray ++ #[v]) }).PlainList h.objs.size (us ++ [v]).toArray := by
  refine ⟨0, ?_⟩
  have := Heap.get?_push_size h (o := { cls := .type "list", data := .seq (us.toArray ++ #[v]) }) rfl
  simpa using this

theorem list_cut {value slice : Expr} {l : Addr} {items : Array Value} {vl vu vs : Value} {lo hi st : Option Int} {Q : Value → Shared → Prop} (hl : s.heap.IsList l items) (pl : IsPart vl lo) (pu : IsPart vu hi) (ps : IsPart vs st) (h0 : st ≠ some 0)
    (h : Q (.ref (s.heap.push { cls := .type "slice", data := .fields #[vl, vu, vs] }).objs.size) { s with heap := (s.heap.push { cls := .type "slice", data := .fields #[vl, vu, vs] }).push { cls := .type "list", data := .seq (slicePick items lo hi st) } })
    (hsz : items.size ≤ sizeLine)
    (hs : subscripted slice false (.ref l) (.ref s.heap.objs.size) = operate [.ref s.heap.objs.size, .ref l] (getItem (.ref l) (.ref s.heap.objs.size)) := by with_unfolding_all rfl) :
    wpAny (model prog w) A (subscriptTail value slice (.ref l) (.ref s.heap.objs.size)) Q E { s with heap := s.heap.push { cls := .type "slice", data := .fields #[vl, vu, vs] } } :=
  tail_any (Heap.IsList.typeIs (s := { s with heap := s.heap.push { cls := .type "slice", data := .fields #[vl, vu, vs] } }) (hl.push _)) slot_list_getitem.lookup
    (wpAny_getItem_list_slice (hl.push _) (Heap.IsSliceOf.new _ _ _ _) pl pu ps h0 h hsz) hs

theorem strs_split : ∀ {us : List Value} {ts : List Str}, StrsAre us ts → ts ≠ [] → ∃ us0 ts0 x u, us = us0 ++ [Value.str x u] ∧ ts = ts0 ++ [x] ∧ StrsAre us0 ts0
  | _, _, .nil, h => (h rfl).elim
  | _, _, .cons y t .nil, _ => ⟨[], [], y, t, rfl, rfl, .nil⟩
  | _, _, .cons y t (.cons z t' r), _ => by
    obtain ⟨us0, ts0, x, u, e1, e2, h⟩ := strs_split (.cons z t' r) (by simp)
    exact ⟨.str y t :: us0, y :: ts0, x, u, by rw [e1]; rfl, by rw [e2]; rfl, .cons y t h⟩
theorem pick_drop (us : List Value) (v : Value) : slicePick (us ++ [v]).toArray none (some (-1)) none = us.toArray := by
  have := slicePick_butLast (us ++ [v]).toArray 1 (Nat.le_refl _)
  have e : (-(1 : Nat) : Int) = -1 := rfl
  rw [e] at this
  rw [this]
  simp

theorem last_at (us : List Value) (v : Value) : (us ++ [v]).toArray[((-1 : Int) + ((us ++ [v]).toArray.size : Nat)).toNat]? = some v := by
  have e : ((-1 : Int) + ((us ++ [v]).toArray.size : Nat)).toNat = us.length := by simp; omega
  rw [e]; simp

def whileBody : Stmt → List Stmt
  | .While _ b _ _ => b
  | .For _ _ b _ _ => b
  | _ => []

theorem rows_turn {L R Pc : Addr} {m : Str → Option Value} {rv : Array Value} {pv : Array Value} {k : Int} {t : Tok} {Q : Flow → Shared → Prop} {B : Nat} {av : List Addr}
    (I : Inv w mg mb bm ob s.heap) (hL : 45 < L) (hLR : L ≠ R) (hPL : Pc ≠ L) (hPR : Pc ≠ R) (hav : ∀ b ∈ av, b < s.heap.objs.size) (hLa : L ∈ av) (hRa : R ∈ av)
    (hn : s.heap.Ns L m) (hmn : m (Str.ofString "number") = some (.int k t)) (hmp : m (Str.ofString "pieces") = some (.ref Pc)) (hmr : m (Str.ofString "rows") = some (.ref R))
    (hP : s.heap.PlainList Pc pv) (hpz : pv.size = 13) (hpv : ∀ v ∈ pv.toList, ∃ x u, v = Value.str x u ∧ x.length ≤ 7)
    (hRl : s.heap.PlainList R rv) (hrz : 1 ≤ rv.size) (hrz' : rv.size ≤ 100) (hrow : ∀ v ∈ rv.toList, RowOk s.heap av B v) (hB : B ≤ 900)
    (hQ : ∀ h' tk m' rv', h'.Ns L m' → m' (Str.ofString "pieces") = some (.ref Pc) → m' (Str.ofString "rows") = some (.ref R) → h'.PlainList R rv' → rv'.size = rv.size + 1 → (∀ v ∈ rv'.toList, RowOk h' av (B + 7) v) →
      (∀ b o, b ≠ L → b ≠ R → s.heap.get? b = some o → h'.get? b = some o) → Q .next { s with heap := h', toks := tk }) :
    wpAny (model prog w) A (execs (whileBody (stm 5 2)) (envR L)) Q E s := by
  obtain ⟨hp, gs, dr, tk, os⟩ := s
  dsimp only at I hav hn hP hRl hrow hQ
  have hlast : rv[rv.size - 1]? = some rv[rv.size - 1] := Array.getElem?_eq_getElem (by omega)
  obtain ⟨a, us, ts, ea, haa, hpl, hst, hne, hwt⟩ := hrow rv[rv.size - 1] (by simp)
  rw [ea] at hlast
  have hLa' : a ≠ L := fun e => haa (e ▸ hLa)
  have hRa' : a ≠ R := fun e => haa (e ▸ hRa)
  show wpAny _ _ (execs (Stmt.Assign [.Name _ _] _ _ :: Stmt.Assign [.Name _ _] _ _ :: Stmt.If _ _ _ _ :: []) _) _ _ _
  walk1
  walk1
  walk1
  refine wpAny_Name (wpAny_loadName_local rfl rfl hn hmn ?_) (by decide)
  walk1
  walk1
  refine wpAny_storeName_local rfl hn (fun h₁ hn₁ hs₁ => ?_) rfl
  have hRl₁ := hRl.extBut hs₁.extBut (Ne.symm hLR)
  dsimp only
  walk1
  walk1
  walk1
  refine wpAny_Name (wpAny_loadName_local rfl rfl hn₁ ((if_neg (by decide)).trans hmr) ?_) (by decide)
  walk1
  walk1
  walk1
  refine item_neg hRl₁.isList (by decide) (by omega) (by decide) (x := .ref a) (by rw [show ((-1 : Int) + (rv.size : Nat)).toNat = rv.size - 1 by omega]; exact hlast) ?_
  refine wpAny_storeName_local rfl hn₁ (fun h₂ hn₂ hs₂ => ?_) rfl
  dsimp only at hn₂
  have hkk : (0 : Int) ≤ k.fmod 16 ∧ k.fmod 16 < 16 := ⟨Int.fmod_nonneg_of_pos k (by decide), Int.fmod_lt_of_pos k (by decide)⟩
  have hm2k : (fun x => if x = Str.ofString "texts" then some (Value.ref a) else if x = Str.ofString "kind" then some (Value.int (k.fmod 16) (tk + 1)) else m x) (Str.ofString "kind") = some (Value.int (k.fmod 16) (tk + 1)) := (if_neg (by decide)).trans (if_pos rfl)
  have hm2t : (fun x => if x = Str.ofString "texts" then some (Value.ref a) else if x = Str.ofString "kind" then some (Value.int (k.fmod 16) (tk + 1)) else m x) (Str.ofString "texts") = some (Value.ref a) := if_pos rfl
  have hm2r : (fun x => if x = Str.ofString "texts" then some (Value.ref a) else if x = Str.ofString "kind" then some (Value.int (k.fmod 16) (tk + 1)) else m x) (Str.ofString "rows") = some (Value.ref R) := (if_neg (by decide)).trans ((if_neg (by decide)).trans hmr)
  have hm2p : (fun x => if x = Str.ofString "texts" then some (Value.ref a) else if x = Str.ofString "kind" then some (Value.int (k.fmod 16) (tk + 1)) else m x) (Str.ofString "pieces") = some (Value.ref Pc) := (if_neg (by decide)).trans ((if_neg (by decide)).trans hmp)
  have hm2n : (fun x => if x = Str.ofString "texts" then some (Value.ref a) else if x = Str.ofString "kind" then some (Value.int (k.fmod 16) (tk + 1)) else m x) (Str.ofString "number") = some (Value.int k t) := (if_neg (by decide)).trans ((if_neg (by decide)).trans hmn)
  generalize (fun x => if x = Str.ofString "texts" then some (Value.ref a) else if x = Str.ofString "kind" then some (Value.int (k.fmod 16) (tk + 1)) else m x) = m₂ at hn₂ hm2k hm2t hm2r hm2p hm2n
  have hk₂ : ∀ b o, b ≠ L → hp.get? b = some o → h₂.get? b = some o := fun b o hb e => hs₂.extBut b o hb (hs₁.extBut b o hb e)
  have hRl₂ : h₂.PlainList R rv := hRl.at fun o e => hk₂ R o (Ne.symm hLR) e
  have hpl₂ : h₂.PlainList a us.toArray := hpl.at fun o e => hk₂ a o hLa' e
  have I₂ : Inv w mg mb bm ob h₂ := I.at fun b o hb e => hk₂ b o (Nat.ne_of_lt (Nat.lt_of_lt_of_le hb hL)) e
  have hz₂ : h₂.objs.size = hp.objs.size := hs₂.1.trans hs₁.1
  have fin : ∀ (h₄ h₅ : Heap) (N : Addr) (us' : List Value) (ts' : List Str) (tk' : Nat), (∀ b o, h₂.get? b = some o → h₄.get? b = some o) → h₂.objs.size ≤ N → h₄.PlainList N us'.toArray → StrsAre us' ts' → ts' ≠ [] → wt ts' ≤ B + 7 →
      h₅.PlainList R (rv.push (.ref N)) → Heap.SameBut R h₄ h₅ → Q .next { heap := h₅, gens := gs, drawn := dr, toks := tk', os := os } := by
    intro h₄ h₅ N us' ts' tk' k4 hN hpN hsN hneN hwN hR5 hs5
    have hNav : N ∉ av := fun hm => by
      have := hav N hm
      rw [← hz₂] at this
      exact absurd this (Nat.not_lt.mpr hN)
    have hNR : N ≠ R := fun e => hNav (e ▸ hRa)
    have keep : ∀ b o, b ≠ L → b ≠ R → hp.get? b = some o → h₅.get? b = some o := fun b o hbL hbR e => hs5.extBut b o hbR (k4 b o (hk₂ b o hbL e))
    refine hQ h₅ tk' m₂ (rv.push (.ref N)) ((hn₂.keeps k4).sameBut hs5 hLR) hm2p hm2r hR5 (by simp) (fun v hv => ?_) keep
    rw [Array.toList_push] at hv
    rcases List.mem_append.mp hv with hv | hv
    · exact ((hrow v hv).move fun b o hb e => keep b o (fun q => hb (q ▸ hLa)) (fun q => hb (q ▸ hRa)) e).more (Nat.le_add_right _ _)
    · rw [List.mem_singleton.mp hv]
      exact ⟨N, us', ts', rfl, hNav, hpN.extBut hs5.extBut hNR, hsN, hneN, hwN⟩
  walk1
  walk1
  walk1
  refine wpAny_Name (wpAny_loadName_local rfl rfl hn₂ hm2k ?_) (by decide)
  walk1
  walk1
  walk1
  by_cases h13 : 13 < k.fmod 16
  · rw [decide_eq_true h13, if_pos rfl]
    walk1
    walk1
    walk1
    refine wpAny_Name (wpAny_loadName_local rfl rfl hn₂ hm2r ?_) (by decide)
    obtain ⟨nr, hRo⟩ := id hRl₂
    refine Calls.getMethod_list_append hRo rfl rfl ?_
    walk1
    walk1
    walk1
    refine wpAny_Name (wpAny_loadName_local rfl rfl hn₂ hm2t ?_) (by decide)
    walk1
    walk1
    walk1
    walk1
    refine wpAny_newList ?_
    obtain ⟨na, hao⟩ := id hpl₂
    refine P.add_list (items := us.toArray) (n := na) (n2 := 0) (Heap.get?_push_of_some _ hao) (Heap.get?_push_size _ rfl) ?_ ?_
    · walk1
      refine wpAny_list_append_plain (hRl₂.at fun o e => Heap.get?_push_of_some _ (Heap.get?_push_of_some _ e)) (fun h₅ hR5 hs5 => ?_) (Nat.le_trans hrz' (by decide))
      refine wpAny_execs_nil (wpAny_execs_nil ?_)
      refine fin _ h₅ _ (us ++ [Value.str (Str.ofString "") _]) (ts ++ [Str.ofString ""]) _ (fun b o e => Heap.get?_push_of_some _ (Heap.get?_push_of_some _ e)) (by rw [Heap.size_push]; exact Nat.le_succ _)
        (plain_add _ us _) (strs_snoc hst _ _) (by simp) (Nat.le_trans (Nat.le_of_eq (wt_snoc ts _)) ?_) hR5 hs5
      rw [ofS_empty]
      show wt ts + (0 + 1) ≤ B + 7
      omega
    · show us.toArray.size + 1 ≤ sizeLine
      have : us.length ≤ 900 := by rw [hst.length]; exact Nat.le_trans (Nat.le_add_left _ _) (Nat.le_trans hwt hB)
      simp
      exact Nat.le_trans (Nat.succ_le_succ this) (by decide)
  · rw [decide_eq_false h13, if_neg Bool.false_ne_true]
    walk1
    walk1
    walk1
    refine wpAny_Name (wpAny_loadName_local rfl rfl hn₂ hm2r ?_) (by decide)
    obtain ⟨nr, hRo⟩ := id hRl₂
    refine Calls.getMethod_list_append hRo rfl rfl ?_
    walk1
    walk1
    walk1
    walk1
    refine wpAny_Name (wpAny_loadName_local rfl rfl hn₂ hm2t ?_) (by decide)
    walk1
    walk1
    walk1
    walk1
    walk1
    walk1
    walk1
    have hus : us.length ≤ 900 := by rw [hst.length]; exact Nat.le_trans (Nat.le_add_left _ _) (Nat.le_trans hwt hB)
    refine list_cut (s := { heap := h₂, gens := gs, drawn := dr, toks := _, os := os }) hpl₂.isList .none (.int _ _) .none (by decide) ?_ (by simpa using Nat.le_trans hus (by decide : 900 ≤ sizeLine))
    dsimp only
    obtain ⟨us0, ts0, xl, ul, rfl, rfl, hst0⟩ := strs_split hst hne
    rw [pick_drop]
    generalize hS : h₂.push _ = hS'
    have kS : ∀ b o, h₂.get? b = some o → hS'.get? b = some o := fun b o e => by rw [← hS]; exact Heap.get?_push_of_some _ e
    have zS : hS'.objs.size = h₂.objs.size + 1 := by rw [← hS, Heap.size_push]
    clear hS
    generalize hN : hS'.push _ = h₄
    have k4 : ∀ b o, h₂.get? b = some o → h₄.get? b = some o := fun b o e => by rw [← hN]; exact Heap.get?_push_of_some _ (kS b o e)
    have hN1 : h₄.get? hS'.objs.size = some { cls := .type "list", data := .seq us0.toArray } := by rw [← hN]; exact Heap.get?_push_size _ rfl
    have z4 : h₄.objs.size = h₂.objs.size + 2 := by rw [← hN, Heap.size_push, zS]
    clear hN
    have hn₄ := hn₂.keeps k4
    have I₄ := I₂.keeps k4
    have hpl₄ : h₄.PlainList a (us0 ++ [Value.str xl ul]).toArray := hpl₂.at fun o e => k4 a o e
    have hP₄ : h₄.PlainList Pc pv := hP.at fun o e => k4 Pc o (hk₂ Pc o hPL e)
    have hxl : xl.length ≤ 900 := Nat.le_trans (wt_mem (ts := ts0 ++ [xl]) (by simp)) (Nat.le_trans hwt hB)
    walk1
    walk1
    walk1
    walk1
    refine wpAny_Name (wpAny_loadName_local rfl rfl hn₄ hm2t ?_) (by decide)
    walk1
    walk1
    walk1
    refine item_neg hpl₄.isList (by decide) (by simp; omega) (by decide) (x := .str xl ul) (last_at us0 _) ?_
    walk1
    walk1
    refine wpAny_Name (wpAny_loadName_local rfl rfl hn₄ hm2k ?_) (by decide)
    walk1
    walk1
    walk1
    by_cases h12 : k.fmod 16 < 13
    · rw [decide_eq_true h12, if_pos rfl]
      walk1
      refine wpAny_Name (wpAny_loadName_local rfl rfl hn₄ hm2p ?_) (by decide)
      refine wpAny_Name (wpAny_loadName_local rfl rfl hn₄ hm2k ?_) (by decide)
      have hkt : (k.fmod 16).toNat < pv.size := by omega
      obtain ⟨px, pu, epx, hpx⟩ := hpv pv[(k.fmod 16).toNat] (by simp)
      refine item_listR hP₄.isList hkk.1 (by omega) (x := .str px pu) (by rw [Array.getElem?_eq_getElem hkt, epx]) ?_
      walk1
      walk1
      refine wpAny_newList ?_
      refine P.add_list (items := us0.toArray) (n := 0) (n2 := 0) (Heap.get?_push_of_some _ hN1) (Heap.get?_push_size _ rfl) ?_ ?_
      · walk1
        refine wpAny_list_append_plain (hRl₂.at fun o e => Heap.get?_push_of_some _ (Heap.get?_push_of_some _ (k4 R o e))) (fun h₅ hR5 hs5 => ?_) (Nat.le_trans hrz' (by decide))
        refine wpAny_execs_nil (wpAny_execs_nil ?_)
        refine fin _ h₅ _ (us0 ++ [Value.str (xl ++ px) _]) (ts0 ++ [xl ++ px]) _ (fun b o e => Heap.get?_push_of_some _ (Heap.get?_push_of_some _ (k4 b o e))) (by rw [Heap.size_push, z4, Nat.add_assoc]; exact Nat.le_add_right _ _)
          (plain_add _ us0 _) (strs_snoc hst0 _ _) (by simp) (Nat.le_trans (Nat.le_of_eq (wt_snoc ts0 _)) ?_) hR5 hs5
        rw [wt_snoc] at hwt
        rw [Str.length_append]
        omega
      · show us0.toArray.size + 1 ≤ sizeLine
        have h9 : us0.toArray.size + 1 ≤ 900 := by simpa using hus
        exact Nat.le_trans h9 (by decide)
    · rw [decide_eq_false h12, if_neg Bool.false_ne_true]
      walk1
      refine nmE (v := .builtin "chr") I₄ rfl rfl rfl rfl (by decide) (by decide +kernel) (by rfl) ?_
      walk1
      walk1
      walk1
      walk1
      refine wpAny_Name (wpAny_loadName_local rfl rfl hn₄ hm2n ?_) (by decide)
      walk1
      walk1
      walk1
      walk1
      walk1
      have hcc : (0 : Int) ≤ (k.fdiv 16).fmod 1114112 ∧ (k.fdiv 16).fmod 1114112 < 1114112 := ⟨Int.fmod_nonneg_of_pos _ (by decide), Int.fmod_lt_of_pos _ (by decide)⟩
      refine chr_of_range hcc.1 (by omega) ?_
      have hpx : (⟨#[((k.fdiv 16).fmod 1114112).toNat]⟩ : Str).length ≤ 7 := by show 1 ≤ 7; omega
      generalize (⟨#[((k.fdiv 16).fmod 1114112).toNat]⟩ : Str) = px at *
      walk1
      walk1
      refine wpAny_newList ?_
      refine P.add_list (items := us0.toArray) (n := 0) (n2 := 0) (Heap.get?_push_of_some _ hN1) (Heap.get?_push_size _ rfl) ?_ ?_
      · walk1
        refine wpAny_list_append_plain (hRl₂.at fun o e => Heap.get?_push_of_some _ (Heap.get?_push_of_some _ (k4 R o e))) (fun h₅ hR5 hs5 => ?_) (Nat.le_trans hrz' (by decide))
        refine wpAny_execs_nil (wpAny_execs_nil ?_)
        refine fin _ h₅ _ (us0 ++ [Value.str (xl ++ px) _]) (ts0 ++ [xl ++ px]) _ (fun b o e => Heap.get?_push_of_some _ (Heap.get?_push_of_some _ (k4 b o e))) (by rw [Heap.size_push, z4, Nat.add_assoc]; exact Nat.le_add_right _ _)
          (plain_add _ us0 _) (strs_snoc hst0 _ _) (by simp) (Nat.le_trans (Nat.le_of_eq (wt_snoc ts0 _)) ?_) hR5 hs5
        rw [wt_snoc] at hwt
        rw [Str.length_append]
        omega
      · show us0.toArray.size + 1 ≤ sizeLine
        have h9 : us0.toArray.size + 1 ≤ 900 := by simpa using hus
        exact Nat.le_trans h9 (by decide)
end Mine
end

/-! ## NRows2 -/
section
open PySem PySem.W PyProof.Rows
namespace Mine
variable {w : World} {A : Around} {E : Value → Shared → Prop} {s : Shared} {mg mb : Str → Option Value} {bm : Addr} {ob : Obj × Array Value}

theorem rows_pieces0 {L : Addr} {m : Str → Option Value} {Q : Flow → Shared → Prop} (hn : s.heap.Ns L m)
    (hQ : ∀ h' tk pv, h'.Ns L (upd m (Str.ofString "pieces") (.ref s.heap.objs.size)) → h'.PlainList s.heap.objs.size pv → pv.size = 13 → (∀ v ∈ pv.toList, ∃ x u, v = Value.str x u ∧ x.length ≤ 7) → h'.objs.size = s.heap.objs.size + 1 →
      (∀ b o, b ≠ L → s.heap.get? b = some o → h'.get? b = some o) → Q .next { s with heap := h', toks := tk }) :
    wpAny (model prog w) A (exec (stm 5 0) (envR L)) Q E s := by
  show wpAny _ _ (exec (Stmt.Assign [.Name _ _] (.List _ _) _) _) _ _ _
  walk1
  walk1
  iterate 27 walk1
  refine wpAny_newList ?_
  refine wpAny_storeName_local rfl (hn.push _) (fun h₁ hn₁ hs₁ => ?_) rfl
  have hLlt : L < s.heap.objs.size := hn.lt
  refine hQ h₁ _ _ hn₁ ⟨0, hs₁.extBut _ _ (Nat.ne_of_gt hLlt) (Heap.get?_push_size _ rfl)⟩ rfl ?_ (hs₁.1.trans (Heap.size_push ..)) fun b o hb e => hs₁.extBut b o hb (Heap.get?_push_of_some _ e)
  intro v hv
  simp only [List.mem_cons, List.not_mem_nil, or_false] at hv
  rcases hv with rfl | rfl | rfl | rfl | rfl | rfl | rfl | rfl | rfl | rfl | rfl | rfl | rfl <;> exact ⟨_, _, rfl, by decide +kernel⟩

theorem rows_first0 {L : Addr} {m : Str → Option Value} {Q : Flow → Shared → Prop} (hn : s.heap.Ns L m)
    (hQ : ∀ h' tk u, h'.Ns L (upd m (Str.ofString "rows") (.ref (s.heap.objs.size + 1))) → h'.PlainList s.heap.objs.size #[.str (Str.ofString "") u] → h'.PlainList (s.heap.objs.size + 1) #[.ref s.heap.objs.size] → h'.objs.size = s.heap.objs.size + 2 →
      (∀ b o, b ≠ L → s.heap.get? b = some o → h'.get? b = some o) → Q .next { s with heap := h', toks := tk }) :
    wpAny (model prog w) A (exec (stm 5 1) (envR L)) Q E s := by
  show wpAny _ _ (exec (Stmt.Assign [.Name _ _] (.List _ _) _) _) _ _ _
  have hLlt : L < s.heap.objs.size := hn.lt
  walk1
  walk1
  walk1
  walk1
  walk1
  walk1
  walk1
  refine wpAny_newList ?_
  walk1
  refine wpAny_newList ?_
  dsimp only
  refine wpAny_storeName_local rfl ((hn.push _).push _) (fun h₁ hn₁ hs₁ => ?_) rfl
  have z1 : (s.heap.push { cls := .type "list", data := .seq [Value.str (Str.ofString "") s.toks].toArray }).objs.size = s.heap.objs.size + 1 := Heap.size_push ..
  dsimp only at hn₁ hs₁
  rw [z1] at hn₁
  refine hQ h₁ _ _ hn₁ ⟨0, hs₁.extBut _ _ (Nat.ne_of_gt hLlt) (Heap.get?_push_of_some _ (Heap.get?_push_size _ rfl))⟩ ⟨0, ?_⟩ (hs₁.1.trans (by rw [Heap.size_push, z1])) fun b o hb e => hs₁.extBut b o hb (Heap.get?_push_of_some _ (Heap.get?_push_of_some _ e))
  have := hs₁.extBut _ _ (Nat.ne_of_gt (by rw [z1]; exact Nat.lt_succ_of_lt hLlt)) (Heap.get?_push_size _ (o := { cls := .type "list", data := .seq [Value.ref s.heap.objs.size].toArray }) rfl)
  rw [z1] at this
  exact this


theorem rows_pieces {L : Addr} {m : Str → Option Value} {Q : Flow → Shared → Prop} (hn : s.heap.Ns L m)
    (hQ : ∀ h' tk pv Pc, s.heap.objs.size = Pc → h'.Ns L (upd m (Str.ofString "pieces") (.ref Pc)) → h'.PlainList Pc pv → pv.size = 13 → (∀ v ∈ pv.toList, ∃ x u, v = Value.str x u ∧ x.length ≤ 7) → h'.objs.size = Pc + 1 →
      (∀ b o, b ≠ L → s.heap.get? b = some o → h'.get? b = some o) → Q .next { s with heap := h', toks := tk }) :
    wpAny (model prog w) A (exec (stm 5 0) (envR L)) Q E s :=
  @rows_pieces0 w A E s L m Q hn fun h' tk pv => hQ h' tk pv _ rfl

theorem rows_first {L : Addr} {m : Str → Option Value} {Q : Flow → Shared → Prop} {z : Nat} (hn : s.heap.Ns L m) (hz : s.heap.objs.size = z)
    (hQ : ∀ h' tk u, h'.Ns L (upd m (Str.ofString "rows") (.ref (z + 1))) → h'.PlainList z #[.str (Str.ofString "") u] → h'.PlainList (z + 1) #[.ref z] → h'.objs.size = z + 2 →
      (∀ b o, b ≠ L → s.heap.get? b = some o → h'.get? b = some o) → Q .next { s with heap := h', toks := tk }) :
    wpAny (model prog w) A (exec (stm 5 1) (envR L)) Q E s := by
  subst hz
  exact @rows_first0 w A E s L m Q hn hQ

end Mine
end

/-! ## NRows3 -/
section
open PySem PySem.W PyProof.Rows
namespace Mine
variable {w : World} {A : Around} {E : Value → Shared → Prop} {s : Shared} {mg mb : Str → Option Value} {bm : Addr} {ob : Obj × Array Value}

theorem rows_two {L : Addr} {m : Str → Option Value} {Q : Flow → Shared → Prop} {rest : List Stmt} (hn : s.heap.Ns L m)
    (hQ : ∀ h' tk m' pv Pc R z u, s.heap.objs.size ≤ Pc → s.heap.objs.size ≤ R → s.heap.objs.size ≤ z → Pc ≠ R → Pc ≠ z → R ≠ z → Pc < h'.objs.size → R < h'.objs.size → z < h'.objs.size → h'.Ns L m' → m' (Str.ofString "pieces") = some (.ref Pc) → m' (Str.ofString "rows") = some (.ref R) → m' (Str.ofString "numbers") = m (Str.ofString "numbers") →
      h'.PlainList Pc pv → pv.size = 13 → (∀ v ∈ pv.toList, ∃ x u, v = Value.str x u ∧ x.length ≤ 7) → h'.PlainList R #[.ref z] → h'.PlainList z #[.str (Str.ofString "") u] →
      (∀ b o, b ≠ L → s.heap.get? b = some o → h'.get? b = some o) → wpAny (model prog w) A (execs rest (envR L)) Q E { s with heap := h', toks := tk }) :
    wpAny (model prog w) A (execs (stm 5 0 :: stm 5 1 :: rest) (envR L)) Q E s := by
  have hLlt : L < s.heap.objs.size := hn.lt
  refine wpAny_execs_cons ?_
  refine @rows_pieces w A E s L m _ hn ?_
  intro h₁ tk₁ pv Pc hPc hn₁ hp₁ hpz hpv hz₁ hk₁
  dsimp only
  refine wpAny_execs_cons ?_
  refine @rows_first w A E { s with heap := h₁, toks := tk₁ } L _ _ _ hn₁ hz₁ ?_
  intro h₂ tk₂ u₂ hn₂ hr0 hR₂ hz₂ hk₂
  dsimp only
  rw [hPc] at hQ hLlt
  refine hQ h₂ tk₂ _ pv Pc (Pc + 1 + 1) (Pc + 1) u₂ (Nat.le_refl _) (Nat.le_add_right _ 2) (Nat.le_succ _) (Nat.ne_of_lt (Nat.lt_add_of_pos_right (by decide : 0 < 2))) (Nat.ne_of_lt (Nat.lt_succ_self _)) (Nat.ne_of_gt (Nat.lt_succ_self _)) (by rw [hz₂]; exact Nat.lt_add_of_pos_right (by decide : 0 < 3)) (by rw [hz₂]; exact Nat.lt_succ_self _) (by rw [hz₂]; exact Nat.lt_add_of_pos_right (by decide : 0 < 2)) hn₂ ((upd_ne _ _ (by decide)).trans (upd_same _ _ _)) (upd_same _ _ _) ((upd_ne _ _ (by decide)).trans (upd_ne _ _ (by decide))) ?_ hpz hpv hR₂ hr0 (fun b o hb e => hk₂ b o hb (hk₁ b o hb e))
  exact hp₁.at fun o e => hk₂ Pc o (Nat.ne_of_gt hLlt) e
end Mine
end

/-! ## NRows4 -/
section
open PySem PySem.W PyProof.Rows
namespace Mine
variable {w : World} {A : Around} {E : Value → Shared → Prop} {s : Shared} {mg mb : Str → Option Value} {bm : Addr} {ob : Obj × Array Value}

theorem RowOk.sub {h : Heap} {av av' : List Addr} {B : Nat} {v : Value} (x : RowOk h av B v) (k : ∀ b ∈ av', b ∈ av) : RowOk h av' B v := by
  obtain ⟨a, us, ts, e, ha, r⟩ := x
  exact ⟨a, us, ts, e, fun q => ha (k a q), r⟩
theorem RowOk.off {h : Heap} {av : List Addr} {B : Nat} {v : Value} {N : Addr} (x : RowOk h av B v) (hN : h.get? N = none) : RowOk h (N :: av) B v := by
  obtain ⟨a, us, ts, e, ha, ⟨n, hp⟩, r⟩ := x
  refine ⟨a, us, ts, e, fun q => ?_, ⟨n, hp⟩, r⟩
  cases q with
  | head => rw [hN] at hp; cases hp
  | tail _ q => exact ha q

theorem ints_at : ∀ {vs : List Value} {ns : List Int}, IntsAre vs ns → ∀ {i : Nat} {v : Value}, vs[i]? = some v → ∃ n t, v = Value.int n t
  | _, _, .cons n t r, 0, v, h => ⟨n, t, by simpa using h.symm⟩
  | _, _, .cons n t r, i + 1, v, h => ints_at r (by simpa using h)
theorem get_none (h : Heap) : h.get? h.objs.size = none := by
  cases e : h.get? h.objs.size with
  | none => rfl
  | some o => exact absurd (Heap.lt_size e) (Nat.lt_irrefl _)

/-- what stands before turn i of the loop over the numbers -/
def JR (s : Shared) (L R Pc It : Addr) (pv : Array Value) (i : Nat) (s' : Shared) : Prop :=
  ∃ h' tk m' rv, s' = { s with heap := h', toks := tk } ∧ h'.Ns L m' ∧ m' (Str.ofString "pieces") = some (.ref Pc) ∧ m' (Str.ofString "rows") = some (.ref R) ∧ h'.PlainList Pc pv ∧ h'.PlainList R rv ∧ rv.size = i + 1 ∧
    (∀ v ∈ rv.toList, RowOk h' [It, L, R] (1 + 7 * i) v) ∧ ∀ b o, b ≠ L → b ≠ R → b ≠ It → s.heap.get? b = some o → h'.get? b = some o

theorem JR.move {L R Pc It : Addr} {pv : Array Value} {i : Nat} {s₁ : Shared} {h₁ : Heap} (hLI : L ≠ It) (hRI : R ≠ It) (hPI : Pc ≠ It) (x : JR s L R Pc It pv i s₁) (hx : Heap.ExtBut It s₁.heap h₁) : JR s L R Pc It pv i { s₁ with heap := h₁ } := by
  obtain ⟨h', tk, m', rv, rfl, hn, hmp, hmr, hP, hR, hz, hrow, hk⟩ := x
  refine ⟨h₁, tk, m', rv, rfl, hn.extBut hx hLI, hmp, hmr, hP.extBut hx hPI, hR.extBut hx hRI, hz, fun v hv => (hrow v hv).move fun b o hb e => hx b o (fun q => hb (q ▸ List.mem_cons_self)) e, fun b o h1 h2 h3 e => hx b o h3 (hk b o h1 h2 h3 e)⟩

theorem JR.turn {L R Pc It : Addr} {pv : Array Value} {i : Nat} {s₁ : Shared} {k : Int} {t : Tok} {px : Pos} {Q : Flow → Shared → Prop}
    (I : Inv w mg mb bm ob s.heap) (hL : 45 < L) (hR : 45 < R) (hI : 45 < It) (hLR : L ≠ R) (hPL : Pc ≠ L) (hPR : Pc ≠ R) (hLI : L ≠ It) (hRI : R ≠ It) (hPI : Pc ≠ It) (hpz : pv.size = 13) (hpv : ∀ v ∈ pv.toList, ∃ x u, v = Value.str x u ∧ x.length ≤ 7) (hi : i ≤ 20)
    (x : JR s L R Pc It pv i s₁) (hlt : It < s₁.heap.objs.size) (hQ : ∀ s₃, JR s L R Pc It pv (i + 1) s₃ → (∀ b o, b ≠ L → b ≠ R → s₁.heap.get? b = some o → s₃.heap.get? b = some o) → Q .next s₃) :
    wpAny (model prog w) A (assign (.Name (Str.ofString "number") px) (envR L) (.int k t)) (fun _ s₂ => wpAny (model prog w) A (execs (whileBody (stm 5 2)) (envR L)) Q E s₂) E s₁ := by
  obtain ⟨h', tk, m', rv, rfl, hn, hmp, hmr, hP, hRl, hz, hrow, hk⟩ := x
  dsimp only at hlt hQ
  refine wpAny_assign_Name (wpAny_storeName_local rfl hn (fun h₂ hn₂ hs₂ => ?_) rfl)
  dsimp only at hs₂
  have I₂ : Inv w mg mb bm ob h₂ := I.at fun b o hb e => hs₂.extBut b o (Nat.ne_of_lt (Nat.lt_of_lt_of_le hb hL)) (hk b o (Nat.ne_of_lt (Nat.lt_of_lt_of_le hb hL)) (Nat.ne_of_lt (Nat.lt_of_lt_of_le hb hR)) (Nat.ne_of_lt (Nat.lt_of_lt_of_le hb hI)) e)
  have hRl₂ : h₂.PlainList R rv := hRl.extBut hs₂.extBut (Ne.symm hLR)
  refine @rows_turn w A E { s with heap := h₂, toks := tk + 1 } mg mb bm ob L R Pc _ rv pv k t _ (1 + 7 * i) [It, L, R] I₂ hL hLR hPL hPR ?_ (by simp) (by simp) hn₂ ?_ ?_ ?_ (hP.extBut hs₂.extBut hPL) hpz hpv hRl₂ (by omega) (by omega) ?_ (by omega) ?_
  · intro b hb
    show b < h₂.objs.size
    rw [hs₂.1]
    simp only [List.mem_cons, List.not_mem_nil, or_false] at hb
    rcases hb with rfl | rfl | rfl
    · exact hlt
    · exact hn.lt
    · obtain ⟨_, e⟩ := hRl; exact Heap.lt_size e
  · exact upd_same _ _ _
  · exact (upd_ne _ _ (by decide)).trans hmp
  · exact (upd_ne _ _ (by decide)).trans hmr
  · exact fun v hv => (hrow v hv).move fun b o hb e => hs₂.extBut b o (fun q => hb (q ▸ List.mem_cons_of_mem _ List.mem_cons_self)) e
  · intro h₃ tk₃ m₃ rv₃ hn₃ hmp₃ hmr₃ hR₃ hz₃ hrow₃ hk₃
    dsimp only at hk₃
    refine hQ _ ⟨h₃, tk₃, m₃, rv₃, rfl, hn₃, hmp₃, hmr₃, ?_, hR₃, by omega, fun v hv => (hrow₃ v hv).more (by omega), fun b o h1 h2 h3 e => hk₃ b o h1 h2 (hs₂.extBut b o h1 (hk b o h1 h2 h3 e))⟩ fun b o h1 h2 e => hk₃ b o h1 h2 (hs₂.extBut b o h1 e)
    exact (hP.extBut hs₂.extBut hPL).at fun o e => hk₃ Pc o hPL hPR e

theorem rows_for {l L R Pc : Addr} {vs : List Value} {ns : List Int} {m : Str → Option Value} {pv rv0 : Array Value} {Q : Flow → Shared → Prop}
    (I : Inv w mg mb bm ob s.heap) (hh : A.handled = none) (hL : 45 < L) (hR : 45 < R) (hLR : L ≠ R) (hPL : Pc ≠ L) (hPR : Pc ≠ R) (hlL : l ≠ L) (hlR : l ≠ R)
    (hl : s.heap.IsList l vs.toArray) (hi : IntsAre vs ns) (hns : ns.length ≤ 20) (hn : s.heap.Ns L m) (hmn : m (Str.ofString "numbers") = some (.ref l)) (hmp : m (Str.ofString "pieces") = some (.ref Pc)) (hmr : m (Str.ofString "rows") = some (.ref R))
    (hP : s.heap.PlainList Pc pv) (hpz : pv.size = 13) (hpv : ∀ v ∈ pv.toList, ∃ x u, v = Value.str x u ∧ x.length ≤ 7) (hRl : s.heap.PlainList R rv0) (hrz : rv0.size = 1) (hrow : ∀ v ∈ rv0.toList, RowOk s.heap [L, R] 1 v)
    (hQ : ∀ h' tk m' rv, h'.Ns L m' → m' (Str.ofString "rows") = some (.ref R) → h'.PlainList R rv → rv.size ≤ 21 → (∀ v ∈ rv.toList, RowOk h' [L, R] 900 v) → (∀ b o, b ≠ L → b ≠ R → s.heap.get? b = some o → h'.get? b = some o) → Q .next { s with heap := h', toks := tk }) :
    wpAny (model prog w) A (exec (stm 5 2) (envR L)) Q E s := by
  show wpAny _ _ (exec (Stmt.For (.Name _ _) _ (whileBody (stm 5 2)) [] _) _) _ _ _
  have hvl : vs.length = ns.length := IntsAre.length hi
  have hllt : l < s.heap.objs.size := let ⟨_, e, _⟩ := hl; Heap.lt_size e
  have hLlt : L < s.heap.objs.size := hn.lt
  have hRlt : R < s.heap.objs.size := let ⟨_, e⟩ := hRl; Heap.lt_size e
  have hPlt : Pc < s.heap.objs.size := let ⟨_, e⟩ := hP; Heap.lt_size e
  refine wpAny_For ?_
  refine wpAny_Name (wpAny_loadName_local rfl rfl hn hmn ?_) (by decide)
  refine wpAny_pyIter_list hl ?_
  have kp : ∀ b o, s.heap.get? b = some o → (s.heap.push { cls := .type "list_iterator", data := .fields #[.ref l, .int 0 0] }).get? b = some o := fun b o e => Heap.get?_push_of_some _ e
  refine list_loop (I := s.heap.objs.size) (l := l) (items := vs.toArray) hh (Nat.ne_of_lt hllt) (JR s L R Pc s.heap.objs.size pv) ?_ ⟨_, Heap.get?_push_size _ rfl, rfl, rfl⟩ (hl.push _) ?_ ?_ ?_
  · exact fun i s₁ h₁ x hx => JR.move (Nat.ne_of_lt hLlt) (Nat.ne_of_lt hRlt) (Nat.ne_of_lt hPlt) x hx
  · refine ⟨_, s.toks, m, rv0, rfl, hn.push _, hmp, hmr, hP.at fun o e => kp _ o e, hRl.at fun o e => kp _ o e, hrz, fun v hv => ?_, fun b o _ _ _ e => kp b o e⟩
    exact ((hrow v hv).off (get_none s.heap)).move fun b o _ e => kp b o e
  · intro i v s₁ hv hJ hlt
    obtain ⟨k, t, rfl⟩ := ints_at hi (i := i) (v := v) (by simpa using hv)
    have hi' : i < vs.length := by
      have := (Array.getElem?_eq_some_iff.mp hv).1
      simpa using this
    refine JR.turn I hL hR I.size hLR hPL hPR (Nat.ne_of_lt hLlt) (Nat.ne_of_lt hRlt) (Nat.ne_of_lt hPlt) hpz hpv (by omega) hJ hlt fun s₃ hJ₃ hk₃ => ?_
    exact ⟨hJ₃, fun o e => hk₃ _ o (Nat.ne_of_gt hLlt) (Nat.ne_of_gt hRlt) e, fun o e => hk₃ _ o hlL hlR e⟩
  · rintro s' ⟨h', tk, m', rv, rfl, hn', hmp', hmr', hP', hR', hz', hrow', hk'⟩
    have hsz : vs.toArray.size = vs.length := by simp
    refine hQ h' tk m' rv hn' hmr' hR' (by omega) (fun v hv => ((hrow' v hv).sub (by simp)).more (by omega)) fun b o h1 h2 e => hk' b o h1 h2 (Nat.ne_of_lt (Heap.lt_size e)) e
end Mine
end

/-! ## NRows5 -/
section
open PySem PySem.W PyProof.Rows
namespace Mine
variable {w : World} {A : Around} {E : Value → Shared → Prop} {s : Shared} {mg mb : Str → Option Value} {bm : Addr} {ob : Obj × Array Value}

theorem rows_body {l L : Addr} {vs : List Value} {ns : List Int} {m : Str → Option Value} {Q : Flow → Shared → Prop}
    (I : Inv w mg mb bm ob s.heap) (hh : A.handled = none) (hL : 45 < L) (hlL : l ≠ L)
    (hl : s.heap.IsList l vs.toArray) (hi : IntsAre vs ns) (hns : ns.length ≤ 20) (hn : s.heap.Ns L m) (hmn : m (Str.ofString "numbers") = some (.ref l))
    (hQ : ∀ h' tk R rv, h'.PlainList R rv → rv.size ≤ 21 → (∀ v ∈ rv.toList, RowOk h' [L, R] 900 v) → s.heap.objs.size ≤ R → (∀ b o, b ≠ L → s.heap.get? b = some o → h'.get? b = some o) → Q (.ret (.ref R)) { s with heap := h', toks := tk }) :
    wpAny (model prog w) A (execs (stm 5 0 :: stm 5 1 :: stm 5 2 :: stm 5 3 :: []) (envR L)) Q E s := by
  have hLlt : L < s.heap.objs.size := hn.lt
  have hllt : l < s.heap.objs.size := let ⟨_, e, _⟩ := hl; Heap.lt_size e
  have hsz := I.size
  refine @rows_two w A E s L m _ _ hn ?_
  intro h₁ tk₁ m₁ pv Pc R z u hPc hR hz hPR hPz hRz hPlt hRlt hzlt hn₁ hmp hmr hmn₁ hP hpz hpv hRl hzl hk₁
  have hLR : L ≠ R := Nat.ne_of_lt (Nat.lt_of_lt_of_le hLlt hR)
  have hzL : z ≠ L := Nat.ne_of_gt (Nat.lt_of_lt_of_le hLlt hz)
  refine wpAny_execs_cons ?_
  refine @rows_for w A E { s with heap := h₁, toks := tk₁ } mg mb bm ob l L R Pc vs ns m₁ pv _ _ (I.at fun b o hb e => hk₁ b o (Nat.ne_of_lt (Nat.lt_of_lt_of_le hb hL)) e) hh hL (Nat.lt_of_lt_of_le hsz hR) hLR (Nat.ne_of_gt (Nat.lt_of_lt_of_le hLlt hPc)) hPR hlL (Nat.ne_of_lt (Nat.lt_of_lt_of_le hllt hR))
    (let ⟨o, e, r⟩ := hl; ⟨o, hk₁ _ _ hlL e, r⟩) hi hns hn₁ (hmn₁.trans hmn) hmp hmr hP hpz hpv hRl rfl ?_ ?_
  · intro v hv
    have : v = .ref z := by simpa using hv
    subst this
    refine ⟨z, [.str (Str.ofString "") u], [Str.ofString ""], rfl, ?_, hzl, .cons _ _ .nil, by simp, ?_⟩
    · intro q
      simp only [List.mem_cons, List.not_mem_nil, or_false] at q
      exact q.elim hzL (Ne.symm hRz)
    · decide +kernel
  · intro h₂ tk₂ m₂ rv hn₂ hmr₂ hRl₂ hsz₂ hrow₂ hk₂
    dsimp only at hk₂ ⊢
    refine wpAny_execs_cons ?_
    show wpAny _ _ (exec (Stmt.Return (some _) _) _) _ _ _
    refine wpAny_Return_some ?_
    refine wpAny_Name (wpAny_loadName_local rfl rfl hn₂ hmr₂ ?_) (by decide)
    exact hQ h₂ _ R rv hRl₂ hsz₂ hrow₂ hR fun b o hb e => hk₂ b o hb (Nat.ne_of_lt (Nat.lt_of_lt_of_le (Heap.lt_size e) hR)) (hk₁ b o hb e)

theorem rows_body' {l L : Addr} {vs : List Value} {ns : List Int} {m : Str → Option Value} {Q : Flow → Shared → Prop} {body : List Stmt} {env : Env} (hb : body = stm 5 0 :: stm 5 1 :: stm 5 2 :: stm 5 3 :: []) (he : env = envR L)
    (I : Inv w mg mb bm ob s.heap) (hh : A.handled = none) (hL : 45 < L) (hlL : l ≠ L)
    (hl : s.heap.IsList l vs.toArray) (hi : IntsAre vs ns) (hns : ns.length ≤ 20) (hn : s.heap.Ns L m) (hmn : m (Str.ofString "numbers") = some (.ref l))
    (hQ : ∀ h' tk R rv, h'.PlainList R rv → rv.size ≤ 21 → (∀ v ∈ rv.toList, RowOk h' [L, R] 900 v) → s.heap.objs.size ≤ R → (∀ b o, b ≠ L → s.heap.get? b = some o → h'.get? b = some o) → Q (.ret (.ref R)) { s with heap := h', toks := tk }) :
    wpAny (model prog w) A (execs body env) Q E s := by
  subst hb he
  exact @rows_body w A E s mg mb bm ob l L vs ns m Q I hh hL hlL hl hi hns hn hmn hQ

theorem rows_call {l : Addr} {vs : List Value} {ns : List Int} {Q : Value → Shared → Prop}
    (I : Inv w mg mb bm ob s.heap) (hh : A.handled = none) (hd : A.depth + 20 < recursionLimit) (hl : s.heap.IsList l vs.toArray) (hi : IntsAre vs ns) (hns : ns.length ≤ 20)
    (hQ : ∀ h' tk R rv, h'.PlainList R rv → rv.size ≤ 21 → (∀ v ∈ rv.toList, RowOk h' [R] 900 v) → s.heap.objs.size ≤ R → (∀ b o, s.heap.get? b = some o → h'.get? b = some o) → Q (.ref R) { s with heap := h', toks := tk }) :
    wpAny (model prog w) A (call (.ref 38) [.ref l]) Q E s := by
  refine wpAny_call ?_
  refine codeAny_call_def (binds := [(Str.ofString "numbers", .ref l)]) (by omega) (I.K 38 _ rfl) rfl I.lim (codeRec_of I.K rfl) rfl (BindsTo.of_eq rfl) (by decide) (by intro x hx; cases hx with | head => rfl | tail _ h => cases h) fun h₀ hns₀ hk₀ => ?_
  have hL : 45 < s.heap.objs.size := I.size
  have hllt : l < s.heap.objs.size := let ⟨_, e, _⟩ := hl; Heap.lt_size e
  have hl₀ : h₀.IsList l vs.toArray := let ⟨o, e, r⟩ := hl; ⟨o, hk₀ _ _ e, r⟩
  refine wpAny_mono (E := fun _ _ => False) (Q := fun f s' => match f with | .ret v => Q v s' | _ => False) ?_ ?_ ?_
  · show wpAny _ _ (execs (stm 5 0 :: stm 5 1 :: stm 5 2 :: stm 5 3 :: []) (envR s.heap.objs.size)) _ _ _
    refine @rows_body' w _ _ _ mg mb bm ob l s.heap.objs.size vs ns _ _ _ _ rfl rfl ?_ ?_ hL (Nat.ne_of_lt hllt) ?_ hi hns hns₀ ?_ ?_
    · exact I.keeps hk₀
    · exact hh
    · exact hl₀
    · rfl
    · intro h' tk R rv hR hz hrow hRge hk
      refine hQ h' tk R rv hR hz (fun v hv => (hrow v hv).sub (by simp)) (Nat.le_of_lt (Nat.lt_of_lt_of_le hns₀.lt hRge)) fun b o e => hk b o (Nat.ne_of_lt (Heap.lt_size e)) (hk₀ b o e)
  · intro f s' h
    cases f with
    | ret v => exact h
    | next => exact h.elim
    | brk => exact h.elim
    | cont => exact h.elim
  · intro e s' h; exact h.elim
end Mine
end

/-! ## NLaw1 -/
section
open PySem PySem.W PyProof.Rows
namespace Mine
variable {w : World} {A : Around} {E : Value → Shared → Prop} {s : Shared} {mg mb : Str → Option Value} {bm : Addr} {ob : Obj × Array Value}

abbrev envL (L : Addr) : Env := envOf (Str.ofString "law") (scopeOf (top 6)) L 45 (.ref 44)
theorem eq_same {X Y : Str} (h : X.cps.toList = Y.cps.toList) : (X == Y) = true := by rw [str_eq_list, decide_eq_true h]
theorem ne_same {X Y : Str} (h : X.cps.toList = Y.cps.toList) : (X != Y) = false := by rw [bne, eq_same h]; rfl

theorem law_if {L : Addr} {Q : Flow → Shared → Prop} (I : Inv w mg mb bm ob s.heap) (hh : A.handled = none) (hd : A.depth + 30 < recursionLimit) (hg : AllBare s.gens)
    (hQ : ∀ s', Inv w mg mb bm ob s'.heap → (∀ b o, b ≠ 16 → s.heap.get? b = some o → s'.heap.get? b = some o) → AllBare s'.gens → s'.os = s.os → Q .next s') :
    wpAny (model prog w) A (exec (stm 6 0) (envL L)) Q E s := by
  show wpAny _ _ (exec (Stmt.If (.Compare _ _ _ _) _ _ _) _) _ _ _
  walk1
  walk1
  walk1
  refine nmG (v := .ref 21) I rfl rfl rfl (by rfl) ?_
  refine callWith_K0 I.K (by rfl) ?_
  show wpAny _ _ (call (.ref 21) []) _ _ _
  refine plat_call I hh (by omega) hg .nil (by decide) fun s' t' Y I' hk' hg' ho' hY => ?_
  walk1
  walk1
  rw [ne_same (hY.trans (by decide +kernel))]
  walk1
  rw [if_neg Bool.false_ne_true]
  refine wpAny_execs_nil ?_
  exact hQ _ I' hk' hg' ho'

theorem law_ret {L : Addr} {Q : Flow → Shared → Prop} (I : Inv w mg mb bm ob s.heap) (hh : A.handled = none) (hd : A.depth + 30 < recursionLimit) (hg : AllBare s.gens)
    (hQ : ∀ s', Inv w mg mb bm ob s'.heap → (∀ b o, b ≠ 16 → s.heap.get? b = some o → s'.heap.get? b = some o) → AllBare s'.gens → s'.os = s.os → Q (.ret (.bool true)) s') :
    wpAny (model prog w) A (exec (stm 6 2) (envL L)) Q E s := by
  obtain ⟨hp, gs, dr, tk, os⟩ := s
  dsimp only at I hg hQ
  show wpAny _ _ (exec (Stmt.Return (some (.Compare _ _ _ _)) _) _) _ _ _
  walk1
  walk1
  walk1
  refine nmG (v := .ref 21) I rfl rfl rfl (by rfl) ?_
  refine callWith_K I.K (by rfl) ?_
  iterate 9 walk1
  refine ⟨I.K, ?_⟩
  show wpAny _ _ (call (.ref 21) [.str (Str.ofString "un") _, .str (Str.ofString "unknown") _, .str (Str.ofString " unknownknown") _, .str (Str.ofString "a ") _]) _ _ _
  refine plat_call I hh (by omega) hg (.cons _ _ (.cons _ _ (.cons _ _ (.cons _ _ .nil)))) (by decide +kernel) fun s' t' Y I' hk' hg' ho' hY => ?_
  walk1
  walk1
  rw [eq_same (hY.trans (by decide +kernel))]
  exact hQ _ I' hk' hg' ho'
end Mine
end

/-! ## NLaw2 -/
section
open PySem PySem.W PyProof.Rows
namespace Mine
variable {w : World} {A : Around} {E : Value → Shared → Prop} {s : Shared} {mg mb : Str → Option Value} {bm : Addr} {ob : Obj × Array Value}

theorem RowOk.off16 {h : Heap} {av : List Addr} {B : Nat} {v : Value} (I : Inv w mg mb bm ob h) (x : RowOk h av B v) : RowOk h (16 :: av) B v := by
  obtain ⟨a, us, ts, e, ha, ⟨n, hp⟩, r⟩ := x
  refine ⟨a, us, ts, e, fun q => ?_, ⟨n, hp⟩, r⟩
  cases q with
  | head => obtain ⟨ps, _, ht⟩ := I.tab; rw [ht.2] at hp; cases hp
  | tail _ q => exact ha q
theorem RowOk.offNs {h : Heap} {av : List Addr} {B : Nat} {v : Value} {L : Addr} {m : Str → Option Value} (hn : h.Ns L m) (x : RowOk h av B v) : RowOk h (L :: av) B v := by
  obtain ⟨a, us, ts, e, ha, ⟨n, hp⟩, r⟩ := x
  refine ⟨a, us, ts, e, fun q => ?_, ⟨n, hp⟩, r⟩
  cases q with
  | head => obtain ⟨o, es, ep, ho, hd, _⟩ := hn; rw [ho] at hp; cases hp; cases hd
  | tail _ q => exact ha q

theorem star_list {l : Addr} {us : List Value} {Q : List Value → Shared → Prop} (hl : s.heap.PlainList l us.toArray) (hz : us.length ≤ sizeLine)
    (h : ∀ h', (∀ b o, s.heap.get? b = some o → h'.get? b = some o) → Q us { s with heap := h' }) : StarOf (model prog w) A E (.ref l) Q s := by
  obtain ⟨n, hp⟩ := hl
  have hT' : s.TypeIs (.ref l) "list" := ⟨_, hp, rfl⟩
  have z : wpAny (model prog w) A (collect (.ref l)) Q E s :=
    wpAny_collect_seq l (.inl rfl) hp rfl rfl (fun h' hk => h h' hk) (by simpa using hz)
  unfold StarOf notIterableAtAll
  exact wpAny_bind (wpAny_specialOf hT' PySem.F.slot_list_iter.lookup (wpAny_pure ⟨rfl, z⟩))

/-- the body of the law's loop -/
theorem law_turn {L a : Addr} {us : List Value} {ts : List Str} {m : Str → Option Value} {Q : Flow → Shared → Prop} (I : Inv w mg mb bm ob s.heap) (hh : A.handled = none) (hd : A.depth + 30 < recursionLimit) (hg : AllBare s.gens)
    (hL : 45 < L) (hn : s.heap.Ns L m) (hm : m (Str.ofString "texts") = some (.ref a)) (ha : a ≠ 16) (hl : s.heap.PlainList a us.toArray) (hts : StrsAre us ts) (hw : wt ts ≤ 900)
    (hQ : ∀ s', Inv w mg mb bm ob s'.heap → (∀ b o, b ≠ 16 → s.heap.get? b = some o → s'.heap.get? b = some o) → AllBare s'.gens → s'.os = s.os → Q .next s') :
    wpAny (model prog w) A (execs (whileBody (stm 6 1)) (envL L)) Q E s := by
  have hL16 : L ≠ 16 := Nat.ne_of_gt (Nat.lt_of_le_of_lt (by decide) hL)
  have hus : us.length ≤ sizeLine := by rw [hts.length]; exact Nat.le_trans (Nat.le_trans (Nat.le_add_left _ _) hw) (by decide)
  show wpAny _ _ (execs (Stmt.If (.Compare _ _ _ _) _ _ _ :: []) _) _ _ _
  walk1
  walk1
  walk1
  walk1
  refine nmG (v := .ref 21) I rfl rfl rfl (by rfl) ?_
  refine callWith_S I.K (by rfl) ?_
  refine wpAny_Name (wpAny_loadName_local rfl rfl hn hm ?_) (by decide)
  refine star_list hl hus fun h₁ hk₁ => ?_
  have I₁ : Inv w mg mb bm ob h₁ := I.keeps hk₁
  refine ⟨I₁.K, ?_⟩
  show wpAny _ _ (call (.ref 21) us) _ _ _
  refine plat_call (s := { s with heap := h₁ }) I₁ hh (by omega) hg hts (Nat.le_trans hw (by decide)) fun s₂ t₂ Y₂ I₂ hk₂ hg₂ ho₂ hY₂ => ?_
  dsimp only at hk₂ ho₂
  have hk₂' : ∀ b o, b ≠ 16 → s.heap.get? b = some o → s₂.heap.get? b = some o := fun b o hb e => hk₂ b o hb (hk₁ b o e)
  have hn₂ : s₂.heap.Ns L m := hn.at' fun o e => hk₂' L o hL16 e
  have hl₂ : s₂.heap.PlainList a us.toArray := hl.at fun o e => hk₂' a o ha e
  walk1
  refine nmG (v := .ref 31) I₂ rfl rfl rfl (by rfl) ?_
  refine callWith_K I₂.K (by rfl) ?_
  walk1
  refine wpAny_Name (wpAny_loadName_local rfl rfl hn₂ hm ?_) (by decide)
  walk1
  refine ⟨I₂.K, ?_⟩
  show wpAny _ _ (call (.ref 31) [.ref a]) _ _ _
  refine told_call I₂ hh (by omega) hl₂.isList hts (Nat.le_trans hw (by decide)) fun h₃ tk₃ t₃ Y₃ hk₃ hY₃ => ?_
  walk1
  rw [ne_same (hY₂.trans ((plat_told ts).trans hY₃.symm))]
  walk1
  rw [if_neg Bool.false_ne_true]
  refine wpAny_execs_nil (wpAny_execs_nil ?_)
  exact hQ _ (I₂.keeps hk₃) (fun b o hb e => hk₃ b o (hk₂' b o hb e)) hg₂ ho₂
end Mine
end

/-! ## NLaw3 -/
section
open PySem PySem.W PyProof.Rows
namespace Mine
variable {w : World} {A : Around} {E : Value → Shared → Prop} {s : Shared} {mg mb : Str → Option Value} {bm : Addr} {ob : Obj × Array Value}

/-- what stands before each turn of the law's loop -/
def JL (w : World) (mg mb : Str → Option Value) (bm : Addr) (ob : Obj × Array Value) (s : Shared) (L R It : Addr) (rv : Array Value) (s' : Shared) : Prop :=
  Inv w mg mb bm ob s'.heap ∧ AllBare s'.gens ∧ s'.os = s.os ∧ (∃ m', s'.heap.Ns L m') ∧ (∀ v ∈ rv.toList, RowOk s'.heap [L, 16, It] 900 v) ∧ ∀ b o, b ≠ 16 → b ≠ L → b ≠ It → s.heap.get? b = some o → s'.heap.get? b = some o

theorem JL.move {L R It : Addr} {rv : Array Value} {s₁ : Shared} {h₁ : Heap} (hI : 45 < It) (hLI : L ≠ It) (x : JL w mg mb bm ob s L R It rv s₁) (hx : Heap.ExtBut It s₁.heap h₁) : JL w mg mb bm ob s L R It rv { s₁ with heap := h₁ } := by
  obtain ⟨I, hg, ho, ⟨m', hn⟩, hrow, hk⟩ := x
  exact ⟨I.at fun b o hb e => hx b o (Nat.ne_of_lt (Nat.lt_of_lt_of_le hb hI)) e, hg, ho, ⟨m', hn.extBut hx hLI⟩, fun v hv => (hrow v hv).move fun b o hb e => hx b o (fun q => hb (q ▸ List.mem_cons_of_mem _ (List.mem_cons_of_mem _ List.mem_cons_self))) e, fun b o h1 h2 h3 e => hx b o h3 (hk b o h1 h2 h3 e)⟩

theorem JL.turn {L R It : Addr} {rv : Array Value} {s₁ : Shared} {v : Value} {px : Pos} {Q : Flow → Shared → Prop} (hh : A.handled = none) (hd : A.depth + 30 < recursionLimit) (hL : 45 < L) (hv : v ∈ rv.toList)
    (x : JL w mg mb bm ob s L R It rv s₁) (hQ : ∀ s₃, JL w mg mb bm ob s L R It rv s₃ → (∀ b o, b ≠ 16 → b ≠ L → s₁.heap.get? b = some o → s₃.heap.get? b = some o) → Q .next s₃) :
    wpAny (model prog w) A (assign (.Name (Str.ofString "texts") px) (envL L) v) (fun _ s₂ => wpAny (model prog w) A (execs (whileBody (stm 6 1)) (envL L)) Q E s₂) E s₁ := by
  obtain ⟨I, hg, ho, ⟨m', hn⟩, hrow, hk⟩ := x
  obtain ⟨a, us, ts, rfl, haa, hpl, hst, hne, hwt⟩ := hrow v hv
  have hL16 : L ≠ 16 := Nat.ne_of_gt (Nat.lt_of_le_of_lt (by decide) hL)
  have haL : a ≠ L := fun q => haa (q ▸ List.mem_cons_self)
  have ha16 : a ≠ 16 := fun q => haa (q ▸ List.mem_cons_of_mem _ List.mem_cons_self)
  refine wpAny_assign_Name (wpAny_storeName_local rfl hn (fun h₂ hn₂ hs₂ => ?_) rfl)
  replace hs₂ : Heap.SameBut L s₁.heap h₂ := hs₂
  replace hn₂ : h₂.Ns L (upd m' (Str.ofString "texts") (.ref a)) := hn₂
  have hrow₂ : ∀ v ∈ rv.toList, RowOk h₂ [L, 16, It] 900 v := fun v hv => (hrow v hv).move fun b o hb e => hs₂.extBut b o (fun q => hb (q ▸ List.mem_cons_self)) e
  refine @law_turn w A E _ mg mb bm ob L a us ts _ Q (I.same hL hs₂) hh hd ?_ hL hn₂ (upd_same _ _ _) ha16 (hpl.extBut hs₂.extBut haL) hst hwt ?_
  · exact hg
  · intro s₃ I₃ hk₃ hg₃ ho₃
    replace hk₃ : ∀ b o, b ≠ 16 → h₂.get? b = some o → s₃.heap.get? b = some o := hk₃
    refine hQ s₃ ⟨I₃, hg₃, Eq.trans ho₃ ho, ⟨_, hn₂.at' fun o e => hk₃ L o hL16 e⟩, fun v hv => (hrow₂ v hv).move fun b o hb e => hk₃ b o (fun q => hb (q ▸ List.mem_cons_of_mem _ List.mem_cons_self)) e, fun b o h1 h2 h3 e => hk₃ b o h1 (hs₂.extBut b o h2 (hk b o h1 h2 h3 e))⟩ fun b o h1 h2 e => hk₃ b o h1 (hs₂.extBut b o h2 e)

theorem law_for {L l : Addr} {vs : List Value} {ns : List Int} {m : Str → Option Value} {Q : Flow → Shared → Prop} (I : Inv w mg mb bm ob s.heap) (hh : A.handled = none) (hd : A.depth + 30 < recursionLimit) (hg : AllBare s.gens)
    (hL : 45 < L) (hn : s.heap.Ns L m) (hm : m (Str.ofString "script") = some (.ref l)) (hl : s.heap.IsList l vs.toArray) (hi : IntsAre vs ns) (hz : vs.length ≤ sizeLine)
    (hQ : ∀ s', Inv w mg mb bm ob s'.heap → (∀ b o, b ≠ 16 → b ≠ L → s.heap.get? b = some o → s'.heap.get? b = some o) → AllBare s'.gens → s'.os = s.os → Q .next s') :
    wpAny (model prog w) A (exec (stm 6 1) (envL L)) Q E s := by
  obtain ⟨hp, gs, dr, tk, os⟩ := s
  dsimp only at I hg hn hl hQ
  have hL16 : L ≠ 16 := Nat.ne_of_gt (Nat.lt_of_le_of_lt (by decide) hL)
  show wpAny _ _ (exec (Stmt.For (.Name _ _) _ (whileBody (stm 6 1)) [] _) _) _ _ _
  refine wpAny_For ?_
  walk1
  refine nmG (v := .ref 38) I rfl rfl rfl (by rfl) ?_
  refine callWith_K I.K (by rfl) ?_
  walk1
  walk1
  refine wpAny_Name (wpAny_loadName_local rfl rfl hn hm ?_) (by decide)
  walk1
  walk1
  walk1
  walk1
  walk1
  refine list_cut (s := { heap := hp, gens := gs, drawn := dr, toks := _, os := os }) hl .none (.int _ _) .none (by decide) ?_ (by simpa using hz)
  dsimp only
  have hi' : IntsAre (slicePick vs.toArray none (some 20) none).toList (ns.take 20) := slice_ints_uptoW hi (by decide)
  generalize hS : hp.push _ = hS'
  have kS : ∀ b o, hp.get? b = some o → hS'.get? b = some o := fun b o e => by rw [← hS]; exact Heap.get?_push_of_some _ e
  clear hS
  generalize slicePick vs.toArray none (some 20) none = pk at hi'
  generalize hN : hS'.push _ = h₁
  have k₁ : ∀ b o, hp.get? b = some o → h₁.get? b = some o := fun b o e => by rw [← hN]; exact Heap.get?_push_of_some _ (kS b o e)
  have hN1 : h₁.IsList hS'.objs.size pk.toList.toArray := by rw [← hN]; exact ⟨_, Heap.get?_push_size _ rfl, rfl, _, rfl⟩
  clear hN
  have I₁ : Inv w mg mb bm ob h₁ := I.keeps k₁
  walk1
  refine ⟨I₁.K, ?_⟩
  show wpAny _ _ (call (.ref 38) [.ref hS'.objs.size]) _ _ _
  refine rows_call I₁ hh (by omega) hN1 hi' (by simp; omega) fun h₂ tk₂ R rv hR hz₂ hrow hRge hk₂ => ?_
  dsimp only at hk₂ hRge ⊢
  have I₂ : Inv w mg mb bm ob h₂ := I₁.keeps hk₂
  have hn₂ : h₂.Ns L m := hn.keeps fun b o e => hk₂ b o (k₁ b o e)
  have hRlt : R < h₂.objs.size := let ⟨_, e⟩ := hR; Heap.lt_size e
  have hLlt : L < h₂.objs.size := hn₂.lt
  have hLlt₁ : L < h₁.objs.size := (hn.keeps k₁).lt
  have hRL : R ≠ L := Nat.ne_of_gt (Nat.lt_of_lt_of_le hLlt₁ hRge)
  have hR16 : R ≠ 16 := Nat.ne_of_gt (Nat.lt_of_lt_of_le (Nat.lt_trans (by decide) I₁.size) hRge)
  have hsz₂ := I₂.size
  refine wpAny_pyIter_list hR.isList ?_
  refine list_loop (I := h₂.objs.size) (l := R) (items := rv) hh (Nat.ne_of_lt hRlt) (fun _ => JL w mg mb bm ob { heap := hp, gens := gs, drawn := dr, toks := tk, os := os } L R h₂.objs.size rv) ?_ ⟨_, Heap.get?_push_size _ rfl, rfl, rfl⟩ (hR.isList.push _) ?_ ?_ ?_
  · exact fun i s₁ h₁ x hx => JL.move hsz₂ (Nat.ne_of_lt hLlt) x hx
  · refine ⟨I₂.keeps fun b o e => Heap.get?_push_of_some _ e, hg, rfl, ⟨m, hn₂.push _⟩, fun v hv => ?_, fun b o _ _ _ e => Heap.get?_push_of_some _ (hk₂ b o (k₁ b o e))⟩
    exact ((((hrow v hv).sub (av' := []) (by simp)).off (get_none h₂)).off16 I₂).offNs hn₂ |>.move fun b o _ e => Heap.get?_push_of_some _ e
  · intro i v s₁ hv hJ _
    refine JL.turn hh hd hL (List.mem_of_getElem? (by simpa using hv)) hJ fun s₃ hJ₃ hk₃ => ?_
    exact ⟨hJ₃, fun o e => hk₃ _ o (Nat.ne_of_gt (Nat.lt_trans (by decide) hsz₂)) (Nat.ne_of_gt hLlt) e, fun o e => hk₃ _ o hR16 hRL e⟩
  · rintro s' ⟨I', hg', ho', _, _, hk'⟩
    exact hQ s' I' (fun b o h1 h2 e => hk' b o h1 h2 (Nat.ne_of_lt (Heap.lt_size (hk₂ b o (k₁ b o e)))) e) hg' ho'
end Mine
end

/-! ## NLaw4 -/
section
open PySem PySem.W PyProof.Rows
namespace Mine
variable {w : World} {A : Around} {E : Value → Shared → Prop} {s : Shared} {mg mb : Str → Option Value} {bm : Addr} {ob : Obj × Array Value}

theorem law_body {L l : Addr} {vs : List Value} {ns : List Int} {m : Str → Option Value} {Q : Flow → Shared → Prop} {body : List Stmt} {env : Env} (hb : body = stm 6 0 :: stm 6 1 :: stm 6 2 :: []) (he : env = envL L)
    (I : Inv w mg mb bm ob s.heap) (hh : A.handled = none) (hd : A.depth + 30 < recursionLimit) (hg : AllBare s.gens)
    (hL : 45 < L) (hn : s.heap.Ns L m) (hm : m (Str.ofString "script") = some (.ref l)) (hl : s.heap.IsList l vs.toArray) (hi : IntsAre vs ns) (hz : vs.length ≤ sizeLine)
    (hQ : ∀ s', Inv w mg mb bm ob s'.heap → (∀ b o, b ≠ 16 → b ≠ L → s.heap.get? b = some o → s'.heap.get? b = some o) → AllBare s'.gens → s'.os = s.os → Q (.ret (.bool true)) s') :
    wpAny (model prog w) A (execs body env) Q E s := by
  subst hb he
  have hL16 : L ≠ 16 := Nat.ne_of_gt (Nat.lt_of_le_of_lt (by decide) hL)
  have hl16 : l ≠ 16 := fun e => by
    obtain ⟨o, ho, hc, _⟩ := hl
    obtain ⟨ps, _, ht⟩ := I.tab
    rw [e, ht.2] at ho; cases ho; cases hc
  refine wpAny_execs_cons ?_
  refine @law_if w A E s mg mb bm ob L _ I hh hd hg ?_
  intro s₁ I₁ hk₁ hg₁ ho₁
  dsimp only
  refine wpAny_execs_cons ?_
  refine @law_for w A E s₁ mg mb bm ob L l vs ns m _ I₁ hh hd hg₁ hL (hn.at' fun o e => hk₁ L o hL16 e) hm (let ⟨o, e, r⟩ := hl; ⟨o, hk₁ _ _ hl16 e, r⟩) hi hz ?_
  intro s₂ I₂ hk₂ hg₂ ho₂
  dsimp only
  refine wpAny_execs_cons ?_
  refine @law_ret w A E s₂ mg mb bm ob L _ I₂ hh hd hg₂ ?_
  intro s₃ I₃ hk₃ hg₃ ho₃
  exact hQ s₃ I₃ (fun b o h1 h2 e => hk₃ b o h1 (hk₂ b o h1 h2 (hk₁ b o h1 e))) hg₃ (ho₃.trans (ho₂.trans ho₁))

theorem law_call {l : Addr} {vs : List Value} {ns : List Int} {Q : Value → Shared → Prop}
    (I : Inv w mg mb bm ob s.heap) (hh : A.handled = none) (hd : A.depth + 40 < recursionLimit) (hg : AllBare s.gens) (hl : s.heap.IsList l vs.toArray) (hi : IntsAre vs ns) (hz : vs.length ≤ sizeLine)
    (hQ : ∀ s', Inv w mg mb bm ob s'.heap → (∀ b o, b ≠ 16 → s.heap.get? b = some o → s'.heap.get? b = some o) → AllBare s'.gens → s'.os = s.os → Q (.bool true) s') :
    wpAny (model prog w) A (call (.ref 45) [.ref l]) Q E s := by
  refine wpAny_call ?_
  refine codeAny_call_def (binds := [(Str.ofString "script", .ref l)]) (by omega) (I.K 45 _ rfl) rfl I.lim (codeRec_of I.K rfl) rfl (BindsTo.of_eq rfl) (by decide) (by intro x hx; cases hx with | head => rfl | tail _ h => cases h) fun h₀ hns₀ hk₀ => ?_
  have hL : 45 < s.heap.objs.size := I.size
  have hl₀ : h₀.IsList l vs.toArray := let ⟨o, e, r⟩ := hl; ⟨o, hk₀ _ _ e, r⟩
  refine wpAny_mono (E := fun _ _ => False) (Q := fun f s' => match f with | .ret v => Q v s' | _ => False) ?_ ?_ ?_
  · show wpAny _ _ (execs (stm 6 0 :: stm 6 1 :: stm 6 2 :: []) (envL s.heap.objs.size)) _ _ _
    refine @law_body w _ _ _ mg mb bm ob s.heap.objs.size l vs ns _ _ _ _ rfl rfl ?_ ?_ ?_ ?_ hL hns₀ ?_ ?_ hi hz ?_
    · exact I.keeps hk₀
    · exact hh
    · show A.depth + 1 + 30 < recursionLimit
      omega
    · exact hg
    · rfl
    · exact hl₀
    · intro s' I' hk' hg' ho'
      exact hQ s' I' (fun b o hb e => hk' b o hb (Nat.ne_of_lt (Heap.lt_size e)) (hk₀ b o e)) hg' ho'
  · intro f s' h
    cases f with
    | ret v => exact h
    | next => exact h.elim
    | brk => exact h.elim
    | cont => exact h.elim
  · intro e s' h; exact h.elim
end Mine
end

/-! ## NLaw5 -/
section
open PySem PySem.W PyProof.Rows
namespace Mine
variable {w : World} {A : Around} {E : Value → Shared → Prop} {s : Shared} {mg mb : Str → Option Value} {bm : Addr} {ob : Obj × Array Value}

theorem law_at {h : Heap} (K : (hd.heap_39 w.params).In h) (g : h.Ns mainGlobals mg) {fa : Addr} (e : mg (Str.ofString "law") = some (.ref fa)) : fa = 45 := by
  have := mg_of (v := .ref 45) K g (n := Str.ofString "law") (by rfl)
  rw [this] at e
  exact (Value.ref.inj (Option.some.inj e)).symm

theorem tab_start {loose : List Str} {mean : ExcName → Option Value} {h : Heap} (K : (hd.heap_39 w.params).In h) (T : Top hd.view_39 loose mean mg mb h) : h.IsCode 20 16 #[] ∧ h.TableAt 20 16 #[] := by
  have hm : (Str.ofString "_platform") ∈ (recsOf hd.view_39).map (·.name) := by decide +kernel
  obtain ⟨d, hd', hn⟩ := List.mem_map.mp hm
  obtain ⟨a, o, fd, c, P, e1, e2, e3, e4, e5, e6⟩ := T.tab d hd'
  have q := mg_of (v := .ref 21) K T.g (n := Str.ofString "_platform") (by rfl)
  rw [hn, q] at e1
  have ha : 21 = a := Value.ref.inj (Option.some.inj e1)
  subst ha
  have q2 := (K 21 _ rfl).symm.trans e2
  have q3 := Option.some.inj q2
  rw [← q3] at e3
  injection e3 with e3
  rw [← e3] at e4
  have hc : 20 = c := Value.ref.inj e4
  subst hc
  obtain ⟨⟨oc, vc, hoc, _, hdc, h11⟩, ht⟩ := id e6
  have q4 := Option.some.inj ((K 20 _ rfl).symm.trans hoc)
  rw [← q4] at hdc
  injection hdc with hdc
  rw [← hdc] at h11
  have hP : 16 = P := Value.ref.inj (Option.some.inj h11)
  subst hP
  exact ⟨e5, e6⟩

theorem inv_start {loose : List Str} {mean : ExcName → Option Value} {h : Heap} (K : (hd.heap_39 w.params).In h) (T : Top hd.view_39 loose mean mg mb h) : ∃ bm ob, Inv w mg mb bm (ob, #[]) h := by
  obtain ⟨bm, ob, M⟩ := bmod_of_top T
  have q := mg_of (v := .ref 4) K T.g (n := "__builtins__") (by rfl)
  have hb : 4 = bm := Value.ref.inj (Option.some.inj (q.symm.trans M.name))
  have tt := tab_start K T
  exact ⟨bm, ob, by rw [← hb]; decide, K, T.g, T.b, T.nolimit, T.builtins, M, #[], ⟨tt.1, #[], rfl⟩, tt.2⟩

theorem old_end {h h' : Heap} {ob : Obj} (ht : h.TableAt 20 16 #[]) (I : Inv w mg mb bm (ob, #[]) h') (k : ∀ b o, b ≠ 16 → h.get? b = some o → h'.get? b = some o) : OldK h h' := by
  obtain ⟨ps, ⟨_, more, e⟩, t⟩ := I.tab
  dsimp only at e
  rw [e] at t
  exact (OldK.refl h).step_table ht ht t (fun b o hb e => k b o hb e) (by decide)
end Mine
end

open PySem PySem.W PyProof.Rows
theorem PySem.Challenge.cw_dz0076_01_holds : PySem.Challenge.rw_dz0076_01.Holds := by
  refine Mine.hd ?_
  k_fill
  intro w s₀ s₁ mg mb G Y fa o pm cd doc dV kV ho hd hcd hD hmg hg args vals as hpre hlay hrd hwl hlo
  have KX := kIn_of Y
  refine Ground.open G ?_
  intro T B D TE TW
  clear hd hD ho hcd
  wrow_args hpre hlay hrd hwl hlo
  rename_i ns _ _ _ _ _ _ _ l vs _ hL _ _ _ hI _ hlen _
  have hfa : fa = 45 := Mine.law_at KX T.g hmg
  clear hmg
  subst hfa
  obtain ⟨bm, ob, I⟩ := Mine.inv_start KX T
  refine Mine.law_call I rfl (by decide) (.of_eq hg) hL hI ?_ ?_
  · have h1 : ns.length ≤ 63 := by omega
    rw [IntsAre.length hI]
    exact Nat.le_trans h1 (by decide)
  · intro s' I' hk' hg' ho'
    refine ⟨.inl ⟨_, _, _, rfl, ?_, .bool true, ?_, ?_⟩, Mine.old_end (Mine.tab_start KX T).2 I' hk', ho', hg'⟩
    · exact raisesW_false (by wrow_none_raised)
    · exact postW_of (by wrow_shape) (by wtm_val) (by str_meet; first | done | w_fin)
    · exact unshared_nil
