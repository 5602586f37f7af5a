import PyProof.Rows.All
import Wide.All
import OpenK.AllK
import Wide.FinOn
import PySem.Challenge.RW_kn0090_09
open PySem PySem.W PyProof.Rows PySem.Spec
set_option Elab.async false
set_option maxRecDepth 100000

section
namespace Mine

def Grow (h h' : Heap) : Prop := ∀ b o, h.get? b = some o → h'.get? b = some o
theorem Grow.refl (h : Heap) : Grow h h := fun _ _ e => e
section
variable {prog : Program} {w : World} {A : Around} {E : Value → Shared → Prop} {s : Shared}

end

section
variable {prog : Program} {w : World} {A : Around} {E : Value → Shared → Prop} {s : Shared}
end
end Mine
end

section
namespace Mine
open PySem.F

theorem slot_map_next : Slot "map" "__next__" "map.__next__" :=
  .of (owner := "map") (n := "__next__") (by rw [typeLookup_type, builtinLookup_eq_fast]; kernel_rfl) (by decide +kernel) (by decide +kernel) (by decide +kernel)
    (by first | exact .inl (by decide +kernel) | exact .inr (by decide +kernel)) (by rw [isSubtype_type]; kernel_rfl)
theorem slot_map_iter : Slot "map" "__iter__" "map.__iter__" :=
  .of (owner := "map") (n := "__iter__") (by rw [typeLookup_type, builtinLookup_eq_fast]; kernel_rfl) (by decide +kernel) (by decide +kernel) (by decide +kernel)
    (by first | exact .inl (by decide +kernel) | exact .inr (by decide +kernel)) (by rw [isSubtype_type]; kernel_rfl)
theorem slot_map_init : Slot "map" "__init__" "object.__init__" :=
  .of (owner := "object") (n := "__init__") (by rw [typeLookup_type, builtinLookup_eq_fast]; kernel_rfl) (by decide +kernel) (by decide +kernel) (by decide +kernel)
    (by first | exact .inl (by decide +kernel) | exact .inr (by decide +kernel)) (by rw [isSubtype_type]; kernel_rfl)
theorem owner_map : Manifest.owners.lookup (String.ofList ['p', 'a', 'm'].reverse) = some Manifest.sig_map := by kernel_rfl
theorem args_map_next (a : Value) : argsOk "map.__next__" ⟨[a], []⟩ := by
  unfold argsOk; rw [signature?_of (id := "map.__next__") (n := ['_', '_', 't', 'x', 'e', 'n', '_', '_']) (o := ['p', 'a', 'm']) (by kernel_rfl) owner_map]; kernel_rfl
theorem args_map_iter (a : Value) : argsOk "map.__iter__" ⟨[a], []⟩ := by
  unfold argsOk; rw [signature?_of (id := "map.__iter__") (n := ['_', '_', 'r', 'e', 't', 'i', '_', '_']) (o := ['p', 'a', 'm']) (by kernel_rfl) owner_map]; kernel_rfl
theorem entry_map_next : entryFor table "map.__next__" = some Builtin.«map.__next__» := entryFor_of_tree (by kernel_rfl)
theorem entry_map_iter : entryFor table "map.__iter__" = some Builtin.«dict_keyiterator.__iter__» :=
  entryFor_alias (id' := "dict_keyiterator.__iter__") (by kernel_rfl) (by first | rfl | decide +kernel | (unfold String.splitOn; simp +decide [String.splitOnAux])) (by decide +kernel) (by kernel_rfl)
theorem mro_map : mroOf (.type "map") = pure [.type "map", .type "object"] := by rw [mroOf_type]; kernel_rfl
theorem lookup_map_new : typeLookup (.type "map") "__new__" = pure (some (.builtin "map.__new__")) := by rw [typeLookup_type, builtinLookup_eq_fast]; kernel_rfl
theorem called_map : TypeCalled "map" "map.__new__" "object.__init__" :=
  ⟨by decide +kernel, by decide +kernel, ⟨_, _, mro_map⟩, madeBy_type mro_map lookup_map_new (by decide +kernel), by decide +kernel, by rw [isSubtype_type]; kernel_rfl, slot_map_init⟩
theorem typeCall_map_2 (a b : Value) : checkTypeCall "map" ⟨[a, b], []⟩ = pure () := by kernel_rfl
theorem newCall_map_2 (a b : Value) : checkBuiltinCall "map.__new__" ⟨[.type "map", a, b], []⟩ = pure () := by kernel_rfl
theorem entry_map_new : entryFor table "map.__new__" = some Builtin.«map.__new__» := entryFor_of_tree (by kernel_rfl)
theorem sub_map : isSubtype (.type "map") (.type "map") = pure true := by rw [isSubtype_type]; kernel_rfl
theorem map_no_len : typeLookup (.type "map") "__len__" = pure none := by rw [typeLookup_type, builtinLookup_eq_fast]; kernel_rfl
theorem map_no_hint : typeLookup (.type "map") "__length_hint__" = pure none := by rw [typeLookup_type, builtinLookup_eq_fast]; kernel_rfl

abbrev mapObj (T : Addr) (f : Value) : Obj := { cls := .type "map", data := .fields #[.ref T, f] }
abbrev oneObj (I : Addr) : Obj := { cls := .type "tuple", data := .seq #[.ref I] }
abbrev lisObj (l : Addr) : Obj := { cls := .type "list_iterator", data := .fields #[.ref l, .int 0 0] }
abbrev mapH1 (h : Heap) (l : Addr) : Heap := h.push (lisObj l)
abbrev mapH2 (h : Heap) (l : Addr) : Heap := (mapH1 h l).push (oneObj h.objs.size)
abbrev mapH3 (h : Heap) (l : Addr) (f : Value) : Heap := (mapH2 h l).push (mapObj (mapH1 h l).objs.size f)

theorem meets_map_new (f : Value) (l : Addr) (xs : Array Value) :
    Meets (Builtin.«map.__new__» ⟨[.type "map", f, .ref l], []⟩) (fun _ R s => s.heap.IsList l xs ∧
      R (.ok (.ret (.ref (mapH2 s.heap l).objs.size))) { s with heap := mapH3 s.heap l f }) :=
  .of_wp fun prog w A R s h => by
    obtain ⟨hp, g, d, tk, os⟩ := s; obtain ⟨hl1, h⟩ := h
    have hsub := sub_map
    have hL1 : Heap.IsList (Shared.heap ⟨hp, g, d, tk, os⟩) l xs := hl1
    wp_walk using wpAny_pyIter_list hL1
    exact ⟨_, rfl, h⟩

section
variable {prog : Program} {w : World} {A : Around} {E : Value → Shared → Prop} {s : Shared}

theorem call_map {f : Value} {l : Addr} {xs : Array Value} {Q : Value → Shared → Prop} (hl : s.heap.IsList l xs)
    (h : ∀ h', h'.get? (s.heap.objs.size + 2) = some (mapObj (s.heap.objs.size + 1) f) → h'.get? (s.heap.objs.size + 1) = some (oneObj s.heap.objs.size) → h'.get? s.heap.objs.size = some (lisObj l) →
      Grow s.heap h' → Q (.ref (s.heap.objs.size + 2)) { s with heap := h' }) :
    wpAny (model prog w) A (call (.type "map") [f, .ref l]) Q E s := by
  refine callType_new called_map (by decide) (typeCall_map_2 _ _) (newCall_map_2 _ _) (fun obj => F.args_object_init_3 obj _ _) entry_map_new
    (meets_map_new f l xs) ⟨hl, ?_⟩
  have z1 : (mapH1 s.heap l).objs.size = s.heap.objs.size + 1 := Heap.size_push ..
  have z2 : (mapH2 s.heap l).objs.size = s.heap.objs.size + 2 := by rw [Heap.size_push, z1]
  have g3 : (mapH3 s.heap l f).get? (mapH2 s.heap l).objs.size = some (mapObj (mapH1 s.heap l).objs.size f) := Heap.get?_push_size _ rfl
  have g2 : (mapH3 s.heap l f).get? (mapH1 s.heap l).objs.size = some (oneObj s.heap.objs.size) := Heap.get?_push_of_some _ (Heap.get?_push_size _ rfl)
  have g1 : (mapH3 s.heap l f).get? s.heap.objs.size = some (lisObj l) := Heap.get?_push_of_some _ (Heap.get?_push_of_some _ (Heap.get?_push_size _ rfl))
  show _ ∧ _
  rw [z1] at g2 g3
  rw [z2] at g3 ⊢
  exact ⟨⟨_, g3, rfl⟩, h _ g3 g2 g1 fun c o x => Heap.get?_push_of_some _ (Heap.get?_push_of_some _ (Heap.get?_push_of_some _ x))⟩
end
end Mine
end

section
namespace Mine
open PySem.F
section
variable {prog : Program} {w : World} {A : Around} {E : Value → Shared → Prop} {s : Shared}

theorem map_next_item {M T I l : Addr} {f : Value} {k : Nat} {xs : Array Value} {x : Value} {Q : Option Value → Shared → Prop}
    (hz : s.heap.get? M = some (mapObj T f)) (hT : s.heap.get? T = some (oneObj I)) (h1 : s.heap.IsListIter I l k) (hl : s.heap.IsList l xs) (hx : xs[k]? = some x) (hMI : M ≠ I)
    (hf : ∀ h₁, h₁.IsListIter I l (k + 1) → Heap.SameBut I s.heap h₁ → wpAny (model prog w) A.in1 (call f [x]) (fun v s' => Q (some v) s') (fun _ _ => False) { s with heap := h₁ }) :
    wpAny (model prog w) A (pyNext (.ref M)) Q E s := by
  have hTy : s.TypeIs (.ref M) "map" := ⟨_, hz, rfl⟩
  unfold pyNext
  refine wpAny_bind (wpAny_attempt (wpAny_callSpecial?_slot (name := Str.ofString "__next__") hTy slot_map_next
    (wpAny_call_entry slot_map_next hTy entry_map_next ?_ (args_map_next _))))
  show wpAny _ _ (field (.ref M) 0 >>= _) _ _ _
  refine wpAny_bind (wpAny_field hz rfl (x := .ref T) rfl ?_)
  refine wpAny_bind (wpAny_seqItems hT rfl ?_)
  dsimp only
  refine wpAny_bind ?_
  rw [← Array.forIn_toList]
  simp only [List.forIn_cons, List.forIn_nil]
  refine wpAny_bind (wpAny_bind (wpAny_holding ?_))
  refine wpAny_nextOf_list_item h1 hl hx fun h₁ h1₁ hs₁ => ?_
  refine wpAny_pure (wpAny_pure ?_)
  refine wpAny_bind (wpAny_field (hs₁.extBut _ _ hMI hz) rfl (x := f) rfl ?_)
  refine wpAny_bind (wpAny_holding ?_)
  refine wpAny_mono (hf h₁ h1₁ hs₁) (fun v s' hq => ?_) (fun _ _ h => h.elim)
  refine wpAny_bind (wpAny_letGo ?_)
  exact wpAny_pure ⟨v, rfl, wpAny_pure hq⟩

theorem map_next_end {M T I l : Addr} {f : Value} {k : Nat} {xs : Array Value} {Q : Option Value → Shared → Prop} (hh : A.handled = none)
    (hz : s.heap.get? M = some (mapObj T f)) (hT : s.heap.get? T = some (oneObj I)) (h1 : s.heap.IsListIter I l k) (hl : s.heap.IsList l xs) (hx : xs[k]? = none)
    (hQ : ∀ h', Heap.ExtBut I s.heap h' → Q none { s with heap := h' }) :
    wpAny (model prog w) A (pyNext (.ref M)) Q E s := by
  have hTy : s.TypeIs (.ref M) "map" := ⟨_, hz, rfl⟩
  unfold pyNext
  refine wpAny_bind (wpAny_attempt (wpAny_callSpecial?_slot (name := Str.ofString "__next__") hTy slot_map_next
    (wpAny_call_entry slot_map_next hTy entry_map_next ?_ (args_map_next _))))
  show wpAny _ _ (field (.ref M) 0 >>= _) _ _ _
  refine wpAny_bind (wpAny_field hz rfl (x := .ref T) rfl ?_)
  refine wpAny_bind (wpAny_seqItems hT rfl ?_)
  dsimp only
  refine wpAny_bind ?_
  rw [← Array.forIn_toList]
  simp only [List.forIn_cons, List.forIn_nil]
  refine wpAny_bind (wpAny_bind (wpAny_holding ?_))
  refine wpAny_nextOf_list_end hh h1 hl hx fun h₁ e hs₁ he => ?_
  obtain ⟨o, ho, hc⟩ := he
  refine wpAny_bind (wpAny_isInstance (T := "StopIteration") (b := true) ⟨o, ho, hc⟩ isSubtype_stop ?_)
  exact wpAny_pure (hQ _ hs₁)

theorem map_iter {M T : Addr} {f : Value} {Q : Value → Shared → Prop} (hz : s.heap.get? M = some (mapObj T f)) (h : Q (.ref M) s) : wpAny (model prog w) A (pyIter (.ref M)) Q E s := by
  have hT : s.TypeIs (.ref M) "map" := ⟨_, hz, rfl⟩
  refine wpAny_pyIter_slot hT slot_map_iter (wpAny_call_entry slot_map_iter hT entry_map_iter ?_ (args_map_iter _))
  show wpAny _ _ (ret (.ref M)) _ _ s
  exact wpAny_pure ⟨_, rfl, "map", _, hT, slot_map_next.lookup, h⟩

theorem extend_loop {R : Result → Shared → Prop} {I : Addr} {fp wr : List Addr} {n : Nat} {P : Nat → Value → Prop} {St : Nat → Heap → Prop} (W : Walks prog w A.in1 I fp wr n P St) (S : Addr) (hSf : S ∉ fp) (res : Value) :
    ∀ (k i : Nat) (s : Shared) (acc : Array Value) (c : Nat), n - i = k → i ≤ n → St i s.heap → s.heap.get? S = some (listOf acc c) → acc.size + k ≤ sizeLine →
    (∀ h' tk' c' (more : List Value), (∀ b o, b ∉ S :: wr → s.heap.get? b = some o → h'.get? b = some o) → h'.get? S = some (listOf (acc ++ more.toArray) c') → more.length = k → (∀ j v, more[j]? = some v → P (i + j) v) →
      R (.ok (.ret res)) { s with heap := h', toks := tk' }) →
    codeAny (model prog w) A (.builtin "list.extend.loop" ⟨[.ref S, .ref I, res], []⟩) R s := by
  have hSw : S ∉ wr := fun h => hSf (W.sub _ h)
  intro k
  induction k with
  | zero =>
    intro i s acc c hk hi hst hS hz hR
    have hin : i = n := by omega
    subst hin
    refine codeAny_builtin F.entry_extend_loop ?_
    rw [Around.under_plainId F.plain_extend_loop _]
    show wpAny _ A.in1 (pyNext (.ref I) >>= _) _ _ s
    refine wpAny_bind (W.done s _ _ hst fun h' tk' hm => ?_)
    exact wpAny_pure (hR h' tk' c [] (fun b o hb e => hm b o (fun h => hb (List.mem_cons_of_mem _ h)) e) (by simpa using hm S _ hSw hS) rfl (fun j v hj => by simp at hj))
  | succ k ih =>
    intro i s acc c hk hi hst hS hz hR
    have hlt : i < n := by omega
    refine codeAny_builtin F.entry_extend_loop ?_
    rw [Around.under_plainId F.plain_extend_loop _]
    show wpAny _ A.in1 (pyNext (.ref I) >>= _) _ _ s
    refine wpAny_bind (W.item i s _ _ hlt hst fun v h₁ tk₁ hP hst' hm => ?_)
    have hS' := hm S _ hSw hS
    show wpAny _ A.in1 (updateSeq S (·.push v) >>= _) _ _ _
    refine wpAny_bind ?_
    refine wpAny_updateSeq hS' rfl (wpAny_pure ⟨plainId_quiet F.plain_extend_loop _, ih (i + 1) _ (acc.push v) _ (by omega) hlt (W.frame _ h₁ _ hst' fun b hb o e => ?_) (Heap.get?_update_self _ hS' rfl) (by rw [Array.size_push]; omega) fun h' tk' c' more hk' hS'' hlen hP' => ?_⟩)
      (by omega) (by show (acc.push v).size ≤ sizeLine + 1; rw [Array.size_push]; omega)
    · exact (Heap.get?_update_other _ _ (fun h : S = b => hSf (by rw [h]; exact hb))).trans e
    · refine hR h' tk' c' (v :: more) (fun b o hb e => ?_) (by rw [hS'', show acc.push v ++ more.toArray = acc ++ (v :: more).toArray from by apply Array.toList_inj.mp; simp]) (by simp [hlen]) (fun j u hj => ?_)
      · refine hk' b o hb ?_
        exact (Heap.get?_update_other _ _ (fun h : S = b => hb (by rw [h]; exact List.mem_cons_self))).trans (hm b o (fun h => hb (List.mem_cons_of_mem _ h)) e)
      · cases j with
        | zero => simp at hj; subst hj; exact hP
        | succ j => have := hP' j u (by simpa using hj); rwa [show i + (j + 1) = i + 1 + j by omega]

/-- extend from an iterator of a type without len and hint -/
theorem extend_with {T : String} (hT1 : (Value.type T == Value.type "list") = false) (hT2 : (Value.type T == Value.type "tuple") = false)
    (nolen : typeLookup (.type T) "__len__" = pure none) (nohint : typeLookup (.type T) "__length_hint__" = pure none)
    {R : Result → Shared → Prop} {I : Addr} {fp wr : List Addr} {n : Nat} {P : Nat → Value → Prop} {St : Nat → Heap → Prop} (W : Walks prog w A.in1 I fp wr n P St)
    (hT : ∀ i (s : Shared), St i s.heap → s.TypeIs (.ref I) T) (S : Addr) (hSf : S ∉ fp) (hI : I ∈ fp) (res : Value) {acc : Array Value} {c : Nat} (hst : St 0 s.heap) (hS : s.heap.get? S = some (listOf acc c)) (hz : acc.size + n < sizeLine)
    (hR : ∀ h' tk' c' (more : List Value), (∀ b o, b ∉ S :: wr → s.heap.get? b = some o → h'.get? b = some o) → h'.get? S = some (listOf (acc ++ more.toArray) c') → more.length = n → (∀ j v, more[j]? = some v → P j v) →
      R (.ok (.ret res)) { s with heap := h', toks := tk' }) :
    wpAny (model prog w) A.in1 (Builtin.List.listExtendWith (.ref S) (.ref I) res)
      (fun fin s' => match fin with | .done f => R (.ok f) s' | .again c' => c'.quiet = true ∧ codeAny (model prog w) A c' R s') (fun e s' => R (.error e) s') s := by
  have hSI : S ≠ I := fun e => hSf (e ▸ hI)
  unfold Builtin.List.listExtendWith
  refine wpAny_bind (wpAny_typeOf (hT 0 _ hst) ?_)
  have h1 : Builtin.List.listSameRef (.ref S) (.ref I) = false := by simp [Builtin.List.listSameRef, hSI]
  simp only [h1, hT1, hT2, Bool.or_false, Bool.false_eq_true, if_false]
  refine wpAny_bind (W.self 0 _ _ _ hst ?_)
  refine wpAny_bind (wpAny_holding ?_)
  unfold Builtin.List.listLengthHint
  refine wpAny_bind (wpAny_specialOf (hT 0 _ hst) nolen ?_)
  show wpAny _ A.in1 (specialOf (Value.ref I) (Str.ofString "__length_hint__") >>= _) _ _ _
  refine wpAny_bind (wpAny_specialOf (hT 0 _ hst) nohint ?_)
  refine wpAny_pure ?_
  show wpAny _ A.in1 (rule "list.extend.makes-room" >>= fun _ => Builtin.List.listTouch (.ref S) >>= fun _ =>
    again (.builtin "list.extend.loop" ⟨[.ref S, .ref I, res], []⟩)) _ _ _
  refine wpAny_bind (wpAny_rule ?_)
  refine wpAny_bind ?_
  show wpAny _ A.in1 (updateSeq S (·.push .none) >>= fun _ => updateSeq S (·.pop)) _ _ _
  refine wpAny_bind (wpAny_updateSeq hS rfl ?_ (by omega) (by rw [Array.size_push]; omega))
  have hS₂ := Heap.get?_update_self (Obj.mapSeq (·.push Value.none)) hS rfl
  refine wpAny_updateSeq hS₂ rfl ?_ (by show (acc.push _).size ≤ _; rw [Array.size_push]; omega) (by show ((acc.push _).pop).size ≤ _; rw [Array.size_pop, Array.size_push]; omega)
  have hS₃ := Heap.get?_update_self (Obj.mapSeq (·.pop)) hS₂ rfl
  have hpp : (acc.push Value.none).pop = acc := by simp
  have hS₄ : ((s.heap.update S (Obj.mapSeq (·.push Value.none))).update S (Obj.mapSeq (·.pop))).get? S = some (listOf acc (if ((acc.push Value.none).pop).size == (acc.push Value.none).size then (if (acc.push Value.none).size == acc.size then c else c + 1) else (if (acc.push Value.none).size == acc.size then c else c + 1) + 1)) := by
    rw [hS₃]; simp only [Obj.mapSeq, hpp]
  have oth : ∀ b o, b ≠ S → s.heap.get? b = some o → ((s.heap.update S (Obj.mapSeq (·.push Value.none))).update S (Obj.mapSeq (·.pop))).get? b = some o :=
    fun b o hb e => (Heap.get?_update_other _ _ (Ne.symm hb)).trans ((Heap.get?_update_other _ _ (Ne.symm hb)).trans e)
  refine wpAny_pure ⟨plainId_quiet F.plain_extend_loop _, extend_loop W S hSf res n 0 _ acc _ rfl (Nat.zero_le _)
    (W.frame 0 s.heap _ hst fun b hb o e => oth b o (fun h => hSf (h ▸ hb)) e) hS₄ (by omega) fun h' tk' c' more hk hS' hlen hP => ?_⟩
  exact hR h' tk' c' more (fun b o hb e => hk b o hb (oth b o (fun h => hb (h ▸ List.mem_cons_self)) e)) hS' hlen (fun j v hj => by have := hP j v hj; rwa [Nat.zero_add] at this)

/-- list(M), M an iterator of a type without len and hint -/
theorem list_call {T : String} (hT1 : (Value.type T == Value.type "list") = false) (hT2 : (Value.type T == Value.type "tuple") = false)
    (nolen : typeLookup (.type T) "__len__" = pure none) (nohint : typeLookup (.type T) "__length_hint__" = pure none)
    {I : Addr} {fp wr : List Addr} {n : Nat} {P : Nat → Value → Prop} {St : Nat → Heap → Prop} (W : Walks prog w A.in1.in1 I fp wr n P St)
    (hT : ∀ i (s : Shared), St i s.heap → s.TypeIs (.ref I) T) (hfp : ∀ b ∈ fp, b < s.heap.objs.size) (hI : I ∈ fp) (hst : St 0 s.heap) (hz : n < sizeLine) {Q : Value → Shared → Prop}
    (hQ : ∀ h' tk' c' (more : List Value), (∀ b o, b ∉ wr → s.heap.get? b = some o → h'.get? b = some o) → h'.get? s.heap.objs.size = some (listOf more.toArray c') → more.length = n → (∀ j v, more[j]? = some v → P j v) →
      Q (.ref s.heap.objs.size) { s with heap := h', toks := tk' }) :
    wpAny (model prog w) A (call (.type "list") [.ref I]) Q E s := by
  have hSf : s.heap.objs.size ∉ fp := fun hm => Nat.lt_irrefl _ (hfp _ hm)
  refine callType_codes (Q₁ := fun obj s₁ => obj = .ref s.heap.objs.size ∧ s₁ = { s with heap := s.heap.push { cls := .type "list", data := .seq #[] } }) F.called_list (F.typeCall_list_1 _) F.entry_list_init
    (code_list_new _ ⟨rfl, rfl⟩) fun obj s₁ h₁ => ?_
  obtain ⟨rfl, rfl⟩ := h₁
  have hS : (s.heap.push { cls := .type "list", data := .seq #[] }).get? s.heap.objs.size = some { cls := .type "list", data := .seq #[] } := Heap.get?_push_size _ rfl
  refine ⟨⟨_, hS, rfl⟩, F.args_list_init_2 _ _, ?_⟩
  show wpAny _ A.in1.in1 (do let old ← Builtin.List.listItems (.ref s.heap.objs.size); Builtin.List.listUpdate (.ref s.heap.objs.size) (fun _ => #[]); letGo old.toList.reverse; Builtin.List.listExtendWith (.ref s.heap.objs.size) (.ref I) .none) _ _ _
  refine wpAny_bind ?_
  unfold Builtin.List.listItems
  refine wpAny_bind (wpAny_seqItems hS rfl (wpAny_pure ?_))
  show wpAny _ A.in1.in1 (updateSeq s.heap.objs.size (fun _ => #[]) >>= fun _ => letGo (#[] : Array Value).toList.reverse >>= fun _ => Builtin.List.listExtendWith (.ref s.heap.objs.size) (.ref I) .none) _ _ _
  refine wpAny_bind (wpAny_updateSeq hS rfl ?_)
  have hS₂ := Heap.get?_update_self (Obj.mapSeq (fun _ => (#[] : Array Value))) hS rfl
  have hS₃ : ((s.heap.push { cls := .type "list", data := .seq #[] }).update s.heap.objs.size (Obj.mapSeq (fun _ => (#[] : Array Value)))).get? s.heap.objs.size = some (listOf #[] 0) := by rw [hS₂]; rfl
  have oth : ∀ b o, s.heap.get? b = some o → ((s.heap.push { cls := .type "list", data := .seq #[] }).update s.heap.objs.size (Obj.mapSeq (fun _ => (#[] : Array Value)))).get? b = some o :=
    fun b o e => (Heap.get?_update_other _ _ (Nat.ne_of_gt (Heap.lt_size e))).trans (Heap.get?_push_of_some _ e)
  refine wpAny_bind (wpAny_letGo ?_)
  refine extend_with hT1 hT2 nolen nohint W hT _ hSf hI .none (W.frame 0 s.heap _ hst fun b hb o e => oth b o e) hS₃ (by simpa using hz) fun h' tk' c' more hk hS' hlen hP => ?_
  refine ⟨rfl, hQ h' tk' c' more (fun b o hb e => hk b o (fun hm => ?_) (oth b o e)) (by simpa using hS') hlen hP⟩
  rcases List.mem_cons.mp hm with h | h
  · exact absurd (Heap.lt_size e) (by rw [h]; exact Nat.lt_irrefl _)
  · exact hb h

end
end Mine
end

section
namespace Mine

section
variable {M : Model} {A : Around} {E : Value → Shared → Prop} {s : Shared}
end

section
variable {prog : Program} {w : World} {A : Around} {E : Value → Shared → Prop} {s : Shared}
end
end Mine
end

section
open PySem.Calls
namespace Mine

section
variable {prog : Program} {w : World} {A A₀ : Around} {E : Value → Shared → Prop} {s : Shared} {K : Frag} {L : Addr} {h₀ base : Heap} {m mg mb : Str → Option Value} {p : Program} {loose : List Str} {mean : ExcName → Option Value}

end

section
variable {prog : Program} {w : World} {A A₀ : Around} {E : Value → Shared → Prop} {s : Shared} {K : Frag} {L : Addr} {h₀ base : Heap} {m mg mb : Str → Option Value} {p : Program} {loose : List Str} {mean : ExcName → Option Value}
  {news : List (Addr × Obj)}

theorem Fr.grow {h h' : Heap} (F : Fr h₀ L h m) (hk : Grow h h') : Fr h₀ L h' m := ⟨F.ns.at' fun o e => hk _ o e, fun b o e => hk b o (F.keep b o e), F.above⟩
theorem News.grow {h h' : Heap} (N : News h₀ L h news) (hk : Grow h h') : News h₀ L h' news := fun q hq => ⟨hk _ _ (N q hq).1, (N q hq).2⟩

theorem map_K {f : Value} {l : Addr} {xs : Array Value} {n : Nat} {Q : Value → Shared → Prop} (F : Fr h₀ L s.heap m) (N : News h₀ L s.heap news) (hl : (l, listOf xs n) ∈ news)
    (h : ∀ M T I h', Fr h₀ L h' m → News h₀ L h' ((M, mapObj T f) :: (T, oneObj I) :: (I, lisObj l) :: news) → (∀ p ∈ news, p.1 < I) → @LT.lt Nat _ I T → @LT.lt Nat _ T M → Q (.ref M) { s with heap := h' }) :
    wpAny (model prog w) A (call (.type "map") [f, .ref l]) Q E s := by
  refine call_map (xs := xs) ⟨_, (N _ hl).1, rfl, _, rfl⟩ fun h' e1 e2 e3 hg => ?_
  obtain ⟨oL, _, _, hL, _⟩ := F.ns
  have lt : ∀ {b o}, s.heap.get? b = some o → b < s.heap.objs.size := fun e => Heap.lt_size e
  have nn : ∀ b, s.heap.objs.size ≤ b → h₀.get? b = none := fun b hb => by
    cases q : h₀.get? b with
    | none => rfl
    | some o => exact absurd (lt (F.keep _ _ q)) (Nat.not_lt.mpr hb)
  have hne : ∀ b, s.heap.objs.size ≤ b → b ≠ L := fun b hb e => absurd (lt hL) (Nat.not_lt.mpr (e ▸ hb))
  refine h _ _ _ h' (Fr.grow F hg) (fun q hq => ?_) (fun q hq => lt (N q hq).1) (Nat.lt_succ_self _) (Nat.lt_succ_self _)
  rcases List.mem_cons.mp hq with rfl | hq
  · exact ⟨e1, hne _ (by omega), nn _ (by omega)⟩
  · rcases List.mem_cons.mp hq with rfl | hq
    · exact ⟨e2, hne _ (by omega), nn _ (by omega)⟩
    · rcases List.mem_cons.mp hq with rfl | hq
      · exact ⟨e3, hne _ (by omega), nn _ (by omega)⟩
      · exact ⟨hg _ _ (N q hq).1, (N q hq).2⟩

end
end Mine
end

section
open PySem.Calls
namespace Mine

/-- the pieces between the stars -/
def cut (c : Nat) : List Nat → List (List Nat)
  | [] => [[]]
  | a :: r => if a = c then [] :: cut c r else match cut c r with
    | p :: ps => (a :: p) :: ps
    | [] => [[a]]
theorem cut_ne (c : Nat) (l : List Nat) : cut c l ≠ [] := by
  cases l with
  | nil => simp [cut]
  | cons a r => unfold cut; split
                · simp
                · split <;> simp
def glue (c : Nat) : List (List Nat) → List Nat
  | [] => []
  | [p] => p
  | p :: q :: r => p ++ c :: glue c (q :: r)
theorem cut_append (c : Nat) : ∀ p r : List Nat, c ∉ p → cut c (p ++ r) = match cut c r with | q :: qs => (p ++ q) :: qs | [] => []
  | [], r, _ => by cases h : cut c r with
    | nil => exact absurd h (cut_ne c r)
    | cons q qs => simp [h]
  | a :: p, r, h => by
    have ha : a ≠ c := fun e => h (by simp [e])
    have ih := cut_append c p r (fun e => h (by simp [e]))
    cases hr : cut c r with
    | nil => exact absurd hr (cut_ne c r)
    | cons q qs =>
      rw [hr] at ih
      simp only [List.cons_append, cut, if_neg ha, ih]
theorem cut_glue (c : Nat) : ∀ ps : List (List Nat), ps ≠ [] → (∀ p ∈ ps, c ∉ p) → cut c (glue c ps) = ps
  | [], h, _ => absurd rfl h
  | [p], _, hf => by
    have := cut_append c p [] (hf p (by simp))
    simpa [glue, cut] using this
  | p :: q :: r, _, hf => by
    have ih := cut_glue c (q :: r) (by simp) (fun x hx => hf x (by simp [hx]))
    have := cut_append c p (c :: glue c (q :: r)) (hf p (by simp))
    simpa [glue, cut, ih] using this
def lis (x : Str) : List Nat := x.cps.toList
def ofL (l : List Nat) : Str := ⟨l.toArray⟩
@[simp] theorem ofL_lis (x : Str) : ofL (lis x) = x := by simp [lis, ofL]
theorem lis_inj {x y : Str} (h : lis x = lis y) : x = y := by rw [← ofL_lis x, h, ofL_lis]
theorem lis_append (x y : Str) : lis (x ++ y) = lis x ++ lis y := by
  show (Str.append x y).cps.toList = _
  simp [Str.append, lis]
theorem length_lis (x : Str) : x.length = (lis x).length := by simp [Str.length, lis]
theorem glue_join (c : Nat) : ∀ ps : List Str, lis (Str.join ⟨#[c]⟩ ps) = glue c (ps.map lis)
  | [] => rfl
  | [p] => rfl
  | p :: q :: r => by
    have ih := glue_join c (q :: r)
    show lis (p ++ ⟨#[c]⟩ ++ Str.join ⟨#[c]⟩ (q :: r)) = _
    rw [lis_append, lis_append, ih]
    simp [glue, lis]
theorem split_ne (x y : Str) : Txt.split x y ≠ [] := by
  unfold Txt.split
  split
  · simp
  · split
    · simp
    · intro h
      rw [StrLaws.partsBetween_eq] at h
      cases hc : Builtin.Str.occurrences x y 0 x.length (x.length + 1) with
      | nil => rw [hc] at h; simp [StrLaws.partsFrom] at h
      | cons a r => obtain ⟨p, q, e⟩ := StrLaws.partsFrom_ne x y.length 0 (a :: r); rw [hc, e] at h; cases h
theorem split_cut (x : Str) (c : Nat) : (Txt.split x ⟨#[c]⟩).map lis = cut c (lis x) := by
  have h := StrLaws.join_split x ⟨#[c]⟩
  have h2 := glue_join c (Txt.split x ⟨#[c]⟩)
  rw [h] at h2
  rw [h2, cut_glue]
  · intro e; exact split_ne x _ (List.map_eq_nil_iff.mp e)
  · intro p hp
    obtain ⟨q, hq, rfl⟩ := List.mem_map.mp hp
    exact StrLaws.split_free x c q hq
end Mine
end

section
open PySem.Calls
namespace Mine
section
variable {prog : Program} {w : World} {A : Around} {E : Value → Shared → Prop} {s : Shared} {h₀ : Heap} {L D : Addr} {m : Str → Option Value} {news news' : List (Addr × Obj)} {vs : List Value} {c : Nat}

/-- the place that an index means -/
def place (k : Int) (n : Nat) : Nat := if k < 0 then (k + n).toNat else k.toNat

theorem get_L {k : Int} {u : Tok} {x : Value} {Q : Value → Shared → Prop} (N : News h₀ L s.heap news) (hm : (D, listOf vs.toArray c) ∈ news) (h0 : -(vs.length : Int) ≤ k) (h1 : k < vs.length) (hfit : (vs.length : Int) < 2 ^ 63)
    (hx : vs[place k vs.length]? = some x) (h : Q x s) : wpAny (model prog w) A (getItem (.ref D) (.int k u)) Q E s := by
  have hl : s.heap.IsList D vs.toArray := ⟨_, (N _ hm).1, rfl, c, rfl⟩
  unfold place at hx
  by_cases hk : k < 0
  · rw [if_pos hk] at hx
    exact wpAny_getItem_list_neg hl hk (by simpa using h0) (by omega) (by simpa using hx) h
  · rw [if_neg hk] at hx
    exact wpAny_getItem_list hl (by omega) (by omega) (by simpa using hx) h

theorem sub_L {value slice : Expr} {k : Int} {u : Tok} {x : Value} {Q : Value → Shared → Prop} (N : News h₀ L s.heap news) (hm : (D, listOf vs.toArray c) ∈ news) (h0 : -(vs.length : Int) ≤ k) (h1 : k < vs.length) (hfit : (vs.length : Int) < 2 ^ 63)
    (hx : vs[place k vs.length]? = some x) (h : Q x s)
    (hs : subscripted slice false (.ref D) (.int k u) = operate [.ref D, .int k u] (getItem (.ref D) (.int k u)) := by with_unfolding_all rfl) :
    wpAny (model prog w) A (subscriptTail value slice (.ref D) (.int k u)) Q E s :=
  tail_any ⟨_, (N _ hm).1, rfl⟩ slot_list_getitem.lookup (get_L N hm h0 h1 hfit hx h) hs

end

section
variable {prog : Program} {w : World} {A : Around} {E : Value → Shared → Prop} {s : Shared} {h₀ : Heap} {L D : Addr} {m : Str → Option Value} {news news' : List (Addr × Obj)} {ys : List (Str × Tok)} {c : Nat}
theorem strValues_length (ys : List (Str × Tok)) : (strValues ys).length = ys.length := by simp [strValues]
theorem sub_T {value slice : Expr} {k : Int} {u : Tok} {x : Str × Tok} {Q : Value → Shared → Prop} (N : News h₀ L s.heap news) (hm : (D, listOf (strValues ys).toArray c) ∈ news) (h0 : -(ys.length : Int) ≤ k) (h1 : k < ys.length) (hfit : (ys.length : Int) < 2 ^ 63)
    (hx : ys[place k ys.length]? = some x) (h : Q (.str x.1 x.2) s)
    (hs : subscripted slice false (.ref D) (.int k u) = operate [.ref D, .int k u] (getItem (.ref D) (.int k u)) := by with_unfolding_all rfl) :
    wpAny (model prog w) A (subscriptTail value slice (.ref D) (.int k u)) Q E s := by
  rw [← strValues_length ys] at h0 h1 hfit
  refine sub_L N hm h0 h1 hfit ?_ h hs
  rw [strValues_length]; unfold strValues; rw [List.getElem?_map, hx]; rfl
theorem join_T {sep : Str} {t : Tok} {B : Nat} {Q : Value → Shared → Prop} (N : News h₀ L s.heap news) (hm : (D, listOf (strValues ys).toArray c) ∈ news) (hB : ∀ y ∈ ys, y.1.length ≤ B) (hsz : ys.length * B + ys.length * sep.length ≤ 16777216)
    (h : ∀ t' k, Q (.str (Str.join sep (ys.map (·.1))) t') { s with toks := k }) : wpAny (model prog w) A (call (.builtin "str.join") [.str sep t, .ref D]) Q E s := by
  refine SC.join (texts := ys.map (·.1)) ⟨_, (N _ hm).1, rfl, c, rfl⟩ rfl ?_ ?_
  · have := StrLaws.joinFits (sep := sep) (texts := ys.map (·.1)) (B := B) (fun y hy => by obtain ⟨z, hz, rfl⟩ := List.mem_map.mp hy; exact hB z hz) (by simpa using hsz)
    unfold JoinOk
    simpa using this
  · intro t' k
    have := h t' k
    rwa [← StrLaws.glued_eq_join] at this
end
end Mine
namespace Mine
end Mine
namespace Mine
theorem strLen_append (x y : Str) : (x ++ y).length = x.length + y.length := by rw [length_lis, length_lis x, length_lis y, lis_append, List.length_append]
theorem empty_append (x : Str) : Str.empty ++ x = x := lis_inj (by rw [lis_append]; rfl)
end Mine
end

section
open PySem.Calls
namespace Mine

end Mine
namespace Mine
section
variable {prog : Program} {w : World} {A A₀ : Around} {E : Value → Shared → Prop} {s : Shared} {K : Frag} {L : Addr} {h₀ base : Heap} {m mg mb : Str → Option Value} {p : Program} {loose : List Str} {mean : ExcName → Option Value}
  {news : List (Addr × Obj)}
end
/-- a mark: the walk stands still here -/
def Stop (P : Prop) : Prop := P
theorem stop {P : Prop} (h : Stop P) : P := h
section
variable {n : Nat} {p f l : Str} {s : Int}
end
end Mine
namespace Mine
theorem fmod_lt {x m : Int} (hm : 0 < m) : 0 ≤ x.fmod m ∧ x.fmod m < m := ⟨Int.fmod_nonneg_of_pos x hm, Int.fmod_lt_of_pos x hm⟩
end Mine
namespace Mine
end Mine
end

section
open PySem.Calls
namespace Mine

section
variable {prog : Program} {w : World} {A A₀ : Around} {E : Value → Shared → Prop} {s : Shared} {K : Frag} {L : Addr} {h₀ base : Heap} {m mg mb : Str → Option Value} {p : Program} {loose : List Str} {mean : ExcName → Option Value}

end
end Mine
end

section
open PySem.Calls
namespace Mine
section
variable {prog : Program} {w : World} {A A₀ : Around} {E : Value → Shared → Prop} {s : Shared} {K : Frag} {L : Addr} {h₀ base : Heap} {m mg mb : Str → Option Value} {p : Program} {loose : List Str} {mean : ExcName → Option Value}

end
end Mine
end

section
open PySem.Calls
namespace Mine
/-- a way of a call's end: what it says of the ghost and of the heap behind; cells that were handed over stand as they were -/
def PuRX (s : Shared) (cells : List (Addr × Obj)) (g : Heap) (V : Heap → Heap → Value → Prop) (r : Result) (s' : Shared) : Prop :=
  match r with | .ok (.ret v) => V g s'.heap v ∧ (∃ h' tk', s' = { s with heap := h', toks := tk' }) ∧ ∀ q ∈ cells, s'.heap.get? q.1 = some q.2 | _ => False
section
variable {prog : Program} {w : World} {A A₀ : Around} {E : Value → Shared → Prop} {s : Shared} {K : Frag} {L : Addr} {h₀ base : Heap} {m mg mb : Str → Option Value} {p : Program} {loose : List Str} {mean : ExcName → Option Value}
abbrev ghost (s : Shared) (cells : List (Addr × Obj)) : Heap := hideAll s.heap (cells.map (fun q : Addr × Obj => q.1))
theorem ghost_none {s : Shared} {cells : List (Addr × Obj)} {D : Addr} (h : (ghost s cells).get? D = none) (hc : ∀ q ∈ cells, q.1 ≠ D) : s.heap.get? D = none := by
  cases e : s.heap.get? D with
  | none => rfl
  | some o =>
    have := hideAll_get (cells.map (fun q : Addr × Obj => q.1)) e (by
      intro hm
      obtain ⟨q, hq, e'⟩ := List.mem_map.mp hm
      exact hc q hq e')
    rw [h] at this; cases this
theorem grow_of {cells : List (Addr × Obj)} {h' : Heap} (N : News h₀ L s.heap cells) (hk : ∀ b o, (ghost s cells).get? b = some o → h'.get? b = some o) (hc : ∀ q ∈ cells, h'.get? q.1 = some q.2) : Grow s.heap h' := fun b o e => by
  by_cases hb : b ∈ cells.map (fun q : Addr × Obj => q.1)
  · obtain ⟨q, hq, rfl⟩ := List.mem_map.mp hb
    have e' := (N q hq).1
    rw [e] at e'
    cases e'
    exact hc q hq
  · exact hk b o (hideAll_get _ e hb)

/-- a def with cells of its own -/
theorem code_pureX {env : Env} {outer : List Env} {R : Result → Shared → Prop} {name qual : Str} {params : Arguments} {body : List Stmt} {scope : Scope} {dV kV doc pm cdv ct oc : Value} {an od : Option Addr} {osl : Array (Option Value)} {f : Addr} {args : Args} {binds : List (Str × Value)} {cells : List (Addr × Obj)}
    (V : Heap → Heap → Value → Prop) (hR : ∀ v h' tk', V (ghost s cells) h' v → Grow s.heap h' → R (.ok (.ret v)) { s with heap := h', toks := tk' })
    (B : Below A₀ base outer h₀) (F : Fr h₀ L s.heap m) (X₀ : K.In h₀) (N : News h₀ L s.heap cells) (T : Top p loose mean mg mb h₀) (hA : A.frames = some (env :: outer)) (hf : env.frame = some L) (hke : env.scope.kind = .function)
    (ho : K.lookup f = some ⟨oc, od, .func (fnOf name qual params body scope dV kV doc pm an cdv ct), osl⟩) (hcd : codeIn K cdv qual = true) (hroom : A.depth < recursionLimit)
    (hbind : BindsTo s (fnOf name qual params body scope dV kV doc pm an cdv ct) args binds) (hkind : (binds.all fun y => scope.names.lookup y.1 == some .local || scope.names.lookup y.1 == some .cell) = true)
    (hnd : ((cellsFrom 0 scope.names []).map (·.1)).Nodup)
    (h : ∀ g L' h₁ tk cs, Fr h₀ L g m → Fr g L' h₁ (bindL (envOfC qual scope L' f cdv).kindOf binds fun _ => none) → News g L' h₁ (cs ++ cells) →
      CellsAre (bindC (envOfC qual scope L' f cdv).kindOf binds fun _ => none) (cellsFrom (L' + 1) scope.names []) cs → Below A base (env :: outer) g → K.In g → Top p loose mean mg mb g → (∀ p ∈ cells, p.1 < L') →
      wpAny (model prog w) (A.deeper (envOfC qual scope L' f cdv)) (execs body (envOfC qual scope L' f cdv))
        (fun fl s' => LeaveK h₀ L m g (PuRX s cells g V) (match fl with | .ret v => v | _ => .none) s')
        (fun _ _ => False)
        { s with heap := h₁, toks := tk })
    (hco : scope.isCoroutine = false) (hgen : scope.isGenerator = false) (hk : scope.kind = .function) : codeAny (model prog w) A (.call (.ref f) args) R s := by
  obtain ⟨FG, BG, st, lv⟩ := groundX (R := PuRX s cells (ghost s cells) V) B F N hA hf hke
  have X := X₀.keeps F.keep
  have hcd' := codeRec_of X hcd
  have hlim := T.nolimit
  refine codeAny_call_function hroom (X _ _ ho) rfl hco hgen rfl hcd' (hbind _ _ _ _ ?_)
  refine wpAny_newFunctionEnv_cells hk (kindsX hkind _) fun env' he s' x => ?_
  subst he
  refine ⟨(hlim.keeps F.keep).keeps x.toInCall.keep, codeAny_func ?_⟩
  obtain ⟨h₁, tk, rfl, _⟩ := x.done
  have hk₁ := x.toInCall.keep
  obtain ⟨cs, NC, Y⟩ := Cl.news (h₀ := s.heap) (Nat.le_refl _) fun n c hm => ⟨x.cell n c (lookup_of_mem_nodup (cellsFrom_names scope.names 0 (s.heap.objs.size + 1) [] [] rfl ▸ hnd) hm), x.above n c hm⟩
  refine wpAny_mono (h (ghost s cells) s.heap.objs.size h₁ tk cs FG ⟨x.toInCall.ns, fun b o e => hk₁ b o (of_hideAll _ e), Nat.le_of_eq (hideAll_size _ _)⟩ (fun p hp => ?_) Y BG (X₀.keeps st) (T.keeps st) (fun p hp => Heap.lt_size (N p hp).1)) (fun fl s' hl => ?_) fun _ _ y => y.elim
  · rcases List.mem_append.mp hp with hp | hp
    · refine ⟨(NC p hp).1, (NC p hp).2.1, ?_⟩
      cases q : (ghost s cells).get? p.1 with
      | none => rfl
      | some o => have := of_hideAll _ q; rw [(NC p hp).2.2] at this; cases this
    · exact ⟨hk₁ _ _ (N p hp).1, Nat.ne_of_lt (Heap.lt_size (N p hp).1), hideAll_none _ (List.mem_map_of_mem hp)⟩
  have hg : ∀ b o, (ghost s cells).get? b = some o → s'.heap.get? b = some o := by
    obtain ⟨_, _, _, F', _, _⟩ := hl
    exact F'.keep
  obtain ⟨hv, ⟨h', tk', rfl⟩, hc⟩ := lv _ _ hl
  exact hR _ _ _ hv (grow_of N hg hc)

/-- a def that reads cells and changes nothing that stood -/
abbrev PureFnX (n : Nat) (prog : Program) (w : World) (K : Frag) (p : Program) (loose : List Str) (mean : ExcName → Option Value) (mg mb : Str → Option Value) (f : Addr) (vs : List Value) (cells : List (Addr × Obj)) (V : Heap → Heap → Value → Prop) : Prop :=
  ∀ (dp un : Nat) (gd : Option (List Code)) (cn : Str) (cs : Scope) (a : Addr) (ccd : Value) (cl : List (Str × Addr)) (outer : List Env) (A₀ : Around) (base h₀ : Heap) (L : Addr) (m : Str → Option Value) (s : Shared) (Q E : Value → Shared → Prop),
    Below A₀ base outer h₀ → Fr h₀ L s.heap m → News h₀ L s.heap cells → K.In h₀ → Top p loose mean mg mb h₀ → cs.kind = .function → dp + n < recursionLimit → un + 8 * n < cLine →
      (∀ v h' tk', V (ghost s cells) h' v → Grow s.heap h' → Q v { s with heap := h', toks := tk' }) →
      wpAny (model prog w) (ktrTop dp un gd cn cs L a ccd cl outer) (call (.ref f) vs) Q E s

end

section
variable {prog : Program} {w : World} {A : Around} {h₀ : Heap} {L : Addr} {m : Str → Option Value} {env : Env} {ct elt : Expr} {x : Str} {scope : Scope} {cl : List (Str × Addr)} {s : Shared} {S : List (Addr × Obj) → Prop} {Fin : List Value → List (Addr × Obj) → Prop} {news : List (Addr × Obj)}
open LCg LCt
end
end Mine
end

section
open PySem.Calls
namespace Mine

section
variable {prog : Program} {w : World} {A : Around} {E : Value → Shared → Prop} {s : Shared} {h₀ : Heap} {L : Addr} {m : Str → Option Value} {news : List (Addr × Obj)}
end
section
variable {prog : Program} {w : World} {A : Around} {E : Value → Shared → Prop} {s : Shared}
end
end Mine
end

section
open PySem.Calls
namespace Mine
section
variable {prog : Program} {w : World} {A : Around} {E : Value → Shared → Prop} {s : Shared} {a b : Addr} {xs : List Value} {Q : Value → Shared → Prop}
theorem eq_none (ha : s.heap.IsList a xs.toArray) (hb : s.heap.IsList b #[]) (hu : A.units < cLine) (hx : xs = []) (h : Q (.bool true) s) : wpAny (model prog w) A (compareOp .Eq (.ref a) (.ref b)) Q E s := by
  subst hx
  exact PySem.SeqAt.RcAt.lists (e := fun _ => true) ha hb rfl hu (fun j h1 _ => absurd h1 (by simp)) prog w E Q (by simpa using h)
theorem eq_some (ha : s.heap.IsList a xs.toArray) (hb : s.heap.IsList b #[]) (hu : A.units < cLine) (hx : xs ≠ []) (h : Q (.bool false) s) : wpAny (model prog w) A (compareOp .Eq (.ref a) (.ref b)) Q E s :=
  PySem.SeqAt.RcAt.lists_lengths ha hb (by cases xs with | nil => exact absurd rfl hx | cons _ _ => simp) hu prog w E Q h
end
end Mine
end

section
open PySem.Calls
namespace Mine
def GrowEnd (h₀ : Heap) (L : Addr) (J : (Str → Option Value) → List (Addr × Obj) → Prop) (own : List (Addr × Obj)) (s₁ s₂ : Shared) : Prop :=
  ∃ h' tk m' news' nx, s₂ = { s₁ with heap := h', toks := tk } ∧ Fr h₀ L h' m' ∧ News h₀ L h' news' ∧ (∀ p ∈ nx, p ∈ news') ∧ (∀ p ∈ own, p ∈ news') ∧ OwnOff own (nx.map (·.1)) ∧ J m' nx
def GrowPost (h₀ : Heap) (L : Addr) (J : (Str → Option Value) → List (Addr × Obj) → Prop) (own : List (Addr × Obj)) (s₁ : Shared) (Q : Flow → Shared → Prop) (f : Flow) (s₂ : Shared) : Prop :=
  match f with
  | .ret v => Q (.ret v) s₂
  | .brk => Q .next s₂
  | _ => GrowEnd h₀ L J own s₁ s₂
section
variable {prog : Program} {w : World} {A : Around} {E : Value → Shared → Prop} {s : Shared} {env : Env} {h₀ : Heap} {x : Str} {body : List Stmt} {Q : Flow → Shared → Prop}
theorem iter_grow {l : Addr} {vs : List Value} {ns : List Int} {m₀ : Str → Option Value} {news : List (Addr × Obj)} (J : Nat → (Str → Option Value) → List (Addr × Obj) → Prop)
    (hh : A.handled = none) (hl : h₀.IsList l vs.toArray) (hi : IntsAre vs ns) (F : Fr h₀ env.locals s.heap m₀) (N : News h₀ env.locals s.heap news) (hj : J 0 m₀ news)
    (turn : ∀ i n t m₁ news₁ h tk own, ns[i]? = some n → OwnOff own (news₁.map (·.1)) → J i m₁ news₁ → Fr h₀ env.locals h (fun y => if y = x then some (.int n t) else m₁ y) → News h₀ env.locals h (news₁ ++ own) →
      wpAny (model prog w) A (execs body env) (GrowPost h₀ env.locals (J (i + 1)) own { s with heap := h, toks := tk } Q) E { s with heap := h, toks := tk })
    (done : ∀ m₁ news₁ h tk, J ns.length m₁ news₁ → Fr h₀ env.locals h m₁ → News h₀ env.locals h news₁ → Q .next { s with heap := h, toks := tk }) :
    wpAny (model prog w) A (pyIter (.ref l)) (fun it s₂ => LoopAtV prog w A h₀ env x body Q E it s₂) E s := by
  have hls : s.heap.IsList l vs.toArray := hl.at fun o e => F.keep l o e
  obtain ⟨ol, hol, _⟩ := id hl
  have hlt : l < h₀.objs.size := Heap.lt_size hol
  have hne : l ≠ s.heap.objs.size := Nat.ne_of_lt (Nat.lt_trans (Nat.lt_of_lt_of_le hlt F.above) F.ns.lt)
  refine wpAny_pyIter_list hls ?_
  have W := Walks.list (prog := prog) (w := w) hh s.heap.objs.size l hne vs.toArray
  have hlen : vs.toArray.size = ns.length := by simp [hi.length]
  rw [hlen] at W
  have hI₀ : h₀.get? s.heap.objs.size = none := next_is_new F
  refine ⟨_, _, _, ns.length, _, _, m₀, news, J, rfl, W, ?_, ?_, ?_, ⟨⟨_, Heap.get?_push_size _ rfl, rfl, rfl⟩, hls.at fun o e => Heap.get?_push_of_some _ e⟩, F.push _, (fun p hp => ⟨Heap.get?_push_of_some _ (N p hp).1, (N p hp).2⟩), hj, ?_, ?_⟩
  · intro hm
    rcases List.mem_cons.mp hm with e | hm
    · exact absurd F.ns.lt (e ▸ Nat.lt_irrefl _)
    · exact absurd (Nat.lt_of_lt_of_le hlt F.above) ((List.mem_singleton.mp hm) ▸ Nat.lt_irrefl _)
  · intro b hb
    rw [List.mem_singleton.mp hb]
    exact hI₀
  · intro p hp hI
    exact absurd (Heap.lt_size (N p hp).1) ((List.mem_singleton.mp hI) ▸ Nat.lt_irrefl _)
  · rintro i v m₁ news₁ s₁ own ⟨hh', tk', rfl⟩ hin hP hJ hoff hown _ hfull hst F₁ N₁
    have hsep : OwnOff own (news₁.map (·.1)) := by
      intro p hp b hb e
      obtain ⟨q, hq, rfl⟩ := List.mem_map.mp hb
      rcases List.mem_cons.mp (hown p hp) with h1 | h1
      · exact hoff q hq (List.mem_singleton.mpr (by rw [← e, h1]))
      · have h2 := List.mem_singleton.mp h1
        have h3 := (N₁ p (List.mem_append.mpr (.inl hp))).2.2
        rw [h2, hol] at h3
        cases h3
    have hlt' : i < ns.length := hin
    obtain ⟨t, hx⟩ := hi.get i ns[i] (by simp [hlt'])
    have hv : v = .int ns[i] t := by
      have hP' : vs[i]? = some v := by simpa using hP
      rw [hx] at hP'; exact (Option.some.inj hP').symm
    subst hv
    have N₂ : News h₀ env.locals hh' (news₁ ++ own) := fun p hp => N₁ p ((List.mem_append.mp hp).elim (fun h => List.mem_append.mpr (.inr h)) fun h => List.mem_append.mpr (.inl h))
    obtain ⟨oI, heI, _⟩ := hst.1
    have hIown := hfull s.heap.objs.size (List.mem_cons_self ..) hI₀ oI heI
    refine wpAny_mono (turn i ns[i] t m₁ news₁ hh' tk' own (by simp [hlt']) hsep hJ F₁ N₂) (fun f s₂ p => ?_) fun _ _ e => e
    have fin : GrowEnd h₀ env.locals (J (i + 1)) own { s with heap := hh', toks := tk' } s₂ → LoopStepU h₀ env.locals [s.heap.objs.size] own (J (i + 1)) { s with heap := hh', toks := tk' } .next s₂ := by
      rintro ⟨h', tk, m', news', nx, e, F', N', hn, ho, ha, hm⟩
      refine ⟨rfl, h', tk, m', nx, e, F', fun p hp => N' p ((List.mem_append.mp hp).elim (ho p) (hn p)), fun p hp hq => ?_, hm⟩
      exact ha _ hIown p.1 (List.mem_map.mpr ⟨p, hp, rfl⟩) (List.mem_singleton.mp hq).symm
    cases f with
    | ret v => exact .ret p
    | brk => exact .brk p
    | next => exact .next (fin p)
    | cont => exact .cont (fin p)
  · rintro h' tk m' news' F' N' _ hJ
    exact done m' news' h' tk hJ F' N'

theorem grow_list {σ : Type} {l : Addr} {vs : List Value} {ns : List Int} {m₀ : Str → Option Value} (Led : σ → List (Addr × Obj)) (ps : σ → List (Str × Value)) (Facts : σ → Prop) (stored : List Str) (P : List Int → σ → Prop) (c₀ : σ)
    (hh : A.handled = none) (hl : h₀.IsList l vs.toArray) (hi : IntsAre vs ns) (F : Fr h₀ env.locals s.heap m₀) (N : News h₀ env.locals s.heap (Led c₀)) (hf : Facts c₀) (hk : ∀ p ∈ ps c₀, m₀ p.1 = some p.2) (hp : P [] c₀)
    (turn : ∀ (c : σ) pre post n t (u : Str → Option Value) h tk own, ns = pre ++ n :: post → n ∈ ns → OwnOff own ((Led c).map (·.1)) → Facts c → P pre c →
      Fr h₀ env.locals h (fun y => if y = x then some (.int n t) else kstB (fun z => if stored.contains z then u z else m₀ z) (ps c) y) → News h₀ env.locals h (Led c ++ own) →
      wpAny (model prog w) A (execs body env) (GrowPost h₀ env.locals (KstS Led ps Facts x stored m₀ P (pre ++ [n])) own { s with heap := h, toks := tk } Q) E { s with heap := h, toks := tk })
    (done : ∀ (c : σ) (u : Str → Option Value) h tk, Facts c → P ns c → Fr h₀ env.locals h (fun y => if y = x then u y else kstB (fun z => if stored.contains z then u z else m₀ z) (ps c) y) → News h₀ env.locals h (Led c) → Q .next { s with heap := h, toks := tk }) :
    wpAny (model prog w) A (pyIter (.ref l)) (fun it s₂ => LoopAtV prog w A h₀ env x body Q E it s₂) E s := by
  refine iter_grow (fun i m nx => KstS Led ps Facts x stored m₀ P (ns.take i) m nx) hh hl hi F N ⟨c₀, rfl, hf, hk, fun _ _ _ _ => rfl, by simpa using hp⟩ ?_ ?_
  · rintro i n t m₁ nx h tk own hn hoff ⟨c, rfl, hf', h1, h2, hp'⟩ F₁ N₁
    have hs : ns.take (i + 1) = ns.take i ++ [n] := by simp [List.take_add_one, hn]
    have e : ns = ns.take i ++ n :: ns.drop (i + 1) := by
      have ht := List.take_append_drop (i + 1) ns
      rw [hs, List.append_assoc] at ht
      exact ht.symm
    rw [hs]
    exact turn c _ _ n t m₁ h tk own e (List.mem_of_getElem? hn) hoff hf' hp' (kst_fr h1 h2 F₁) N₁
  · rintro m₁ nx h tk ⟨c, rfl, hf', h1, h2, hp'⟩ F₁ N₁
    rw [List.take_length] at hp'
    exact done c m₁ h tk hf' hp' (kst_frOut h1 h2 F₁) N₁
theorem grow_end {σ : Type} {Led : σ → List (Addr × Obj)} {ps : σ → List (Str × Value)} {Facts : σ → Prop} {stored : List Str} {m₀ : Str → Option Value} {P : List Int → σ → Prop} {pre : List Int} (c : σ) {L : Addr} {m' : Str → Option Value} {own news' : List (Addr × Obj)} {s₁ : Shared} {h' : Heap} {tk : Nat}
    (F : Fr h₀ L h' m') (N : News h₀ L h' news') (hn : ∀ p ∈ Led c, p ∈ news') (ho : ∀ p ∈ own, p ∈ news') (ha : OwnOff own ((Led c).map (·.1))) (hf : Facts c) (hk : ∀ p ∈ ps c, m' p.1 = some p.2) (hr : ∀ z, z ≠ x → (∀ p ∈ ps c, z ≠ p.1) → stored.contains z = false → m' z = m₀ z) (hp : P pre c) :
    GrowEnd h₀ L (KstS Led ps Facts x stored m₀ P pre) own s₁ { s₁ with heap := h', toks := tk } :=
  ⟨h', tk, m', news', Led c, rfl, F, N, hn, ho, ha, c, rfl, hf, hk, hr, hp⟩
end
end Mine
end

section
open PySem.Calls
namespace Mine
/-- the dict of a record -/
def entD (q : Params) (t1 t2 t3 t4 : Tok) (u r : Addr) (dl rt : Value) : Obj :=
  dictOf [⟨PyData.keyHash q (Str.ofString "useragents"), .str (Str.ofString "useragents") t1, .ref u⟩, ⟨PyData.keyHash q (Str.ofString "rulelines"), .str (Str.ofString "rulelines") t2, .ref r⟩,
    ⟨PyData.keyHash q (Str.ofString "delay"), .str (Str.ofString "delay") t3, dl⟩, ⟨PyData.keyHash q (Str.ofString "req_rate"), .str (Str.ofString "req_rate") t4, rt⟩] 4
section
variable {prog : Program} {w : World} {A : Around} {E : Value → Shared → Prop} {s : Shared} {a b : Addr} {xs : List Value} {Q : Value → Shared → Prop}
theorem ne_none (ha : s.heap.IsList a xs.toArray) (hb : s.heap.IsList b #[]) (hu : A.units < cLine) (hx : xs = []) (h : Q (.bool false) s) : wpAny (model prog w) A (compareOp .NotEq (.ref a) (.ref b)) Q E s := by
  subst hx
  exact PySem.SeqAt.RcNeAt.lists (e := fun _ => true) ha hb rfl hu (fun j h1 _ => absurd h1 (by simp)) prog w E Q (by simpa using h)
end

theorem split_place {α : Type} {l : List α} {i : Nat} (h : i < l.length) : ∃ pre x post, l = pre ++ x :: post ∧ pre.length = i :=
  ⟨l.take i, l[i], l.drop (i + 1), by rw [← List.drop_eq_getElem_cons h, List.take_append_drop], by rw [List.length_take]; omega⟩
theorem place_at {α β : Type} (f : α → β) (pre : List α) (x : α) (post : List α) : ((pre ++ x :: post).map f)[pre.length]? = some (f x) := by simp

theorem allLt_mem {d : Addr} : ∀ {l : List (Addr × Obj)}, AllLt d l → ∀ p ∈ l, @LT.lt Nat _ p.1 d
  | _ :: _, h, p, hp => by
    rcases List.mem_cons.mp hp with rfl | hp
    · exact h.1
    · exact allLt_mem h.2 p hp
  | [], _, _, hp => nomatch hp

section
variable {q : Params} {B O R A : Addr} {oR oA : Obj} {h₀ h : Heap} {L : Addr} {own : List (Addr × Obj)} {es : List Ent} {nB nO : Nat}
theorem push_texts (ys : List (Str × Tok)) (v : Str × Tok) : (strValues ys).toArray.push (.str v.1 v.2) = (strValues (ys ++ [v])).toArray := by simp [strValues]

local macro_rules | `(tactic| walk_at "ent_cells") => `(tactic| (
  intro hn
  simp only [Ent.adr, List.nodup_cons, List.mem_cons, List.not_mem_nil, or_false, not_or, not_false_eq_true, List.nodup_nil, and_true] at hn
  obtain ⟨⟨a1, a2, a3, a4, a5, a6⟩, ⟨b2, b3, b4, b5, b6⟩, ⟨c3, c4, c5, c6⟩, ⟨d4, d5, d6⟩, ⟨e5, e6⟩, f6⟩ := hn
  intro p hp
  simp only [Ent.cells, Ent.u1, Ent.u2, Ent.r1, Ent.r2, Ent.d1, Ent.d2, Ent.q1, Ent.q2, List.mem_cons, List.not_mem_nil, or_false] at hp ⊢
  rcases hp with hp | hp | hp | hp | hp | hp | hp <;> subst hp <;> first | exact .inl rfl | (refine .inr ⟨by simp, ?_⟩; first | assumption | exact Ne.symm (by assumption))))
end

section
variable {prog : Program} {w : World} {A : Around} {E : Value → Shared → Prop} {s : Shared} {h₀ : Heap} {L D : Addr} {news : List (Addr × Obj)}
end
end Mine
end

section
namespace Mine
open PySem.F
theorem type_setc : typeOf (.builtin "set.__contains__") = pure (.type "method_descriptor") := by show builtinType _ = _; rw [builtinType_eq_fast]; kernel_rfl
theorem look_setc : typeLookup (.type "set") "__contains__" = pure (some (.builtin "set.__contains__")) := slot_set_contains.lookup
abbrev boundC (S : Addr) : Obj := { cls := .type "builtin_function_or_method", data := .fields #[.builtin "set.__contains__", .ref S] }
theorem slot_mget : Slot "method_descriptor" "__get__" "method_descriptor.__get__" :=
  .of (owner := "method_descriptor") (n := "__get__") (by rw [typeLookup_type, builtinLookup_eq_fast]; kernel_rfl) (by decide +kernel) (by decide +kernel) (by decide +kernel)
    (by first | exact .inl (by decide +kernel) | exact .inr (by decide +kernel)) (by rw [isSubtype_type]; kernel_rfl)
theorem entry_mget : entryFor table "method_descriptor.__get__" = some Builtin.«method_descriptor.__get__» := entryFor_of_tree (by kernel_rfl)
theorem args_mget (a b c : Value) : argsOk "method_descriptor.__get__" ⟨[a, b, c], []⟩ := by unfold argsOk; kernel_rfl
section
variable {prog : Program} {w : World} {A : Around} {E : Value → Shared → Prop} {s : Shared}
theorem run_mget {S : Addr} {P : PySem.Fin → Shared → Prop} (hT : s.TypeIs (.ref S) "set") (h : P (.done (.ret (.ref s.heap.objs.size))) { s with heap := s.heap.push (boundC S) }) :
    wpAny (model prog w) A (Builtin.«method_descriptor.__get__» ⟨[.builtin "set.__contains__", .ref S, .type "set"], []⟩) P E s := by
  unfold Builtin.«method_descriptor.__get__»
  refine wpAny_bind (wpAny_of_eq (a := (.builtin "set.__contains__", some (.ref S), some (.type "set"))) (by first | rfl | kernel_rfl) ?_)
  dsimp only
  rw [if_neg (by decide +kernel)]
  with_unfolding_all refine wpAny_bind (wpAny_bind (wpAny_of_eq (a := (Str.ofString "__contains__", .type "set")) (by first | rfl | kernel_rfl) ?_))
  dsimp only
  refine wpAny_bind (wpAny_isInstance hT sub_set_self ?_)
  rw [if_neg (by simp)]
  refine wpAny_pure ?_
  exact wpAny_bind (wpAny_newObj_type (wpAny_pure h))
theorem set_getattr_none : typeLookup (.type "set") "__getattr__" = pure none := by rw [typeLookup_type, builtinLookup_eq_fast]; kernel_rfl
theorem entry_set_getattribute : entryFor table "set.__getattribute__" = some Builtin.«object.__getattribute__» :=
  entryFor_alias (id' := "object.__getattribute__") (by kernel_rfl) (by decide +kernel) (by decide +kernel) (by kernel_rfl)
theorem md_no_set : typeLookup (.type "method_descriptor") "__set__" = pure none := by rw [typeLookup_type, builtinLookup_eq_fast]; kernel_rfl
theorem md_no_del : typeLookup (.type "method_descriptor") "__delete__" = pure none := by rw [typeLookup_type, builtinLookup_eq_fast]; kernel_rfl
theorem run_getattribute {S : Addr} {es : Array (Int × Value)} {ep : Nat} {tb : SetTable} {sl : Array (Option Value)} {u : Tok} {P : PySem.Fin → Shared → Prop} (ho : s.heap.get? S = some ⟨.type "set", none, .set es ep tb, sl⟩)
    (h : P (.done (.ret (.ref s.heap.objs.size))) { s with heap := s.heap.push (boundC S) }) :
    wpAny (model prog w) A (Builtin.«object.__getattribute__» ⟨[.ref S, .str (Str.ofString "__contains__") u], []⟩) P E s := by
  obtain ⟨hp, g, d, tk, os⟩ := s
  have hT : (⟨hp, g, d, tk, os⟩ : Shared).TypeIs (.ref S) "set" := ⟨_, ho, rfl⟩
  have hlook := look_setc
  have hty := type_setc
  have hget := slot_mget.lookup
  have hns := md_no_set
  have hnd := md_no_del
  unfold Builtin.«object.__getattribute__»
  repeat (any_goals (first | assumption | ((with_reducible show wpAny _ _ (call (Value.builtin "method_descriptor.__get__") _ _) _ _ _); refine wpAny_call_entry slot_mget hty entry_mget (run_mget hT ⟨_, rfl, ?_⟩) (args_mget _ _ _)) | wp_step))
theorem attr_contains {S : Addr} {es : Array (Int × Value)} {ep : Nat} {tb : SetTable} {sl : Array (Option Value)} {Q : Value → Shared → Prop} (ho : s.heap.get? S = some ⟨.type "set", none, .set es ep tb, sl⟩)
    (h : ∀ tk, Q (.ref s.heap.objs.size) { s with heap := s.heap.push (boundC S), toks := tk }) :
    wpAny (model prog w) A (getAttr (.ref S) (Str.ofString "__contains__") true) Q E s := by
  obtain ⟨hp, g, d, tk, os⟩ := s
  have hT : ∀ tk', (⟨hp, g, d, tk', os⟩ : Shared).TypeIs (.ref S) "set" := fun _ => ⟨_, ho, rfl⟩
  have f3 := F.slot_set_getattribute.lookup
  have f4 := F.slot_set_getattribute.bind (.ref S)
  have f5 := set_getattr_none
  unfold getAttr getAttrBy
  repeat (any_goals (first | assumption | exact hT _ | ((with_reducible show wpAny _ _ (call (Value.builtin "set.__getattribute__") _ _) _ _ _); refine wpAny_call_entry F.slot_set_getattribute (hT _) entry_set_getattribute (run_getattribute ho ⟨_, rfl, ?_⟩) (F.args_set_getattribute_2 _ _)) | wp_step))
  exact h _
end
end Mine
end

section
namespace Mine
open PySem.F
section
variable {prog : Program} {w : World} {K : Type} [DecidableEq K] {knd : PySem.KeyKind prog w K} {A : Around} {E : Value → Shared → Prop} {s : Shared}
theorem contains_body {S : Addr} {T : K → Bool} {n : Nat} {k : K} {key : Value} {P : PySem.Fin → Shared → Prop} (hkey : knd.is k key = true) (hsc : key.scannable = true) (hS : s.heap.SetOf knd S T n)
    (h : P (.done (.ret (.bool (T k)))) { s with toks := s.toks + 1 }) :
    wpAny (model prog w) A (Builtin.«frozenset.__contains__» ⟨[.ref S, key], []⟩) P E s := by
  unfold Builtin.«frozenset.__contains__» Builtin.Frozenset.oneOther
  simp only [List.isEmpty_nil, bind_assoc]
  unfold Builtin.Frozenset.addrOf Builtin.Frozenset.withSetAsKey setContains
  refine wpAny_bind (wpAny_pure ?_)
  try dsimp only
  refine wpAny_bind (wpAny_pure ?_)
  try dsimp only
  refine wpAny_bind (wpAny_tryCatch ?_)
  refine wpAny_holding ?_
  refine wpAny_bind (knd.pyHash hkey ?_)
  refine wpAny_bind (wpAny_setFind_of (s := { s with toks := s.toks + 1 }) hkey hsc hS fun r hr => ?_)
  refine wpAny_pure ?_
  show wpAny _ _ (ret (Value.bool r.isSome)) _ _ _
  rw [hr]
  exact wpAny_pure h
abbrev sigC : Manifest.Signature := ⟨.oneArg, "set.__contains__", "__contains__", .self, [⟨"object", .posOnly, true⟩]⟩
theorem sig_setc : Manifest.signature? "set.__contains__" = some sigC := by
  rw [signature?_of (id := "set.__contains__") (n := ['_', '_', 's', 'n', 'i', 'a', 't', 'n', 'o', 'c', '_', '_']) (o := ['t', 'e', 's']) (by kernel_rfl) owner_set]; kernel_rfl
theorem kind_setc : builtinKind "set.__contains__" = some .method := by decide +kernel
theorem check_bound {S : Addr} {es : Array (Int × Value)} {ep : Nat} {tb : SetTable} {sl : Array (Option Value)} {key : Value} {Q : Unit → Shared → Prop} (ho : s.heap.get? S = some ⟨.type "set", none, .set es ep tb, sl⟩) (h : Q () s) :
    wpAny (model prog w) A (checkBoundCall "set.__contains__" ⟨[.ref S, key], []⟩) Q E s := by
  have hsub : isSubtype (.type "set") (.type "module") = pure false := by rw [isSubtype_type]; kernel_rfl
  have hT : s.TypeIs (.ref S) "set" := ⟨_, ho, rfl⟩
  unfold checkBoundCall
  rw [sig_setc, kind_setc]
  obtain ⟨hp, g, d, tk, os⟩ := s
  dsimp only
  rw [if_neg (by decide)]
  refine wpAny_bind (wpAny_isInstance hT hsub ?_)
  rw [if_neg (by decide +kernel)]
  repeat (any_goals (first | assumption | ((with_reducible show wpAny _ _ (Bind.checkArgs _ _ _) _ _ _); refine wpAny_of_eq (a := ()) (by kernel_rfl) ?_) | wp_step))
theorem set_shape {h : Heap} {S : Addr} {T : K → Bool} {n : Nat} (hS : h.SetOf knd S T n) : ∃ es ep tb, h.get? S = some ⟨.type "set", none, .set es ep tb, #[]⟩ := by
  obtain ⟨o, es, ep, t, ho, hx, hd, _⟩ := hS
  obtain ⟨c, d, da, sl⟩ := o
  obtain ⟨h1, h2, h3⟩ := hx
  dsimp only at h1 h2 h3 hd
  subst h1 h2 h3 hd
  exact ⟨es, ep, t, ho⟩
theorem call_bound {X S : Addr} {T : K → Bool} {n : Nat} {k : K} {key : Value} {Q : Value → Shared → Prop} (hX : s.heap.get? X = some (boundC S)) (hkey : knd.is k key = true) (hsc : key.scannable = true) (hS : s.heap.SetOf knd S T n)
    (h : Q (.bool (T k)) { s with toks := s.toks + 1 }) : wpAny (model prog w) A (call (.ref X) [key]) Q E s := by
  obtain ⟨es, ep, tb, ho⟩ := set_shape hS
  refine wpAny_call (codeAny_of_tree ?_)
  show wpAny _ _ (callAny (.ref X) _) _ _ _
  unfold callAny
  show wpAny _ _ (load X >>= _) _ _ _
  refine wpAny_bind (wpAny_load hX ?_)
  show wpAny _ _ (checkBoundCall "set.__contains__" ⟨[.ref S, key], []⟩ >>= fun _ => again (.builtin "set.__contains__" ⟨[.ref S, key], []⟩)) _ _ _
  refine wpAny_bind (check_bound ho (wpAny_pure ⟨Code.quiet_builtin _ (by decide +kernel), codeAny_builtin entry_set_contains ?_⟩))
  exact contains_body hkey hsc hS h
end
end Mine
end

section
namespace Mine
open PySem.F
theorem slot_filter_next : Slot "filter" "__next__" "filter.__next__" :=
  .of (owner := "filter") (n := "__next__") (by rw [typeLookup_type, builtinLookup_eq_fast]; kernel_rfl) (by decide +kernel) (by decide +kernel) (by decide +kernel)
    (by first | exact .inl (by decide +kernel) | exact .inr (by decide +kernel)) (by rw [isSubtype_type]; kernel_rfl)
theorem slot_filter_iter : Slot "filter" "__iter__" "filter.__iter__" :=
  .of (owner := "filter") (n := "__iter__") (by rw [typeLookup_type, builtinLookup_eq_fast]; kernel_rfl) (by decide +kernel) (by decide +kernel) (by decide +kernel)
    (by first | exact .inl (by decide +kernel) | exact .inr (by decide +kernel)) (by rw [isSubtype_type]; kernel_rfl)
theorem slot_filter_init : Slot "filter" "__init__" "object.__init__" :=
  .of (owner := "object") (n := "__init__") (by rw [typeLookup_type, builtinLookup_eq_fast]; kernel_rfl) (by decide +kernel) (by decide +kernel) (by decide +kernel)
    (by first | exact .inl (by decide +kernel) | exact .inr (by decide +kernel)) (by rw [isSubtype_type]; kernel_rfl)
theorem owner_filter : Manifest.owners.lookup (String.ofList ['r', 'e', 't', 'l', 'i', 'f'].reverse) = some Manifest.sig_filter := by kernel_rfl
theorem args_filter_next (a : Value) : argsOk "filter.__next__" ⟨[a], []⟩ := by
  unfold argsOk; rw [signature?_of (id := "filter.__next__") (n := ['_', '_', 't', 'x', 'e', 'n', '_', '_']) (o := ['r', 'e', 't', 'l', 'i', 'f']) (by kernel_rfl) owner_filter]; kernel_rfl
theorem args_filter_iter (a : Value) : argsOk "filter.__iter__" ⟨[a], []⟩ := by
  unfold argsOk; rw [signature?_of (id := "filter.__iter__") (n := ['_', '_', 'r', 'e', 't', 'i', '_', '_']) (o := ['r', 'e', 't', 'l', 'i', 'f']) (by kernel_rfl) owner_filter]; kernel_rfl
theorem entry_filter_next : entryFor table "filter.__next__" = some Builtin.«filter.__next__» := entryFor_of_tree (by kernel_rfl)
theorem plain_filter_next : plainId "filter.__next__" = true := by decide +kernel
theorem entry_filter_iter : entryFor table "filter.__iter__" = some Builtin.«dict_keyiterator.__iter__» :=
  entryFor_alias (id' := "dict_keyiterator.__iter__") (by kernel_rfl) (by first | rfl | decide +kernel | (unfold String.splitOn; simp +decide [String.splitOnAux])) (by decide +kernel) (by kernel_rfl)
theorem mro_filter : mroOf (.type "filter") = pure [.type "filter", .type "object"] := by rw [mroOf_type]; kernel_rfl
theorem lookup_filter_new : typeLookup (.type "filter") "__new__" = pure (some (.builtin "filter.__new__")) := by rw [typeLookup_type, builtinLookup_eq_fast]; kernel_rfl
theorem called_filter : TypeCalled "filter" "filter.__new__" "object.__init__" :=
  ⟨by decide +kernel, by decide +kernel, ⟨_, _, mro_filter⟩, madeBy_type mro_filter lookup_filter_new (by decide +kernel), by decide +kernel, by rw [isSubtype_type]; kernel_rfl, slot_filter_init⟩
theorem typeCall_filter_2 (a b : Value) : checkTypeCall "filter" ⟨[a, b], []⟩ = pure () := by kernel_rfl
theorem newCall_filter_2 (a b : Value) : checkBuiltinCall "filter.__new__" ⟨[.type "filter", a, b], []⟩ = pure () := by kernel_rfl
theorem entry_filter_new : entryFor table "filter.__new__" = some Builtin.«filter.__new__» := entryFor_of_tree (by kernel_rfl)
theorem sub_filter : isSubtype (.type "filter") (.type "filter") = pure true := by rw [isSubtype_type]; kernel_rfl
theorem filter_no_len : typeLookup (.type "filter") "__len__" = pure none := by rw [typeLookup_type, builtinLookup_eq_fast]; kernel_rfl
theorem filter_no_hint : typeLookup (.type "filter") "__length_hint__" = pure none := by rw [typeLookup_type, builtinLookup_eq_fast]; kernel_rfl

abbrev filObj (f : Value) (I : Addr) : Obj := { cls := .type "filter", data := .fields #[f, .ref I] }
theorem meets_filter_new (f : Value) (l : Addr) (xs : Array Value) :
    Meets (Builtin.«filter.__new__» ⟨[.type "filter", f, .ref l], []⟩) (fun _ R s => s.heap.IsList l xs ∧
      R (.ok (.ret (.ref (mapH1 s.heap l).objs.size))) { s with heap := (mapH1 s.heap l).push (filObj f s.heap.objs.size) }) :=
  .of_wp fun prog w A R s h => by
    obtain ⟨hp, g, d, tk, os⟩ := s; obtain ⟨hl1, h⟩ := h
    have hsub := sub_filter
    have hL1 : Heap.IsList (Shared.heap ⟨hp, g, d, tk, os⟩) l xs := hl1
    wp_walk using wpAny_pyIter_list hL1
    exact ⟨_, rfl, h⟩
section
variable {prog : Program} {w : World} {A : Around} {E : Value → Shared → Prop} {s : Shared}
theorem call_filter {f : Value} {l : Addr} {xs : Array Value} {Q : Value → Shared → Prop} (hl : s.heap.IsList l xs)
    (h : ∀ h', h'.get? (s.heap.objs.size + 1) = some (filObj f s.heap.objs.size) → h'.get? s.heap.objs.size = some (lisObj l) → Grow s.heap h' → Q (.ref (s.heap.objs.size + 1)) { s with heap := h' }) :
    wpAny (model prog w) A (call (.type "filter") [f, .ref l]) Q E s := by
  refine callType_new called_filter (by decide) (typeCall_filter_2 _ _) (newCall_filter_2 _ _) (fun obj => F.args_object_init_3 obj _ _) entry_filter_new
    (meets_filter_new f l xs) ⟨hl, ?_⟩
  have z1 : (mapH1 s.heap l).objs.size = s.heap.objs.size + 1 := Heap.size_push ..
  have g2 : ((mapH1 s.heap l).push (filObj f s.heap.objs.size)).get? (mapH1 s.heap l).objs.size = some (filObj f s.heap.objs.size) := Heap.get?_push_size _ rfl
  have g1 : ((mapH1 s.heap l).push (filObj f s.heap.objs.size)).get? s.heap.objs.size = some (lisObj l) := Heap.get?_push_of_some _ (Heap.get?_push_size _ rfl)
  show _ ∧ _
  rw [z1] at g2 ⊢
  exact ⟨⟨_, g2, rfl⟩, h _ g2 g1 fun c o x => Heap.get?_push_of_some _ (Heap.get?_push_of_some _ x)⟩
end
end Mine
end

section
namespace Mine
open PySem.F
section
variable {prog : Program} {w : World} {A : Around} {E : Value → Shared → Prop} {s : Shared}
theorem li_item {it l : Addr} {i : Nat} {items : Array Value} {x : Value} {Q : Option Value → Shared → Prop} (hit : s.heap.IsListIter it l i) (hl : s.heap.IsList l items) (hx : items[i]? = some x)
    (hQ : ∀ h', h'.IsListIter it l (i + 1) → Heap.SameBut it s.heap h' → Q (some x) { s with heap := h' }) : wpAny (model prog w) A (callSpecial? (.ref it) (Str.ofString "__next__")) Q E s := by
  obtain ⟨o, ho, hc, hd⟩ := id hit
  obtain ⟨ol, hol, _, nl, hdl⟩ := hl
  refine wpAny_callSpecial?_slot (name := Str.ofString "__next__") hit.typeIs slot_listiter_next (wpAny_call_entry slot_listiter_next hit.typeIs entry_listiter_next ?_ (args_listiter_next _))
  show wpAny _ _ (field (.ref it) 0 >>= _) _ _ s
  refine wpAny_bind (wpAny_field ho hd (x := .ref l) rfl ?_)
  show wpAny _ _ (if (Value.ref l == Value.none) = true then _ else _) _ _ s
  rw [if_neg (show ¬ ((Value.ref l == Value.none) = true) from Bool.false_ne_true)]
  show wpAny _ _ (field (.ref it) 1 >>= _) _ _ s
  refine wpAny_bind (wpAny_field ho hd (x := .int i 0) rfl ?_)
  show wpAny _ _ (seqItems? (.ref l) >>= _) _ _ s
  refine wpAny_bind (wpAny_seqItems hol hdl ?_)
  simp only [Int.toNat_natCast, hx]
  refine wpAny_bind (wpAny_setField ho hd (by simp) (wpAny_pure ⟨x, rfl, hQ _ ?_ (Heap.SameBut.update ..)⟩))
  exact ⟨_, Heap.get?_update_self _ ho (Obj.isFreed_of_fields (Obj.data_mapFields hd _)), (Obj.cls_mapFields ..).trans hc, by
    rw [Obj.data_mapFields hd]; simp [rawInt]⟩
theorem li_end {it l : Addr} {i : Nat} {items : Array Value} {Q : Option Value → Shared → Prop} (hh : A.handled = none)
    (hit : s.heap.IsListIter it l i) (hl : s.heap.IsList l items) (hx : items[i]? = none)
    (hE : ∀ h' e, Heap.ExtBut it s.heap h' → (∃ o, h'.get? e = some o ∧ o.cls = .type "StopIteration") → E (.ref e) { s with heap := h' }) :
    wpAny (model prog w) A (callSpecial? (.ref it) (Str.ofString "__next__")) Q E s := by
  obtain ⟨o, ho, hc, hd⟩ := id hit
  obtain ⟨ol, hol, _, nl, hdl⟩ := hl
  refine wpAny_callSpecial?_slot (name := Str.ofString "__next__") hit.typeIs slot_listiter_next (wpAny_call_entry slot_listiter_next hit.typeIs entry_listiter_next ?_ (args_listiter_next _))
  show wpAny _ _ (field (.ref it) 0 >>= _) _ _ s
  refine wpAny_bind (wpAny_field ho hd (x := .ref l) rfl ?_)
  show wpAny _ _ (if (Value.ref l == Value.none) = true then _ else _) _ _ s
  rw [if_neg (show ¬ ((Value.ref l == Value.none) = true) from Bool.false_ne_true)]
  show wpAny _ _ (field (.ref it) 1 >>= _) _ _ s
  refine wpAny_bind (wpAny_field ho hd (x := .int i 0) rfl ?_)
  show wpAny _ _ (seqItems? (.ref l) >>= _) _ _ s
  refine wpAny_bind (wpAny_seqItems hol hdl ?_)
  simp only [Int.toNat_natCast, hx]
  refine wpAny_bind (wpAny_rule (wpAny_bind (wpAny_setField ho hd (by simp) ?_)))
  show wpAny _ _ (newExc (.type "StopIteration") [] >>= _) _ _ _
  refine wpAny_bind ?_
  simp only [newExc, newTuple]
  refine wpAny_bind (wpAny_newObj_type ?_ (by size_fits))
  refine wpAny_bind (m := firstArgMember _ _) (wpAny_of_eq (a := Value.none) (by first | rfl | (simp only [firstArgMember]; rfl)) ?_)
  refine wpAny_newObj_type ?_ (by size_fits)
  simp only [raiseNew]
  refine wpAny_bind (wpAny_handled ?_)
  first | rw [show A.in1.handled = none from hh] | rw [hh]
  refine wpAny_bind (wpAny_pure (wpAny_throw ?_))
  exact hE _ _ (((Heap.SameBut.update ..).extBut.push _).push _) ⟨_, Heap.get?_push_size _ rfl, rfl⟩

/-- what a call of f upon an item tells: a bool, nothing that stood is changed -/
def TellsOn (prog : Program) (w : World) (A : Around) (base : Heap) (I : Addr) (f : Value) (x : Value) (b : Bool) : Prop :=
  ∀ (s : Shared) (Q E : Value → Shared → Prop), (∀ b o, b ≠ I → base.get? b = some o → s.heap.get? b = some o) → (∀ h' tk', Grow s.heap h' → Q (.bool b) { s with heap := h', toks := tk' }) →
    wpAny (model prog w) A (call f [x]) Q E s

theorem filter_run {base : Heap} {M I l X : Addr} {xs : Array Value} {p : Nat → Bool} {R : Result → Shared → Prop} (hh : A.handled = none)
    (hz : base.get? M = some (filObj (.ref X) I)) (hl : base.IsList l xs) (hMI : M ≠ I) (hlI : l ≠ I)
    (hf : ∀ i x, xs[i]? = some x → TellsOn prog w A.in1 base I (.ref X) x (p i)) :
    ∀ (k j : Nat) (s : Shared), xs.size - j = k → s.heap.IsListIter I l j → (∀ b o, b ≠ I → base.get? b = some o → s.heap.get? b = some o) →
      (∀ m x h' tk', j ≤ m → xs[m]? = some x → p m = true → (∀ i, j ≤ i → i < m → p i = false) → h'.IsListIter I l (m + 1) → (∀ b o, b ≠ I → s.heap.get? b = some o → h'.get? b = some o) → R (.ok (.ret x)) { s with heap := h', toks := tk' }) →
      ((∀ i, j ≤ i → i < xs.size → p i = false) → ∀ h' tk' e, (∀ b o, b ≠ I → s.heap.get? b = some o → h'.get? b = some o) → (∃ o, h'.get? e = some o ∧ o.cls = .type "StopIteration") → R (.error (.ref e)) { s with heap := h', toks := tk' }) →
      codeAny (model prog w) A (.builtin "filter.__next__" ⟨[.ref M], []⟩) R s := by
  intro k
  induction k with
  | zero =>
    intro j s hk hit hb hI hEnd
    have hls : s.heap.IsList l xs := by obtain ⟨o, ho, r⟩ := hl; exact ⟨o, hb _ _ hlI ho, r⟩
    refine codeAny_builtin entry_filter_next ?_
    rw [Around.under_plainId plain_filter_next _]
    show wpAny _ A.in1 (field (.ref M) 0 >>= _) _ _ s
    refine wpAny_bind (wpAny_field (hb _ _ hMI hz) rfl (x := .ref X) rfl ?_)
    refine wpAny_bind (wpAny_field (hb _ _ hMI hz) rfl (x := .ref I) rfl ?_)
    refine wpAny_bind (li_end (by simpa using hh) hit hls (by rw [Array.getElem?_eq_none]; omega) fun h' e hs he => ?_)
    exact hEnd (fun i h1 h2 => by omega) h' s.toks e (fun b o hb' e => hs _ _ hb' e) he
  | succ k ih =>
    intro j s hk hit hb hI hEnd
    have hls : s.heap.IsList l xs := by obtain ⟨o, ho, r⟩ := hl; exact ⟨o, hb _ _ hlI ho, r⟩
    have hlt : j < xs.size := by omega
    refine codeAny_builtin entry_filter_next ?_
    rw [Around.under_plainId plain_filter_next _]
    show wpAny _ A.in1 (field (.ref M) 0 >>= _) _ _ s
    refine wpAny_bind (wpAny_field (hb _ _ hMI hz) rfl (x := .ref X) rfl ?_)
    refine wpAny_bind (wpAny_field (hb _ _ hMI hz) rfl (x := .ref I) rfl ?_)
    refine wpAny_bind (li_item (x := xs[j]) hit hls (by simp [hlt]) fun h₁ hit₁ hs₁ => ?_)
    have k1 : ∀ b o, b ≠ I → s.heap.get? b = some o → h₁.get? b = some o := fun b o hb' e => hs₁.extBut _ _ hb' e
    dsimp only
    refine wpAny_bind (wpAny_holding ?_)
    rw [if_neg (show ¬ ((Value.ref X == Value.none || Value.ref X == Value.type "bool") = true) from Bool.false_ne_true)]
    refine wpAny_bind (hf j xs[j] (by simp [hlt]) _ _ _ (fun b o hb' e => k1 b o hb' (hb b o hb' e)) fun h₂ tk₂ hg => ?_)
    refine wpAny_holding (wpAny_truthy_bool ?_)
    cases hp : p j with
    | true =>
      rw [if_pos rfl]
      exact wpAny_pure (hI j xs[j] h₂ tk₂ (Nat.le_refl _) (by simp [hlt]) hp (fun i h1 h2 => by omega) (hit₁.at fun o e => hg _ _ e) fun b o hb' e => hg _ _ (k1 b o hb' e))
    | false =>
      rw [if_neg Bool.false_ne_true]
      refine wpAny_pure ⟨plainId_quiet plain_filter_next _, ih (j + 1) _ (by omega) (hit₁.at fun o e => hg _ _ e) (fun b o hb' e => hg _ _ (k1 b o hb' (hb b o hb' e))) ?_ ?_⟩
      · intro m x h' tk' hm hx hpm hno hit' hk'
        refine hI m x h' tk' (by omega) hx hpm (fun i h1 h2 => ?_) hit' fun b o hb' e => hk' b o hb' (hg _ _ (k1 b o hb' e))
        by_cases e : i = j
        · rw [e]; exact hp
        · exact hno i (by omega) h2
      · intro hno h' tk' e hk' he
        refine hEnd (fun i h1 h2 => ?_) h' tk' e (fun b o hb' e => hk' b o hb' (hg _ _ (k1 b o hb' e))) he
        by_cases e : i = j
        · rw [e]; exact hp
        · exact hno i (by omega) h2

/-- the places that are kept -/
def kept (p : Nat → Bool) (n : Nat) : List Nat := (List.range n).filter p
theorem filter_next {base : Heap} {M I l X : Addr} {xs : Array Value} {p : Nat → Bool} {Q : Option Value → Shared → Prop} (hh : A.handled = none)
    (hz : base.get? M = some (filObj (.ref X) I)) (hl : base.IsList l xs) (hMI : M ≠ I) (hlI : l ≠ I)
    (hf : ∀ i x, xs[i]? = some x → TellsOn prog w A.in1 base I (.ref X) x (p i)) {j : Nat} (hit : s.heap.IsListIter I l j) (hb : ∀ b o, b ≠ I → base.get? b = some o → s.heap.get? b = some o)
    (hI : ∀ m x h' tk', j ≤ m → xs[m]? = some x → p m = true → (∀ i, j ≤ i → i < m → p i = false) → h'.IsListIter I l (m + 1) → (∀ b o, b ≠ I → s.heap.get? b = some o → h'.get? b = some o) → Q (some x) { s with heap := h', toks := tk' })
    (hEnd : (∀ i, j ≤ i → i < xs.size → p i = false) → ∀ h' tk', (∀ b o, b ≠ I → s.heap.get? b = some o → h'.get? b = some o) → Q none { s with heap := h', toks := tk' }) :
    wpAny (model prog w) A (pyNext (.ref M)) Q E s := by
  have hTy : s.TypeIs (.ref M) "filter" := ⟨_, hb _ _ hMI hz, rfl⟩
  unfold pyNext
  refine wpAny_bind (wpAny_attempt (wpAny_callSpecial?_slot (name := Str.ofString "__next__") hTy slot_filter_next (wpAny_call ?_)))
  refine codeAny_call_builtin_code (plainId_quiet plain_filter_next _) (slot_filter_next.check _ _ _ _ _ _ _ _ hTy (args_filter_next _) ?_)
  refine filter_run hh hz hl hMI hlI hf (xs.size - j) j s rfl hit hb ?_ ?_
  · intro m x h' tk' h1 h2 h3 h4 h5 h6
    exact wpAny_pure (hI m x h' tk' h1 h2 h3 h4 h5 h6)
  · intro hno h' tk' e hk' he
    obtain ⟨o, ho, hc⟩ := he
    refine wpAny_bind (wpAny_isInstance (T := "StopIteration") (b := true) ⟨o, ho, hc⟩ isSubtype_stop ?_)
    exact wpAny_pure (hEnd hno h' tk' hk')
end
end Mine
end

section
namespace Mine
open PySem.F
/-- how many are kept ahead of a place -/
def keptN (p : Nat → Bool) (j : Nat) : Nat := (kept p j).length
theorem keptN_succ (p : Nat → Bool) (j : Nat) : keptN p (j + 1) = keptN p j + (if p j then 1 else 0) := by
  unfold keptN kept
  rw [List.range_succ, List.filter_append, List.length_append]
  cases h : p j <;> simp [h]
theorem keptN_mono (p : Nat → Bool) {j : Nat} : ∀ {m : Nat}, j ≤ m → keptN p j ≤ keptN p m
  | 0, h => by rw [Nat.le_zero.mp h]; exact Nat.le_refl _
  | m + 1, h => by
    rcases Nat.lt_or_eq_of_le h with h | h
    · have := keptN_mono p (Nat.le_of_lt_succ h)
      rw [keptN_succ]; omega
    · rw [h]; exact Nat.le_refl _
theorem keptN_same (p : Nat → Bool) {j : Nat} : ∀ {m : Nat}, j ≤ m → (∀ i, j ≤ i → i < m → p i = false) → keptN p m = keptN p j
  | 0, h, _ => by rw [Nat.le_zero.mp h]
  | m + 1, h, hn => by
    rcases Nat.lt_or_eq_of_le h with h | h
    · rw [keptN_succ, hn m (by omega) (by omega), keptN_same p (Nat.le_of_lt_succ h) fun i h1 h2 => hn i h1 (by omega)]; simp
    · rw [h]
theorem kept_at (p : Nat → Bool) {m n : Nat} (h : m < n) (hp : p m = true) : (kept p n)[keptN p m]? = some m := by
  have e : List.range n = List.range m ++ m :: ((List.range (n - m - 1)).map Nat.succ).map (m + ·) := by
    have h1 : n = m + ((n - m - 1) + 1) := by omega
    conv => lhs; rw [h1, List.range_add, List.range_succ_eq_map]
    simp
  unfold kept keptN
  rw [e, List.filter_append, List.filter_cons, if_pos hp]
  unfold kept
  simp
section
variable {prog : Program} {w : World} {A : Around} {E : Value → Shared → Prop} {s : Shared}
theorem filter_iter {M I : Addr} {f : Value} {Q : Value → Shared → Prop} (hz : s.heap.get? M = some (filObj f I)) (h : Q (.ref M) s) : wpAny (model prog w) A (pyIter (.ref M)) Q E s := by
  have hT : s.TypeIs (.ref M) "filter" := ⟨_, hz, rfl⟩
  refine wpAny_pyIter_slot hT slot_filter_iter (wpAny_call_entry slot_filter_iter hT entry_filter_iter ?_ (args_filter_iter _))
  show wpAny _ _ (ret (.ref M)) _ _ s
  exact wpAny_pure ⟨_, rfl, "filter", _, hT, slot_filter_next.lookup, h⟩
theorem Walks.filter (hh : A.handled = none) {base : Heap} {M I l X : Addr} {xs : Array Value} {p : Nat → Bool}
    (hz : base.get? M = some (filObj (.ref X) I)) (hl : base.IsList l xs) (hI : base.get? I = some (lisObj l))
    (hf : ∀ i x, xs[i]? = some x → TellsOn prog w A.in1 base I (.ref X) x (p i)) :
    Walks prog w A M (List.range base.objs.size) [I] (keptN p xs.size) (fun i v => ∃ m, (kept p xs.size)[i]? = some m ∧ xs[m]? = some v)
      (fun i h => ∃ j, h.IsListIter I l j ∧ (∀ b o, b ≠ I → base.get? b = some o → h.get? b = some o) ∧ j ≤ xs.size ∧ keptN p j = i) := by
  have hMI : M ≠ I := by rintro rfl; rw [hz] at hI; simp at hI
  have hlI : l ≠ I := by rintro rfl; obtain ⟨o, ho, hc, _⟩ := hl; rw [hI] at ho; cases ho; simp at hc
  exact {
    sub := fun b hb => by
      rw [List.mem_singleton.mp hb]; exact List.mem_range.mpr (Heap.lt_size hI)
    frame := fun i h h' st hk => by
      obtain ⟨j, h1, h2, h3⟩ := st
      exact ⟨j, h1.at fun o e => hk I (List.mem_range.mpr (Heap.lt_size hI)) o e, fun b o hb e => hk b (List.mem_range.mpr (Heap.lt_size e)) o (h2 b o hb e), h3⟩
    item := fun i s Q E hi st hQ => by
      obtain ⟨j, h1, h2, h3, h4⟩ := st
      refine filter_next hh hz hl hMI hlI hf h1 h2 ?_ ?_
      · intro m x h' tk' hm hx hp hno hit hk
        have hlt : m < xs.size := by
          have := Array.getElem?_eq_some_iff.mp hx
          exact this.1
        have e1 := keptN_same p hm hno
        refine hQ x h' tk' ⟨m, ?_, hx⟩ ⟨m + 1, hit, fun b o hb e => hk b o hb (h2 b o hb e), hlt, by rw [keptN_succ, hp, e1, h4]; simp⟩ fun b o hb e => hk b o (by simpa using hb) e
        have := kept_at p hlt hp
        rw [e1, h4] at this
        exact this
      · intro hno h' tk' hk
        have := keptN_same p h3 hno
        omega
    done := fun s Q E st hQ => by
      obtain ⟨j, h1, h2, h3, h4⟩ := st
      refine filter_next hh hz hl hMI hlI hf h1 h2 ?_ ?_
      · intro m x h' tk' hm hx hp hno hit hk
        exfalso
        have hlt : m < xs.size := by
          have := Array.getElem?_eq_some_iff.mp hx
          exact this.1
        have a := keptN_mono p (show m + 1 ≤ xs.size from hlt)
        have b := keptN_mono p hm
        rw [keptN_succ, hp] at a
        simp at a
        omega
      · intro hno h' tk' hk
        exact hQ h' tk' fun b o hb e => hk b o (by simpa using hb) e
    self := fun i s Q E st hQ => by
      obtain ⟨j, h1, h2, h3, h4⟩ := st
      exact filter_iter (h2 _ _ hMI hz) hQ }
theorem kept_ext {p : Nat → Bool} {n : Nat} {xs : Array Value} {more : List Value} (hl : more.length = keptN p n) (h : ∀ (j : Nat) (v : Value), more[j]? = some v → ∃ m : Nat, (kept p n)[j]? = some m ∧ xs[m]? = some v) : more = (kept p n).filterMap (fun m => xs[m]?) := by
  have hk : ∀ (ks : List Nat) (more : List Value), more.length = ks.length → (∀ (j : Nat) (v : Value), more[j]? = some v → ∃ m : Nat, ks[j]? = some m ∧ xs[m]? = some v) → more = ks.filterMap (fun m => xs[m]?) := by
    intro ks
    induction ks with
    | nil => intro more hl _; exact List.length_eq_zero_iff.mp hl
    | cons k ks ih =>
      intro more hl h
      cases more with
      | nil => cases hl
      | cons v more =>
        obtain ⟨m, h1, h2⟩ := h 0 v rfl
        obtain rfl : k = m := by simpa using h1
        rw [List.filterMap_cons, h2]
        have := ih more (by simpa using hl) (fun j u hj => by simpa using h (j + 1) u (by simpa using hj))
        rw [← this]
  exact hk _ _ hl h
/-- list(filter(f, l)), the filter made -/
theorem list_filter {M I l X : Addr} {xs : Array Value} {p : Nat → Bool} {Q : Value → Shared → Prop} (hh : A.handled = none)
    (hz : s.heap.get? M = some (filObj (.ref X) I)) (hl : s.heap.IsList l xs) (hI : s.heap.get? I = some (lisObj l)) (hn : xs.size < sizeLine)
    (hf : ∀ i x, xs[i]? = some x → TellsOn prog w A.in1.in1.in1 s.heap I (.ref X) x (p i))
    (hQ : ∀ h' tk' c', (∀ b o, b ≠ I → s.heap.get? b = some o → h'.get? b = some o) → h'.get? s.heap.objs.size = some (listOf ((kept p xs.size).filterMap (fun m => xs[m]?)).toArray c') →
      Q (.ref s.heap.objs.size) { s with heap := h', toks := tk' }) :
    wpAny (model prog w) A (call (.type "list") [.ref M]) Q E s := by
  have hMI : M ≠ I := by rintro rfl; rw [hz] at hI; simp at hI
  have hle : keptN p xs.size ≤ xs.size := by
    unfold keptN kept
    have := List.length_filter_le p (List.range xs.size)
    rwa [List.length_range] at this
  refine list_call (T := "filter") (by decide) (by decide) filter_no_len filter_no_hint (Walks.filter (A := A.in1.in1) hh hz hl hI hf) (fun i s st => ?_) (fun b hb => List.mem_range.mp hb) (List.mem_range.mpr (Heap.lt_size hz)) ⟨0, ⟨_, hI, rfl, rfl⟩, fun _ _ _ e => e, Nat.zero_le _, rfl⟩ (by omega) ?_
  · obtain ⟨j, _, h2, _⟩ := st
    exact ⟨_, h2 _ _ hMI hz, rfl⟩
  · intro h' tk' c' more hk h1 h2 h3
    rw [kept_ext h2 h3] at h1
    exact hQ h' tk' c' (fun b o hb e => hk b o (by simpa using hb) e) h1
end
end Mine
end

section
namespace Mine
section
variable {prog : Program} {w : World} {K : Type} [DecidableEq K] {knd : PySem.KeyKind prog w K} {A : Around} {R : Result → Shared → Prop} {I : Addr} {fp wr : List Addr} {G : Array GenState → Array GenState → Prop} {n : Nat} {P : Nat → Value → Prop} {St : Nat → Shared → Prop}
theorem SetOf_congrK {prog : Program} {w : World} {K : Type} [DecidableEq K] {knd : PySem.KeyKind prog w K} {h : Heap} {a : Addr} {S S' : K → Bool} {n : Nat} (hS : h.SetOf knd a S n) (e : ∀ k, S k = S' k) : h.SetOf knd a S' n := (funext e : S = S') ▸ hS
/-- The loop of set.update, for keys of any kind: the set afterwards holds the walk's first n keys. -/
theorem set_update_loopK (W : WalksS prog w A.in1 I fp wr G n P St) (S : Addr) (hSf : S ∉ fp)
    (val : Nat → K) (hval : ∀ i v, P i v → knd.is (val i) v = true ∧ v.scannable = true) (hb : n + 1 < scanBound) :
    ∀ (k i : Nat) (s : Shared), n - i = k → i ≤ n → St i s →
      (∃ c, c ≤ i ∧ s.heap.SetOf knd S (fun k' => decide (k' ∈ (List.range i).map val)) c) →
      (∀ s', Moved (S :: wr) G s s' → (∃ c, c ≤ n ∧ s'.heap.SetOf knd S (fun k' => decide (k' ∈ (List.range n).map val)) c) → R (.ok (.ret .none)) s') →
      codeAny (model prog w) A (.builtin "set.update.loop" ⟨[.ref S, .ref I], []⟩) R s := by
  have hSw : S ∉ wr := fun h => hSf (W.sub _ h)
  have hsub : ∀ b ∈ wr, b ∈ S :: wr := fun b hb => List.mem_cons_of_mem _ hb
  intro k
  induction k with
  | zero =>
    intro i s hk hi hst hS hR
    have hin : i = n := by omega
    subst hin
    refine codeAny_builtin F.entry_set_update_loop ?_
    rw [Around.under_plainId F.plain_set_update_loop _]
    show wpAny _ A.in1 (pyNext (.ref I) >>= _) _ _ s
    refine wpAny_bind (W.done s _ _ hst fun s' hm => ?_)
    show wpAny _ A.in1 (ret Value.none) _ _ s'
    exact wpAny_pure (hR s' (hm.mono hsub) (by
      obtain ⟨c, hc, o, es, ep, t, ho, rest⟩ := hS
      exact ⟨c, hc, o, es, ep, t, hm.heap S _ hSw ho, rest⟩))
  | succ k ih =>
    intro i s hk hi hst hS hR
    have hlt : i < n := by omega
    refine codeAny_builtin F.entry_set_update_loop ?_
    rw [Around.under_plainId F.plain_set_update_loop _]
    show wpAny _ A.in1 (pyNext (.ref I) >>= _) _ _ s
    refine wpAny_bind (W.item i s _ _ hlt hst fun v s' hP hst' hm => ?_)
    obtain ⟨hk1, hk2⟩ := hval i v hP
    obtain ⟨c, hc, hS'⟩ : ∃ c, c ≤ i ∧ s'.heap.SetOf knd S (fun k' => decide (k' ∈ (List.range i).map val)) c := by
      obtain ⟨c, hc, o, es, ep, tb, ho, rest⟩ := hS
      exact ⟨c, hc, o, es, ep, tb, hm.heap S _ hSw ho, rest⟩
    show wpAny _ A.in1 (holding [v] (setAdd S v) >>= _) _ _ s'
    refine wpAny_bind (wpAny_holding ?_)
    unfold setAdd
    refine wpAny_holding ?_
    refine wpAny_bind (knd.pyHash (k := val i) hk1 ?_)
    refine wpAny_setAddHashed_of (knd := knd) (s := { s' with toks := s'.toks + 1 }) hk1 hk2 hS' (by omega) fun h' hsb hS2 => ?_
    refine wpAny_pure ⟨plainId_quiet F.plain_set_update_loop _, ih (i + 1) _ (by omega) hlt (W.frame _ s' _ _ hst' (Nat.le_succ _) fun b hb o e => ?_) ⟨_, ?_, SetOf_congrK hS2 fun k' => ?_⟩ fun s'' hm'' hS'' => ?_⟩
    · rw [hsb.2 b (fun h : b = S => hSf (by rw [← h]; exact hb))]; exact e
    · split <;> omega
    · rw [List.range_succ, List.map_append, List.map_singleton, ← Bool.decide_or]
      simp only [List.mem_append, List.mem_singleton]
    · refine hR s'' (Moved.trans W.gtrans ((hm.mono hsub).then_heap (Nat.le_succ _) fun b o hb e => ?_) hm'') hS''
      rw [hsb.2 b (fun h : b = S => hb (by rw [h]; exact List.mem_cons_self))]; exact e
end
end Mine
end

section
namespace Mine
section
variable {prog : Program} {w : World} {K : Type} [DecidableEq K] {knd : PySem.KeyKind prog w K} {A : Around} {E : Value → Shared → Prop} {s : Shared}
abbrev setObj0 (led : Bool) : Obj := { cls := .type "set", dict := none, data := .set #[] 0 (.fresh 0 0 led) }
/-- set.__init__ of a fresh set with a list of keys of one kind. -/
theorem set_init_list {S l : Addr} {led : Bool} {items : Array Value} {val : Nat → K} {Q : PySem.Fin → Shared → Prop}
    (hh : A.handled = none) (hS : s.heap.get? S = some (setObj0 led)) (hl : s.heap.IsList l items) (hSl : S ≠ l)
    (hval : ∀ i v, items[i]? = some v → knd.is (val i) v = true ∧ v.scannable = true) (hb : items.size + 1 < scanBound)
    (h : ∀ h' tk c, c ≤ items.size → h'.SetOf knd S (fun k' => decide (k' ∈ (List.range items.size).map val)) c →
      (∀ b o, b ≠ S → s.heap.get? b = some o → h'.get? b = some o) → Q (.done (.ret .none)) { s with heap := h', toks := tk }) :
    wpAny (model prog w) A (Builtin.«set.__init__» ⟨[.ref S, .ref l], []⟩) Q E s := by
  obtain ⟨ol, hol, hcl, nl, hdl⟩ := hl
  obtain ⟨ocls, odict, odata, oslots⟩ := ol
  simp only at hcl hdl
  subst hcl; subst hdl
  have hsls := PySem.F.sub_list_set
  have hslf := PySem.F.sub_list_frozenset
  have hne : (Value.type "list" == Value.type "dict") = false := by decide
  have hl1 : s.heap.IsList l items := ⟨_, hol, rfl, nl, rfl⟩
  unfold Builtin.«set.__init__» noKeywords Builtin.Frozenset.updateFrom
  generalize hPI : pyIter = PI
  wp_walk
  subst hPI
  refine wpAny_pyIter_list hl1 ?_
  refine wpAny_bind (wpAny_runValue ?_)
  have hlS : l < s.heap.objs.size := Heap.lt_size hol
  have hSS : S < s.heap.objs.size := Heap.lt_size hS
  have hneI : l ≠ s.heap.objs.size := Nat.ne_of_lt hlS
  have hSf : S ∉ [s.heap.objs.size, l] := by
    simp only [List.mem_cons, List.not_mem_nil, or_false, not_or]
    exact ⟨Nat.ne_of_lt hSS, hSl⟩
  refine set_update_loopK (knd := knd) ((Walks.list (by simp [hh]) _ l hneI items).toS) S hSf val hval hb (items.size - 0) 0 _ (by omega) (Nat.zero_le _)
    ⟨⟨_, Heap.get?_push_size _ rfl, rfl, rfl⟩, hl1.push _⟩ ⟨0, Nat.le_refl 0, ?_⟩ ?_
  · exact SetOf_congrK ((setObjOf_fresh (knd := knd) led).setOf (Heap.get?_push_of_some _ hS) (by unfold scanBound; omega)) fun k' => by simp
  · rintro ⟨h', g', d', tk', os'⟩ hm ⟨c, hc, hS'⟩
    have eg : g' = s.gens := hm.gens
    have ed : d' = s.drawn := hm.drawn
    have eo : os' = s.os := hm.os
    subst eg; subst ed; subst eo
    show wpAny _ _ _ _ _ _
    refine wpAny_pure ?_
    show wpAny _ _ (ret Value.none) _ _ _
    refine wpAny_pure (h h' tk' c hc hS' fun b o hb e => ?_)
    have hb2 : b ≠ s.heap.objs.size := Nat.ne_of_lt (Heap.lt_size e)
    exact hm.heap b o (by simp only [List.mem_cons, List.not_mem_nil, or_false, not_or]; exact ⟨hb, hb2⟩) (Heap.get?_push_of_some _ e)
end
end Mine
end

section
namespace Mine
section
variable {prog : Program} {w : World} {K : Type} [DecidableEq K] {knd : PySem.KeyKind prog w K} {A : Around} {E : Value → Shared → Prop} {s : Shared} {h₀ : Heap} {L : Addr} {m : Str → Option Value} {news : List (Addr × Obj)}
set_option maxHeartbeats 3200000 in
/-- set(l) of a list of keys of one kind. -/
theorem call_set_listK {l : Addr} {items : Array Value} {val : Nat → K} {Q : Value → Shared → Prop}
    (hh : A.handled = none) (hl : s.heap.IsList l items)
    (hval : ∀ i v, items[i]? = some v → knd.is (val i) v = true ∧ v.scannable = true) (hb : items.size + 1 < scanBound)
    (h : ∀ h' tk c, c ≤ items.size → h'.SetOf knd s.heap.objs.size (fun k' => decide (k' ∈ (List.range items.size).map val)) c →
      (∀ b o, b < s.heap.objs.size → s.heap.get? b = some o → h'.get? b = some o) → Q (.ref s.heap.objs.size) { s with heap := h', toks := tk }) :
    wpAny (model prog w) A (call (.type "set") [.ref l]) Q E s := by
  obtain ⟨c, tl, hmro⟩ := PySem.F.called_set.mro
  have hmade := PySem.F.called_set.made
  have hsub := PySem.F.called_set.sub
  have h1 := PySem.F.called_set.notType
  have h2 := PySem.F.called_set.canCreate
  have hct := PySem.F.typeCall_set_1 (.ref l)
  refine wpAny_call (codeAny_of_tree ?_)
  show wpAny _ _ (callAny (.type "set") _) _ _ _
  refine wpAny_pure ⟨Code.quiet_builtin _ (by decide +kernel), codeAny_builtin PySem.F.entry_type_call ?_⟩
  rw [Around.under_plain (weight_type_call_type "set" [.ref l] []) rfl]
  repeat (any_goals (first | assumption | wp_step))
  refine codeAny_mono (code_set_new_1 (.ref l) (E := E) (Q₁ := fun obj s₁ => ∃ led : Bool, obj = .ref s.heap.objs.size ∧ s₁ = { s with heap := s.heap.push (setObj0 led) }) fun led => ⟨led, rfl, rfl⟩) fun r s₁ hr => ?_
  cases r with
  | error e => exact hr
  | ok fl =>
    cases fl with
    | ret obj =>
      obtain ⟨led, rfl, rfl⟩ := hr
      have hS : (s.heap.push (setObj0 led)).get? s.heap.objs.size = some (setObj0 led) := Heap.get?_push_size _ rfl
      have hT : Shared.TypeIs { s with heap := s.heap.push (setObj0 led) } (.ref s.heap.objs.size) "set" := ⟨_, hS, rfl⟩
      have hli := PySem.F.called_set.init.lookup
      have hbi := PySem.F.called_set.init.bind (.ref s.heap.objs.size)
      have hlS : l < s.heap.objs.size := by obtain ⟨o, ho, _⟩ := hl; exact Heap.lt_size ho
      repeat (any_goals (first | assumption | wp_step))
      refine codeAny_mono (codeAny_call_builtin (R := wants (fun r s₂ => r = .none ∧ ∃ h' tk c, s₂ = { s with heap := h', toks := tk } ∧ c ≤ items.size ∧
          h'.SetOf knd s.heap.objs.size (fun k' => decide (k' ∈ (List.range items.size).map val)) c ∧
          (∀ b o, b < s.heap.objs.size → s.heap.get? b = some o → h'.get? b = some o)) E) PySem.F.called_set.init.plain PySem.F.entry_set_init (check_set_init_1 hT ?_)) fun r₂ s₂ hr₂ => ?_
      · refine set_init_list (knd := knd) (by simp [hh]) hS (hl.push _) (Nat.ne_of_gt hlS) hval hb fun h' tk c hc hS' hk => ?_
        exact ⟨rfl, h', tk, c, rfl, hc, hS', fun b o hb e => hk b o (Nat.ne_of_lt hb) (Heap.get?_push_of_some _ e)⟩
      · cases r₂ with
        | error e => exact hr₂
        | ok fl₂ =>
          cases fl₂ with
          | ret r =>
            obtain ⟨rfl, h', tk, c, rfl, hc, hS', hk'⟩ := hr₂
            repeat (any_goals (first | assumption | wp_step))
            exact h _ _ _ hc hS' hk'
          | _ => exact hr₂.elim
    | _ => exact hr.elim
/-- The same on a ledger: the list stands in it. -/
theorem newSetK_L {l : Addr} {nl : Nat} {vs : List Value} {val : Nat → K} {Q : Value → Shared → Prop} (F : Fr h₀ L s.heap m) (N : News h₀ L s.heap news)
    (hh : A.handled = none) (hm : (l, listOf vs.toArray nl) ∈ news)
    (hval : ∀ i v, vs.toArray[i]? = some v → knd.is (val i) v = true ∧ v.scannable = true) (hb : vs.length + 1 < scanBound)
    (h : ∀ h' (tk : Nat) o c, Fr h₀ L h' m → News h₀ L h' ((s.heap.objs.size, o) :: news) → c ≤ vs.length →
      o.SetObjOf knd (fun k' => decide (k' ∈ (List.range vs.length).map val)) c →
      Q (.ref s.heap.objs.size) { s with heap := h', toks := tk }) :
    wpAny (model prog w) A (call (.type "set") [.ref l]) Q E s := by
  have hsz : vs.toArray.size = vs.length := List.size_toArray
  refine call_set_listK (items := vs.toArray) (knd := knd) (val := val) hh ⟨_, (N _ hm).1, rfl, nl, rfl⟩ hval (by rw [hsz]; exact hb) fun h' tk c hc hS hk => ?_
  rw [hsz] at hS hc
  obtain ⟨o, ho, hso⟩ := hS.objOf
  obtain ⟨oL, _, _, hL, _⟩ := F.ns
  have hLlt : L < s.heap.objs.size := Heap.lt_size hL
  refine h h' tk o c ⟨F.ns.at' fun o' e => hk L o' hLlt e, fun b o' e => hk b o' (Heap.lt_size (F.keep b o' e)) (F.keep b o' e), F.above⟩ (fun p hp => ?_) hc hso
  rcases List.mem_cons.mp hp with rfl | hp
  · refine ⟨ho, Nat.ne_of_gt hLlt, ?_⟩
    cases hq : h₀.get? s.heap.objs.size with
    | none => rfl
    | some o' => exact absurd (Heap.lt_size (F.keep _ _ hq)) (Nat.lt_irrefl _)
  · exact ⟨hk _ _ (Heap.lt_size (N p hp).1) (N p hp).1, (N p hp).2.1, (N p hp).2.2⟩
end
end Mine
end

section
namespace Mine
open PySem.F
section
variable {prog : Program} {w : World} {K : Type} [DecidableEq K] {knd : PySem.KeyKind prog w K} {A : Around}
/-- The bound `__contains__` of a set tells whether the key lies in it. -/
theorem tells_bound {base : Heap} {I X S : Addr} {T : K → Bool} {n : Nat} {k : K} {key : Value} (hXI : X ≠ I) (hSI : S ≠ I) (hX : base.get? X = some (boundC S)) (hS : base.SetOf knd S T n) (hk : knd.is k key = true) (hsc : key.scannable = true) :
    TellsOn prog w A base I (.ref X) key (T k) := by
  intro s Q E hb hQ
  refine call_bound (knd := knd) (n := n) (hb X _ hXI hX) hk hsc ?_ (hQ s.heap _ (Grow.refl _))
  obtain ⟨o, es, ep, t, ho, rest⟩ := hS
  exact ⟨o, es, ep, t, hb S _ hSI ho, rest⟩
theorem kept_succ (p : Nat → Bool) (n : Nat) : kept p (n + 1) = kept p n ++ (if p n then [n] else []) := by
  unfold kept
  rw [List.range_succ, List.filter_append]
  cases h : p n <;> simp [h]
/-- The kept items of a list are its filter. -/
theorem kept_filter {α : Type} (f : α → Value) (q : α → Bool) (p : Nat → Bool) (ys : List α) (hp : ∀ i y, ys[i]? = some y → p i = q y) :
    (kept p ys.length).filterMap (fun m => (ys.map f).toArray[m]?) = (ys.filter q).map f := by
  have hk : ∀ (zs : List α) (n : Nat), n ≤ ys.length → zs = ys.take n → (kept p n).filterMap (fun m => (ys.map f).toArray[m]?) = (zs.filter q).map f := by
    intro zs n
    induction n generalizing zs with
    | zero => intro _ e; subst e; rfl
    | succ n ih =>
      intro hn e
      have hlt : n < ys.length := by omega
      have hy : ys[n]? = some ys[n] := List.getElem?_eq_getElem hlt
      have hi := ih (ys.take n) (by omega) rfl
      rw [e, List.take_succ, hy, kept_succ, List.filterMap_append, hi, List.filter_append, List.map_append, hp n _ hy]
      congr 1
      cases hq : q ys[n] <;> simp [hq, hlt]
  exact hk ys _ (Nat.le_refl _) (List.take_length).symm
end
end Mine
end

section
namespace Mine
open PySem.F
theorem fr_grow {h₀ h h' : Heap} {L : Addr} {m : Str → Option Value} (F : Fr h₀ L h m) (g : Grow h h') : Fr h₀ L h' m :=
  ⟨F.ns.at' fun o e => g L o e, fun b o e => g b o (F.keep b o e), F.above⟩
theorem news_grow {h₀ h h' : Heap} {L : Addr} {news : List (Addr × Obj)} (N : News h₀ L h news) (g : Grow h h') : News h₀ L h' news :=
  fun p hp => ⟨g _ _ (N p hp).1, (N p hp).2⟩
theorem news_more {h₀ h h' : Heap} {L : Addr} {m : Str → Option Value} {news : List (Addr × Obj)} {D : Addr} {o : Obj} (F : Fr h₀ L h m) (N : News h₀ L h' news) (hD : h.objs.size ≤ D) (ho : h'.get? D = some o) : News h₀ L h' ((D, o) :: news) := by
  intro p hp
  rcases List.mem_cons.mp hp with rfl | hp
  · obtain ⟨oL, _, _, hL, _⟩ := F.ns
    refine ⟨ho, Nat.ne_of_gt (Nat.lt_of_lt_of_le (Heap.lt_size hL) hD), ?_⟩
    cases hq : h₀.get? D with
    | none => rfl
    | some o' => exact absurd (Heap.lt_size (F.keep _ _ hq)) (Nat.not_lt.mpr hD)
  · exact N p hp
section
variable {prog : Program} {w : World} {K : Type} [DecidableEq K] {knd : PySem.KeyKind prog w K} {A : Around} {E : Value → Shared → Prop} {s : Shared} {h₀ : Heap} {L : Addr} {m : Str → Option Value} {news : List (Addr × Obj)}
theorem attr_contains_L {S : Addr} {oS : Obj} {T : K → Bool} {n : Nat} {Q : Value → Shared → Prop} (F : Fr h₀ L s.heap m) (N : News h₀ L s.heap news) (hm : (S, oS) ∈ news) (hso : oS.SetObjOf knd T n) (hn : n < scanBound)
    (h : ∀ h' tk, Fr h₀ L h' m → News h₀ L h' ((s.heap.objs.size, boundC S) :: news) → Q (.ref s.heap.objs.size) { s with heap := h', toks := tk }) :
    wpAny (model prog w) A (getAttr (.ref S) (Str.ofString "__contains__") true) Q E s := by
  obtain ⟨es, ep, tb, ho⟩ := set_shape (hso.setOf (N _ hm).1 hn)
  refine attr_contains ho fun tk => h _ tk (F.push _) ?_
  exact news_more F (N.pushKeep _) (Nat.le_refl _) (Heap.get?_push_size _ rfl)
theorem call_filter_L {f : Value} {l : Addr} {c : Nat} {vs : List Value} {Q : Value → Shared → Prop} (F : Fr h₀ L s.heap m) (N : News h₀ L s.heap news) (hm : (l, listOf vs.toArray c) ∈ news)
    (h : ∀ h', Fr h₀ L h' m → News h₀ L h' ((s.heap.objs.size + 1, filObj f s.heap.objs.size) :: (s.heap.objs.size, lisObj l) :: news) → Q (.ref (s.heap.objs.size + 1)) { s with heap := h' }) :
    wpAny (model prog w) A (call (.type "filter") [f, .ref l]) Q E s := by
  refine call_filter (xs := vs.toArray) ⟨_, (N _ hm).1, rfl, c, rfl⟩ fun h' g1 g2 g => h h' (fr_grow F g) ?_
  exact news_more F (news_more F (news_grow N g) (Nat.le_refl _) g2) (Nat.le_succ _) g1
theorem list_filter_L {α : Type} {M I l X S : Addr} {oS : Obj} {c : Nat} {ys : List α} {f : α → Value} {key : α → K} {T : K → Bool} {n : Nat} {Q : Value → Shared → Prop} (hh : A.handled = none) (F : Fr h₀ L s.heap m)
    (N : News h₀ L s.heap ((M, filObj (.ref X) I) :: (I, lisObj l) :: news)) (hl : (l, listOf (ys.map f).toArray c) ∈ news) (hX : (X, boundC S) ∈ news) (hS : (S, oS) ∈ news) (hso : oS.SetObjOf knd T n) (hn : n < scanBound)
    (hI : ∀ p ∈ news, p.1 ≠ I) (hys : ys.length < sizeLine) (hval : ∀ y ∈ ys, knd.is (key y) (f y) = true ∧ (f y).scannable = true)
    (h : ∀ h' tk c', Fr h₀ L h' m → News h₀ L h' ((s.heap.objs.size, listOf ((ys.filter (fun y => T (key y))).map f).toArray c') :: news) → Q (.ref s.heap.objs.size) { s with heap := h', toks := tk }) :
    wpAny (model prog w) A (call (.type "list") [.ref M]) Q E s := by
  have hM := (N _ (.head _)).1
  have hIo := (N _ (.tail _ (.head _)))
  have N' : News h₀ L s.heap news := fun p hp => N p (.tail _ (.tail _ hp))
  have hSz : (ys.map f).toArray.size = ys.length := by simp
  have hSet := hso.setOf (N' _ hS).1 hn
  refine list_filter (p := fun i => match ys[i]? with | some y => T (key y) | none => false) hh hM ⟨_, (N' _ hl).1, rfl, c, rfl⟩ hIo.1 (by rw [hSz]; exact hys) ?_ ?_
  · intro i x hx
    rw [List.getElem?_toArray, List.getElem?_map] at hx
    obtain ⟨y, hy, rfl⟩ := Option.map_eq_some_iff.mp hx
    have hv := hval y (List.mem_of_getElem? hy)
    rw [hy]
    exact tells_bound (knd := knd) (hI _ hX) (hI _ hS) (N' _ hX).1 hSet hv.1 hv.2
  · intro h' tk c' hk hD
    have hkf := kept_filter f (fun y => T (key y)) (fun i => match ys[i]? with | some y => T (key y) | none => false) ys (fun i y hy => by rw [hy])
    rw [hSz, hkf] at hD
    refine h h' tk c' ⟨F.ns.at' fun o e => hk L o (Ne.symm hIo.2.1) e, fun b o e => hk b o (fun hb => by subst hb; rw [hIo.2.2] at e; cases e) (F.keep b o e), F.above⟩ ?_
    exact news_more F (fun p hp => ⟨hk _ _ (hI p hp) (N' p hp).1, (N' p hp).2⟩) (Nat.le_refl _) hD
end
end Mine
end

section
open PySem.Calls
namespace Mine
/-- several new objects: what is said of them -/
def NewsX (cells : List (Addr × Obj)) (O : Value → List (Addr × Obj) → Prop) (g h' : Heap) (v : Value) : Prop :=
  ∃ more, O v more ∧ ∀ p ∈ more, g.get? p.1 = none ∧ (∀ q ∈ cells, q.1 ≠ p.1) ∧ h'.get? p.1 = some p.2
section
variable {prog : Program} {w : World} {A A₀ : Around} {E : Value → Shared → Prop} {s : Shared} {K : Frag} {L : Addr} {h₀ base : Heap} {m mg mb : Str → Option Value} {p : Program} {loose : List Str} {mean : ExcName → Option Value}
theorem use_newsX {k : Nat} {f : Addr} {vs : List Value} {O : Value → List (Addr × Obj) → Prop} {Q : Value → Shared → Prop} {dp un : Nat} {gd : Option (List Code)} {cn : Str} {cs : Scope} {a : Addr} {ccd : Value} {cl : List (Str × Addr)} {outer : List Env} {news cells : List (Addr × Obj)}
    (P : PureFnX k prog w K p loose mean mg mb f vs cells (NewsX cells O))
    (B : Below A₀ base outer h₀) (F : Fr h₀ L s.heap m) (N : News h₀ L s.heap news) (X : K.In h₀) (Tp : Top p loose mean mg mb h₀) (hck : cs.kind = .function) (hd : dp + k < recursionLimit) (hu : un + 8 * k < cLine) (hc : ∀ q ∈ cells, q ∈ news)
    (h : ∀ v more h' tk', O v more → Fr h₀ L h' m → News h₀ L h' (more ++ news) → (∀ q ∈ news, ∀ z ∈ more, q.1 ≠ z.1) → Q v { s with heap := h', toks := tk' }) :
    wpAny (model prog w) (ktrTop dp un gd cn cs L a ccd cl outer) (call (.ref f) vs) Q E s :=
  P dp un gd cn cs a ccd cl outer A₀ base h₀ L m s Q E B F (fun q hq => N q (hc q hq)) X Tp hck hd hu fun v h' tk' hv hg => by
    obtain ⟨more, hO, hm⟩ := hv
    obtain ⟨oL, _, _, hL, _⟩ := F.ns
    have h4 : ∀ z ∈ more, s.heap.get? z.1 = none := fun z hz => ghost_none (hm z hz).1 (hm z hz).2.1
    refine h v more h' tk' hO (Fr.grow F hg) (fun q hq => ?_) (fun q hq z hz e => ?_)
    · rcases List.mem_append.mp hq with hq | hq
      · refine ⟨(hm q hq).2.2, ?_, ?_⟩
        · intro e; have := h4 q hq; rw [e, hL] at this; cases this
        · cases e : h₀.get? q.1 with
          | none => rfl
          | some o' => have := h4 q hq; rw [F.keep _ _ e] at this; cases this
      · exact ⟨hg _ _ (N q hq).1, (N q hq).2⟩
    · have := h4 z hz; rw [← e, (N q hq).1] at this; cases this
end
end Mine
end

section
namespace Mine
section
variable {prog : Program} {w : World} {A : Around} {E : Value → Shared → Prop} {s : Shared} {h₀ : Heap} {L : Addr} {m : Str → Option Value} {news : List (Addr × Obj)}
theorem range_texts (ag : List (Str × Tok)) : (List.range ag.length).map (fun i => ((ag[i]?).map (·.1)).getD (Str.ofString "")) = ag.map (·.1) := by
  apply List.ext_getElem (by simp)
  intro i h1 h2
  simp at h1
  simp [h1]
theorem newSetT_L {l : Addr} {nl : Nat} {ag : List (Str × Tok)} {Q : Value → Shared → Prop} (F : Fr h₀ L s.heap m) (N : News h₀ L s.heap news)
    (hh : A.handled = none) (hm : (l, listOf (strValues ag).toArray nl) ∈ news) (hb : ag.length + 1 < scanBound)
    (h : ∀ h' (tk : Nat) o c, Fr h₀ L h' m → News h₀ L h' ((s.heap.objs.size, o) :: news) → c < scanBound →
      o.SetObjOf (strKind prog w) (fun k' => decide (k' ∈ ag.map (·.1))) c →
      Q (.ref s.heap.objs.size) { s with heap := h', toks := tk }) :
    wpAny (model prog w) A (call (.type "set") [.ref l]) Q E s := by
  have hlen : (strValues ag).length = ag.length := by simp [strValues]
  refine newSetK_L (knd := strKind prog w) (val := fun i => ((ag[i]?).map (·.1)).getD (Str.ofString "")) F N hh hm ?_ (by rw [hlen]; exact hb) fun h' tk o c F' N' hc ho => ?_
  · intro i v hv
    rw [List.getElem?_toArray] at hv
    simp only [strValues, List.getElem?_map] at hv
    obtain ⟨y, hy, rfl⟩ := Option.map_eq_some_iff.mp hv
    rw [hy]
    exact ⟨strKind_is _ _ _ _, rfl⟩
  · rw [hlen] at hc ho
    rw [range_texts] at ho
    exact h h' tk o c F' N' (by omega) ho
theorem list_filterT_L {M I l X S : Addr} {oS : Obj} {c : Nat} {ys zs : List (Str × Tok)} {n : Nat} {Q : Value → Shared → Prop} (hh : A.handled = none) (F : Fr h₀ L s.heap m)
    (N : News h₀ L s.heap ((M, filObj (.ref X) I) :: (I, lisObj l) :: news)) (hl : (l, listOf (strValues ys).toArray c) ∈ news) (hX : (X, boundC S) ∈ news) (hS : (S, oS) ∈ news) (hso : oS.SetObjOf (strKind prog w) (fun k' => decide (k' ∈ zs.map (·.1))) n) (hn : n < scanBound)
    (hI : ∀ p ∈ news, p.1 ≠ I) (hys : ys.length < sizeLine)
    (h : ∀ h' tk c', Fr h₀ L h' m → News h₀ L h' ((s.heap.objs.size, listOf (strValues (ys.filter (fun y => decide (y.1 ∈ zs.map (·.1))))).toArray c') :: news) → Q (.ref s.heap.objs.size) { s with heap := h', toks := tk }) :
    wpAny (model prog w) A (call (.type "list") [.ref M]) Q E s :=
  list_filter_L (knd := strKind prog w) (f := fun y : Str × Tok => .str y.1 y.2) (key := fun y => y.1) hh F N hl hX hS hso hn hI hys (fun _ _ => ⟨strKind_is _ _ _ _, rfl⟩) h
end
end Mine
end

section
namespace Mine
section
variable {prog : Program} {w : World} {A : Around} {E : Value → Shared → Prop} {s : Shared} {h₀ : Heap} {L : Addr} {m : Str → Option Value} {news : List (Addr × Obj)}
theorem newSetT_G {l : Addr} {nl : Nat} {ag : List (Str × Tok)} {Q : Value → Shared → Prop} (F : Fr h₀ L s.heap m) (N : News h₀ L s.heap news)
    (hh : A.handled = none) (hm : (l, listOf (strValues ag).toArray nl) ∈ news) (hb : ag.length + 1 < scanBound)
    (h : ∀ h' (tk : Nat) (D : Addr) o c, Fr h₀ L h' m → News h₀ L h' ((D, o) :: news) → (∀ p ∈ news, p.1 < D) → c < scanBound → o.SetObjOf (strKind prog w) (fun k' => decide (k' ∈ ag.map (·.1))) c →
      Q (.ref D) { s with heap := h', toks := tk }) :
    wpAny (model prog w) A (call (.type "set") [.ref l]) Q E s :=
  newSetT_L F N hh hm hb fun h' tk o c F' N' hc ho => h h' tk _ o c F' N' (fun p hp => Heap.lt_size (N p hp).1) hc ho
theorem attr_contains_G {S : Addr} {oS : Obj} {T : Str → Bool} {n : Nat} {Q : Value → Shared → Prop} (F : Fr h₀ L s.heap m) (N : News h₀ L s.heap news) (hm : (S, oS) ∈ news) (hso : oS.SetObjOf (strKind prog w) T n) (hn : n < scanBound)
    (h : ∀ h' tk (D : Addr), Fr h₀ L h' m → News h₀ L h' ((D, boundC S) :: news) → (∀ p ∈ news, p.1 < D) → Q (.ref D) { s with heap := h', toks := tk }) :
    wpAny (model prog w) A (getAttr (.ref S) (Str.ofString "__contains__") true) Q E s :=
  attr_contains_L F N hm hso hn fun h' tk F' N' => h h' tk _ F' N' (fun p hp => Heap.lt_size (N p hp).1)
theorem call_filter_G {f : Value} {l : Addr} {c : Nat} {vs : List Value} {Q : Value → Shared → Prop} (F : Fr h₀ L s.heap m) (N : News h₀ L s.heap news) (hm : (l, listOf vs.toArray c) ∈ news)
    (h : ∀ h' (M I : Addr), Fr h₀ L h' m → News h₀ L h' ((M, filObj f I) :: (I, lisObj l) :: news) → (∀ p ∈ news, p.1 < I) → (∀ p ∈ (I, lisObj l) :: news, p.1 < M) → Q (.ref M) { s with heap := h' }) :
    wpAny (model prog w) A (call (.type "filter") [f, .ref l]) Q E s :=
  call_filter_L F N hm fun h' F' N' => h h' _ _ F' N' (fun p hp => Heap.lt_size (N p hp).1) (fun p hp => by
    rcases List.mem_cons.mp hp with rfl | hp
    · exact Nat.lt_succ_self _
    · exact Nat.lt_succ_of_lt (Heap.lt_size (N p hp).1))
theorem list_filterT_G {M I l X S : Addr} {oS : Obj} {c : Nat} {ys zs : List (Str × Tok)} {n : Nat} {Q : Value → Shared → Prop} (hh : A.handled = none) (F : Fr h₀ L s.heap m)
    (N : News h₀ L s.heap ((M, filObj (.ref X) I) :: (I, lisObj l) :: news)) (hl : (l, listOf (strValues ys).toArray c) ∈ news) (hX : (X, boundC S) ∈ news) (hS : (S, oS) ∈ news) (hso : oS.SetObjOf (strKind prog w) (fun k' => decide (k' ∈ zs.map (·.1))) n) (hn : n < scanBound)
    (hI : ∀ p ∈ news, p.1 < I) (hys : ys.length < sizeLine)
    (h : ∀ h' tk (D : Addr) c', Fr h₀ L h' m → News h₀ L h' ((D, listOf (strValues (ys.filter (fun y => decide (y.1 ∈ zs.map (·.1))))).toArray c') :: news) → (∀ p ∈ news, p.1 < D) → Q (.ref D) { s with heap := h', toks := tk }) :
    wpAny (model prog w) A (call (.type "list") [.ref M]) Q E s :=
  list_filterT_L hh F N hl hX hS hso hn (fun p hp => Nat.ne_of_lt (hI p hp)) hys fun h' tk c' F' N' => h h' tk _ c' F' N' (fun p hp => Heap.lt_size (N p (.tail _ (.tail _ hp))).1)
end
end Mine
end

section
namespace Mine
section
variable {prog : Program} {w : World} {A : Around} {E : Value → Shared → Prop} {s : Shared} {h₀ : Heap} {L : Addr} {m : Str → Option Value} {news : List (Addr × Obj)}
/-- the sum of two lists of texts -/
theorem add_texts_G {a b : Addr} {ca cb : Nat} {xs ys : List (Str × Tok)} {Q : Value → Shared → Prop} (F : Fr h₀ L s.heap m) (N : News h₀ L s.heap news)
    (ha : (a, listOf (strValues xs).toArray ca) ∈ news) (hb : (b, listOf (strValues ys).toArray cb) ∈ news) (hz : xs.length + ys.length ≤ sizeLine)
    (h : ∀ h' (D : Addr), Fr h₀ L h' m → News h₀ L h' ((D, listOf (strValues (xs ++ ys)).toArray 0) :: news) → (∀ p ∈ news, p.1 < D) → Q (.ref D) { s with heap := h' }) :
    wpAny (model prog w) A (binaryOp .Add (.ref a) (.ref b)) Q E s :=
  kmk_add_lit F N ⟨_, (N _ ha).1, rfl, ca, rfl⟩ ⟨_, (N _ hb).1, rfl, cb, rfl⟩ (by simp [strValues]) (fun D h' F' N' l => h h' D F' N' l) (by simpa [strValues] using hz)
end
end Mine
end

section
open PySem.Calls
namespace Mine
section
variable {prog : Program} {w : World} {A : Around} {E : Value → Shared → Prop} {s : Shared} {env : Env} {h₀ : Heap} {x : Str} {body : List Stmt} {Q : Flow → Shared → Prop}
/-- going over a list of the ledger; the list itself stands among the loop's own things -/
theorem iter_led {l : Addr} {vs : List Value} {c : Nat} {m₀ : Str → Option Value} {news news₀ : List (Addr × Obj)} (J : Nat → (Str → Option Value) → List (Addr × Obj) → Prop)
    (hh : A.handled = none) (hl : (l, listOf vs.toArray c) ∈ news) (hs : ∀ p ∈ news₀, p ∈ news ∧ p.1 ≠ l) (F : Fr h₀ env.locals s.heap m₀) (N : News h₀ env.locals s.heap news) (hj : J 0 m₀ news₀)
    (turn : ∀ i v m₁ news₁ h tk own, vs[i]? = some v → (l, listOf vs.toArray c) ∈ own → OwnOff own (news₁.map (·.1)) → J i m₁ news₁ → Fr h₀ env.locals h (fun y => if y = x then some v else m₁ y) → News h₀ env.locals h (news₁ ++ own) →
      wpAny (model prog w) A (execs body env) (GrowPost h₀ env.locals (J (i + 1)) own { s with heap := h, toks := tk } Q) E { s with heap := h, toks := tk })
    (done : ∀ m₁ news₁ h tk, J vs.length m₁ news₁ → (∀ p ∈ news₁, p.1 ≠ l) → Fr h₀ env.locals h m₁ → News h₀ env.locals h ((l, listOf vs.toArray c) :: news₁) → Q .next { s with heap := h, toks := tk }) :
    wpAny (model prog w) A (pyIter (.ref l)) (fun it s₂ => LoopAtV prog w A h₀ env x body Q E it s₂) E s := by
  have hls : s.heap.IsList l vs.toArray := ⟨_, (N _ hl).1, rfl, c, rfl⟩
  have hol := (N _ hl).1
  have hlt : l < s.heap.objs.size := Heap.lt_size hol
  have hne : l ≠ s.heap.objs.size := Nat.ne_of_lt hlt
  have hlL : l ≠ env.locals := (N _ hl).2.1
  refine wpAny_pyIter_list hls ?_
  have W := Walks.list (prog := prog) (w := w) hh s.heap.objs.size l hne vs.toArray
  have hlen : vs.toArray.size = vs.length := by simp
  rw [hlen] at W
  have hI₀ : h₀.get? s.heap.objs.size = none := next_is_new F
  have hst0 : (s.heap.push (((({ cls := .type "list_iterator", data := .fields #[.ref l, .int 0 0] } : Obj))))).get? l = some (listOf vs.toArray c) := Heap.get?_push_of_some _ hol
  refine ⟨_, _, _, vs.length, _, _, m₀, (l, listOf vs.toArray c) :: news₀, fun i m nx => ∃ n₁, nx = (l, listOf vs.toArray c) :: n₁ ∧ (∀ p ∈ n₁, p.1 ≠ l) ∧ J i m n₁, rfl, W, ?_, ?_, ?_, ⟨⟨_, Heap.get?_push_size _ rfl, rfl, rfl⟩, hls.at fun o e => Heap.get?_push_of_some _ e⟩, F.push _, ?_, ⟨_, rfl, fun p hp => (hs p hp).2, hj⟩, ?_, ?_⟩
  · intro hm
    rcases List.mem_cons.mp hm with e | hm
    · exact absurd F.ns.lt (e ▸ Nat.lt_irrefl _)
    · exact hlL (List.mem_singleton.mp hm).symm
  · intro b hb
    rw [List.mem_singleton.mp hb]
    exact hI₀
  · intro p hp hI
    have hI' := List.mem_singleton.mp hI
    rcases List.mem_cons.mp hp with rfl | hp
    · exact hne hI'
    · exact absurd (Heap.lt_size (N p (hs p hp).1).1) (hI' ▸ Nat.lt_irrefl _)
  · intro p hp
    rcases List.mem_cons.mp hp with rfl | hp
    · exact ⟨Heap.get?_push_of_some _ hol, (N _ hl).2⟩
    · exact ⟨Heap.get?_push_of_some _ (N p (hs p hp).1).1, (N p (hs p hp).1).2⟩
  · rintro i v m₁ news₁ s₁ own ⟨hh', tk', rfl⟩ hin hP ⟨n₁, rfl, hn₁, hJ⟩ hoff hown _ hfull hst F₁ N₁
    have hlown : (l, listOf vs.toArray c) ∈ own := by
      refine hfull l (.tail _ (.head _)) (N _ hl).2.2 _ ?_
      exact (N₁ _ (List.mem_append.mpr (.inr (.head _)))).1
    have hsep : OwnOff own (n₁.map (·.1)) := by
      intro p hp b hb e
      obtain ⟨q, hq, rfl⟩ := List.mem_map.mp hb
      rcases List.mem_cons.mp (hown p hp) with h1 | h1
      · exact hoff q (.tail _ hq) (List.mem_singleton.mpr (by rw [← e, h1]))
      · exact hn₁ q hq (e.symm.trans (List.mem_singleton.mp h1))
    have hlt' : i < vs.length := hin
    have hv : vs[i]? = some v := by simpa using hP
    have N₂ : News h₀ env.locals hh' (n₁ ++ own) := fun p hp => N₁ p ((List.mem_append.mp hp).elim (fun h => List.mem_append.mpr (.inr (.tail _ h))) fun h => List.mem_append.mpr (.inl h))
    obtain ⟨oI, heI, _⟩ := hst.1
    have hIown := hfull s.heap.objs.size (List.mem_cons_self ..) hI₀ oI heI
    refine wpAny_mono (turn i v m₁ n₁ hh' tk' own hv hlown hsep hJ F₁ N₂) (fun f s₂ p => ?_) fun _ _ e => e
    have fin : GrowEnd h₀ env.locals (J (i + 1)) own { s with heap := hh', toks := tk' } s₂ → LoopStepU h₀ env.locals [s.heap.objs.size] own (fun m nx => ∃ n₁, nx = (l, listOf vs.toArray c) :: n₁ ∧ (∀ p ∈ n₁, p.1 ≠ l) ∧ J (i + 1) m n₁) { s with heap := hh', toks := tk' } .next s₂ := by
      rintro ⟨h', tk, m', news', nx, e, F', N', hn, ho, ha, hm⟩
      have hxl : ∀ p ∈ nx, p.1 ≠ l := fun p hp e' => ha _ hlown p.1 (List.mem_map.mpr ⟨p, hp, rfl⟩) e'.symm
      refine ⟨rfl, h', tk, m', (l, listOf vs.toArray c) :: nx, e, F', fun p hp => N' p ((List.mem_append.mp hp).elim (ho p) fun h => ?_), fun p hp hq => ?_, nx, rfl, hxl, hm⟩
      · rcases List.mem_cons.mp h with rfl | h
        · exact ho _ hlown
        · exact hn p h
      · have hq' := List.mem_singleton.mp hq
        rcases List.mem_cons.mp hp with rfl | hp
        · exact hne hq'
        · exact ha _ hIown p.1 (List.mem_map.mpr ⟨p, hp, rfl⟩) hq'.symm
    cases f with
    | ret v => exact .ret p
    | brk => exact .brk p
    | next => exact .next (fin p)
    | cont => exact .cont (fin p)
  · rintro h' tk m' news' F' N' _ ⟨n₁, rfl, hn₁, hJ⟩
    exact done m' n₁ h' tk hJ hn₁ F' N'

theorem grow_items {α σ : Type} {l : Addr} {c : Nat} {xs : List α} (val : α → Value) {m₀ : Str → Option Value} {news : List (Addr × Obj)} (Led : σ → List (Addr × Obj)) (ps : σ → List (Str × Value)) (Facts : σ → Prop) (stored : List Str) (P : List α → σ → Prop) (c₀ : σ)
    (hh : A.handled = none) (hl : (l, listOf (xs.map val).toArray c) ∈ news) (hs : ∀ p ∈ Led c₀, p ∈ news ∧ p.1 ≠ l) (F : Fr h₀ env.locals s.heap m₀) (N : News h₀ env.locals s.heap news) (hf : Facts c₀) (hk : ∀ p ∈ ps c₀, m₀ p.1 = some p.2) (hp : P [] c₀)
    (turn : ∀ (c' : σ) pre post a (u : Str → Option Value) h tk own, xs = pre ++ a :: post → (l, listOf (xs.map val).toArray c) ∈ own → OwnOff own ((Led c').map (·.1)) → Facts c' → P pre c' →
      Fr h₀ env.locals h (fun y => if y = x then some (val a) else kstB (fun z => if stored.contains z then u z else m₀ z) (ps c') y) → News h₀ env.locals h (Led c' ++ own) →
      wpAny (model prog w) A (execs body env) (GrowPost h₀ env.locals (KstS Led ps Facts x stored m₀ (fun (_ : List Int) c'' => P (pre ++ [a]) c'') []) own { s with heap := h, toks := tk } Q) E { s with heap := h, toks := tk })
    (done : ∀ (c' : σ) (u : Str → Option Value) h tk, Facts c' → P xs c' → (∀ p ∈ Led c', p.1 ≠ l) → Fr h₀ env.locals h (fun y => if y = x then u y else kstB (fun z => if stored.contains z then u z else m₀ z) (ps c') y) → News h₀ env.locals h ((l, listOf (xs.map val).toArray c) :: Led c') → Q .next { s with heap := h, toks := tk }) :
    wpAny (model prog w) A (pyIter (.ref l)) (fun it s₂ => LoopAtV prog w A h₀ env x body Q E it s₂) E s := by
  refine iter_led (fun i m nx => KstS Led ps Facts x stored m₀ (fun (_ : List Int) c'' => P (xs.take i) c'') [] m nx) hh hl hs F N ⟨c₀, rfl, hf, hk, fun _ _ _ _ => rfl, by simpa using hp⟩ ?_ ?_
  · rintro i v m₁ nx h tk own hn hown hoff ⟨c', rfl, hf', h1, h2, hp'⟩ F₁ N₁
    rw [List.getElem?_map] at hn
    obtain ⟨a, ha, rfl⟩ := Option.map_eq_some_iff.mp hn
    have hs : xs.take (i + 1) = xs.take i ++ [a] := by simp [List.take_add_one, ha]
    have e : xs = xs.take i ++ a :: xs.drop (i + 1) := by
      have ht := List.take_append_drop (i + 1) xs
      rw [hs, List.append_assoc] at ht
      exact ht.symm
    rw [hs]
    exact turn c' _ _ a m₁ h tk own e hown hoff hf' hp' (kst_fr h1 h2 F₁) N₁
  · rintro m₁ nx h tk ⟨c', rfl, hf', h1, h2, hp'⟩ hnl F₁ N₁
    rw [List.length_map, List.take_length] at hp'
    exact done c' m₁ h tk hf' hp' hnl (kst_frOut h1 h2 F₁) N₁

theorem truthy_Lst {l : Addr} {vs : List Value} {c : Nat} {L : Addr} {news : List (Addr × Obj)} {Q : Bool → Shared → Prop} (N : News h₀ L s.heap news) (hm : (l, listOf vs.toArray c) ∈ news) (hfit : vs.length < 2 ^ 63)
    (h : Q (!vs.isEmpty) { s with toks := s.toks + 1 + 1 }) : wpAny (model prog w) A (truthy (.ref l)) Q E s :=
  wpAny_truthy_list (items := vs.toArray) ⟨_, (N _ hm).1, rfl, c, rfl⟩ (by rw [List.size_toArray]; omega) (by rw [List.isEmpty_toArray]; exact h)
end
end Mine
end

section
namespace Mine
section
variable {prog : Program} {w : World} {A : Around} {E : Value → Shared → Prop} {s : Shared}
/-- going over map(str, texts) -/
theorem Walks.mapStr (hh : A.handled = none) {M T I l : Addr} {zs : List (Str × Tok)} {c : Nat} (hMI : M ≠ I) (hTI : T ≠ I) (hlI : l ≠ I) :
    Walks prog w A M [M, T, I, l] [I] zs.length (fun i v => ∀ y, zs[i]? = some y → v = .str y.1 y.2)
      (fun i h => h.IsListIter I l i ∧ h.get? M = some (mapObj T (.type "str")) ∧ h.get? T = some (oneObj I) ∧ h.get? l = some (listOf (strValues zs).toArray c)) := by
  have isl : ∀ {h : Heap}, h.get? l = some (listOf (strValues zs).toArray c) → h.IsList l (strValues zs).toArray := fun e => ⟨_, e, rfl, c, rfl⟩
  exact {
    sub := fun b hb => by rw [List.mem_singleton.mp hb]; simp
    frame := fun i h h' st hk => ⟨st.1.at fun o e => hk I (by simp) o e, hk M (by simp) _ st.2.1, hk T (by simp) _ st.2.2.1, hk l (by simp) _ st.2.2.2⟩
    item := fun i s Q E hi st hQ => by
      obtain ⟨h1, hM, hT, hl⟩ := st
      obtain ⟨y, hy⟩ : ∃ y, zs[i]? = some y := ⟨_, List.getElem?_eq_getElem hi⟩
      refine map_next_item hM hT h1 (isl hl) (x := .str y.1 y.2) (by simp [strValues, hy]) hMI fun h₁ h1₁ hs₁ => ?_
      refine PySem.P.str_of_str ?_
      refine hQ (.str y.1 y.2) h₁ _ (fun y' hy' => by rw [hy] at hy'; cases hy'; rfl) ⟨h1₁, hs₁.extBut _ _ hMI hM, hs₁.extBut _ _ hTI hT, hs₁.extBut _ _ hlI hl⟩ fun b o hb e => hs₁.extBut _ _ (fun h => hb (by simp [h])) e
    done := fun s Q E st hQ => by
      obtain ⟨h1, hM, hT, hl⟩ := st
      exact map_next_end hh hM hT h1 (isl hl) (by simp [strValues]) fun h' he' => hQ h' s.toks fun b o hb e => he' _ _ (fun h => hb (by simp [h])) e
    self := fun i s Q E st hQ => map_iter st.2.1 hQ }

section
variable {h₀ : Heap} {L : Addr} {m : Str → Option Value} {news rest : List (Addr × Obj)}
/-- xs.extend(map(str, ys)) -/
theorem extend_strs {D M T I l : Addr} {ys zs : List (Str × Tok)} {c n : Nat} {Q : Value → Shared → Prop} (hh : A.handled = none) (F : Fr h₀ L s.heap m) (N : News h₀ L s.heap news)
    (hM : (M, mapObj T (.type "str")) ∈ news) (hT : (T, oneObj I) ∈ news) (hI : (I, lisObj l) ∈ news) (hl : (l, listOf (strValues zs).toArray c) ∈ news) (hD : (D, listOf (strValues ys).toArray n) ∈ news)
    (hDl : D ≠ l) (hrest : ∀ q ∈ rest, q ∈ news ∧ q.1 ≠ I ∧ q.1 ≠ D) (hz : ys.length + zs.length < sizeLine)
    (hQ : ∀ h' tk' c', Fr h₀ L h' m → News h₀ L h' ((D, listOf (strValues (ys ++ zs)).toArray c') :: rest) → Q .none { s with heap := h', toks := tk' }) :
    wpAny (model prog w) A (call (.builtin "list.extend") [.ref D, .ref M]) Q E s := by
  have nM := N _ hM; have nT := N _ hT; have nI := N _ hI; have nl := N _ hl; have nD := N _ hD
  have ne : ∀ {a b : Addr} {o o' : Obj}, s.heap.get? a = some o → s.heap.get? b = some o' → o.cls ≠ o'.cls → a ≠ b := by
    rintro a b o o' e1 e2 hc rfl
    rw [e1] at e2; cases e2; exact hc rfl
  have hMI : M ≠ I := ne nM.1 nI.1 (by show Value.type "map" ≠ Value.type "list_iterator"; decide)
  have hTI : T ≠ I := ne nT.1 nI.1 (by show Value.type "tuple" ≠ Value.type "list_iterator"; decide)
  have hlI : l ≠ I := ne nl.1 nI.1 (by show Value.type "list" ≠ Value.type "list_iterator"; decide)
  have hDM : D ≠ M := ne nD.1 nM.1 (by show Value.type "list" ≠ Value.type "map"; decide)
  have hDT : D ≠ T := ne nD.1 nT.1 (by show Value.type "list" ≠ Value.type "tuple"; decide)
  have hDI : D ≠ I := ne nD.1 nI.1 (by show Value.type "list" ≠ Value.type "list_iterator"; decide)
  have hDf : D ∉ [M, T, I, l] := by simp only [List.mem_cons, List.not_mem_nil, or_false, not_or]; exact ⟨hDM, hDT, hDI, hDl⟩
  have hlen : (strValues ys).toArray.size = ys.length := by simp [strValues]
  refine wpAny_call (codeAny_call_builtin PySem.F.slot_list_extend.plain PySem.F.entry_list_extend (PySem.F.slot_list_extend.check _ _ _ _ _ _ _ _ ⟨_, nD.1, rfl⟩ (PySem.F.args_list_extend_2 _ _) ?_))
  show wpAny _ A.in1 (Builtin.List.listExtendWith (.ref D) (.ref M) .none) _ _ s
  refine extend_with (R := fun r s' => match r with | .ok (.ret v) => Q v s' | .ok _ => False | .error e => E e s') (T := "map") (by decide) (by decide) map_no_len map_no_hint (Walks.mapStr (A := A.in1) (zs := zs) (c := c) (T := T) hh hMI hTI hlI) (fun i s' st => ⟨_, st.2.1, rfl⟩) D hDf (by simp) .none ⟨⟨_, nI.1, rfl, rfl⟩, nM.1, nT.1, nl.1⟩ nD.1 (by rw [hlen]; exact hz) ?_
  intro h' tk' c' more hk hS hm hP
  have hmore : more = strValues zs := by
    apply List.ext_getElem?
    intro j
    by_cases hj : j < zs.length
    · obtain ⟨y, hy⟩ : ∃ y, zs[j]? = some y := ⟨_, List.getElem?_eq_getElem hj⟩
      obtain ⟨v, hv⟩ : ∃ v, more[j]? = some v := ⟨_, List.getElem?_eq_getElem (by omega)⟩
      rw [hv, hP j v hv y hy]
      simp [strValues, hy]
    · rw [List.getElem?_eq_none (by omega), List.getElem?_eq_none (by simp [strValues]; omega)]
  subst hmore
  have hcat : (strValues ys).toArray ++ (strValues zs).toArray = (strValues (ys ++ zs)).toArray := by simp [strValues]
  rw [hcat] at hS
  have hk' : ∀ b o, b ≠ I → b ≠ D → s.heap.get? b = some o → h'.get? b = some o := fun b o h1 h2 e => hk b o (by simp only [List.mem_cons, List.not_mem_nil, or_false, not_or]; exact ⟨h2, h1⟩) e
  refine hQ h' tk' c' ⟨F.ns.at' fun o e => hk' _ o (Ne.symm nI.2.1) (Ne.symm nD.2.1) e, fun b o e => hk' b o (by rintro rfl; rw [nI.2.2] at e; cases e) (by rintro rfl; rw [nD.2.2] at e; cases e) (F.keep b o e), F.above⟩ ?_
  intro q hq
  rcases List.mem_cons.mp hq with rfl | hq
  · exact ⟨hS, nD.2⟩
  · obtain ⟨h1, h2, h3⟩ := hrest q hq
    exact ⟨hk' _ _ h2 h3 (N q h1).1, (N q h1).2⟩
end
end
end Mine
end

section
namespace Mine
def uaS : Str := Str.ofString "User-agent: "
def cdS : Str := Str.ofString "Crawl-delay: "
def rrS : Str := Str.ofString "Request-rate: "
def alS : Str := Str.ofString "Allow:"
def intS (i : Int) : Str := Str.ofString (toString i)
/-- what stands in a record, as its text shows it -/
structure Dat9 where
  (ag rl : List Str) (dl : Option Int) (rt : Option (Int × Int))
def dlL : Option Int → List Str | none => [] | some i => [cdS ++ intS i]
def rtL : Option (Int × Int) → List Str | none => [] | some p => [rrS ++ intS p.1 ++ Str.ofString "/" ++ intS p.2]
def rlL (l : List Str) : List Str := if l = [] then [alS] else l
def Dat9.lines (e : Dat9) : List Str := e.ag.map (uaS ++ ·) ++ (dlL e.dl ++ (rtL e.rt ++ rlL e.rl))
def Dat9.text (e : Dat9) : Str := if e.ag = [] then Str.ofString "" else Str.join (Str.ofString "\n") e.lines
structure Dat9.Small (e : Dat9) : Prop where
  (ag : ∀ y ∈ e.ag, y.length ≤ 20) (rl : ∀ y ∈ e.rl, y.length ≤ 20) (dl : ∀ i ∈ e.dl, 0 ≤ i ∧ i ≤ 30) (rt : ∀ p ∈ e.rt, 0 ≤ p.1 ∧ p.1 ≤ 30 ∧ 0 ≤ p.2 ∧ p.2 ≤ 30)
theorem intS_len {i : Int} (h0 : 0 ≤ i) (h1 : i ≤ 30) : (intS i).length ≤ 3 := by
  have key : ∀ n : Fin 31, (intS (n.val : Int)).length ≤ 3 := by decide +kernel
  obtain ⟨n, rfl⟩ := Int.eq_ofNat_of_zero_le h0
  exact key ⟨n, by omega⟩
theorem uaS_len : uaS.length = 12 := by decide +kernel
theorem cdS_len : cdS.length = 13 := by decide +kernel
theorem rrS_len : rrS.length = 14 := by decide +kernel
theorem alS_len : alS.length = 6 := by decide +kernel
theorem slS_len : (Str.ofString "/").length = 1 := by decide +kernel
theorem nlS_len : (Str.ofString "\n").length = 1 := by decide +kernel
theorem Dat9.lines_len {e : Dat9} (h : e.Small) : ∀ y ∈ e.lines, y.length ≤ 40 := by
  intro y hy
  simp only [Dat9.lines, List.mem_append, List.mem_map] at hy
  rcases hy with ⟨a, ha, rfl⟩ | hy | hy | hy
  · rw [strLen_append, uaS_len]; have := h.ag a ha; omega
  · cases hd : e.dl with
    | none => rw [hd] at hy; cases hy
    | some i =>
      rw [hd] at hy
      rw [List.mem_singleton.mp hy, strLen_append, cdS_len]
      have := h.dl i (by rw [hd]; rfl)
      have := intS_len this.1 this.2
      omega
  · cases hd : e.rt with
    | none => rw [hd] at hy; cases hy
    | some p =>
      rw [hd] at hy
      rw [List.mem_singleton.mp hy, strLen_append, strLen_append, strLen_append, rrS_len, slS_len]
      have := h.rt p (by rw [hd]; rfl)
      have := intS_len this.1 this.2.1
      have := intS_len (h.rt p (by rw [hd]; rfl)).2.2.1 (h.rt p (by rw [hd]; rfl)).2.2.2
      omega
  · unfold rlL at hy
    split at hy
    · rw [List.mem_singleton.mp hy, alS_len]; omega
    · have := h.rl y hy; omega
theorem Dat9.lines_few {e : Dat9} {n m : Nat} (h1 : e.ag.length ≤ n) (h2 : e.rl.length ≤ m) : e.lines.length ≤ n + m + 3 := by
  have a1 : (dlL e.dl).length ≤ 1 := by cases e.dl <;> simp [dlL]
  have a2 : (rtL e.rt).length ≤ 1 := by cases e.rt <;> simp [rtL]
  have a3 : (rlL e.rl).length ≤ m + 1 := by
    unfold rlL; split
    · simp
    · omega
  simp only [Dat9.lines, List.length_append, List.length_map]
  omega
theorem join_ok {e : Dat9} (h : e.Small) {n m : Nat} (h1 : e.ag.length ≤ n) (h2 : e.rl.length ≤ m) (hn : n ≤ 1000) (hm : m ≤ 1000) {Y : List (Str × Tok)} (hY : Y.map (·.1) = e.lines) : (∀ y ∈ Y, y.1.length ≤ 40) ∧ Y.length * 40 + Y.length * (Str.ofString "\n").length ≤ 16777216 := by
  refine ⟨fun y hy => Dat9.lines_len h _ (by rw [← hY]; exact List.mem_map_of_mem hy), ?_⟩
  have := Dat9.lines_few h1 h2
  rw [← hY, List.length_map] at this
  rw [nlS_len]
  omega
section
variable {prog : Program} {w : World} {A : Around} {E : Value → Shared → Prop} {s : Shared} {h₀ : Heap} {L D : Addr} {news : List (Addr × Obj)}
theorem join_end {e : Dat9} {Y : List (Str × Tok)} {c : Nat} {t : Tok} {Q : Value → Shared → Prop} (N : News h₀ L s.heap news) (hm : (D, listOf (strValues Y).toArray c) ∈ news) (h : e.Small) (h1 : e.ag.length ≤ 70) (h2 : e.rl.length ≤ 140) (hY : Y.map (·.1) = e.lines)
    (hq : ∀ t' k, Q (.str (Str.join (Str.ofString "\n") e.lines) t') { s with toks := k }) : wpAny (model prog w) A (call (.builtin "str.join") [.str (Str.ofString "\n") t, .ref D]) Q E s := by
  obtain ⟨a, b⟩ := join_ok h h1 h2 (by omega) (by omega) hY
  refine join_T N hm a b ?_
  rw [hY]; exact hq
end
end Mine
end

section
namespace Mine
theorem nlS_is : Str.ofString "\n" = ⟨#[10]⟩ := by decide +kernel
def isUA (theirs : List Str) (z : Str) : Bool := (Txt.slice z none (some 12) == Str.ofString "User-agent: ") && (theirs.any fun x => x == z)
def isKey (k : Str) (n : Int) (z : Str) : Bool := Txt.slice z none (some n) == k
def isRule (z : Str) : Bool := (Txt.slice z none (some 7) == Str.ofString "Allow: ") || (Txt.slice z none (some 10) == Str.ofString "Disallow: ")
def lastL {α : Type} (l : List α) : List α := l.drop (l.length - 1)
def mergedL (us vs : List Str) : List Str :=
  us.filter (isUA vs) ++ lastL ((us ++ vs).filter (isKey (Str.ofString "Crawl-delay: ") 13)) ++ lastL ((us ++ vs).filter (isKey (Str.ofString "Request-rate: ") 14)) ++ rlL ((us ++ vs).filter isRule)
def mergedT (x y : Str) : Str :=
  if x = Str.ofString "" ∨ y = Str.ofString "" ∨ (Txt.split x (Str.ofString "\n")).filter (isUA (Txt.split y (Str.ofString "\n"))) = [] then Str.ofString "" else Str.join (Str.ofString "\n") (mergedL (Txt.split x (Str.ofString "\n")) (Txt.split y (Str.ofString "\n")))
theorem isUA_yes {vs : List Str} {z : Str} (h1 : (Txt.slice z none (some 12) == Str.ofString "User-agent: ") = true) (h2 : (vs.any fun x => x == z) = true) : isUA vs z = true := by unfold isUA; rw [h1, h2]; rfl
theorem isUA_no1 {vs : List Str} {z : Str} (h1 : (Txt.slice z none (some 12) == Str.ofString "User-agent: ") = false) : isUA vs z = false := by unfold isUA; rw [h1]; rfl
theorem isUA_no2 {vs : List Str} {z : Str} (h2 : (vs.any fun x => x == z) = false) : isUA vs z = false := by unfold isUA; rw [h2, Bool.and_false]
theorem isRule_yes1 {z : Str} (h1 : (Txt.slice z none (some 7) == Str.ofString "Allow: ") = true) : isRule z = true := by unfold isRule; rw [h1]; rfl
theorem isRule_yes2 {z : Str} (h1 : (Txt.slice z none (some 10) == Str.ofString "Disallow: ") = true) : isRule z = true := by unfold isRule; rw [h1, Bool.or_true]
theorem isRule_no {z : Str} (h1 : (Txt.slice z none (some 7) == Str.ofString "Allow: ") = false) (h2 : (Txt.slice z none (some 10) == Str.ofString "Disallow: ") = false) : isRule z = false := by unfold isRule; rw [h1, h2]; rfl
theorem filter_snoc_yes {α : Type} {p : α → Bool} {l ys : List α} {a : α} (h : ys = l.filter p) (ha : p a = true) : ys ++ [a] = (l ++ [a]).filter p := by rw [h]; simp [ha]
theorem filter_snoc_no {α : Type} {p : α → Bool} {l ys : List α} {a : α} (h : ys = l.filter p) (ha : p a = false) : ys = (l ++ [a]).filter p := by rw [h]; simp [ha]
section
variable {prog : Program} {w : World} {A : Around} {E : Value → Shared → Prop} {s : Shared} {a b : Addr} {xs : List Value} {Q : Value → Shared → Prop}
theorem ne_some (ha : s.heap.IsList a xs.toArray) (hb : s.heap.IsList b #[]) (hu : A.units < cLine) (hx : xs ≠ []) (h : Q (.bool true) s) : wpAny (model prog w) A (compareOp .NotEq (.ref a) (.ref b)) Q E s :=
  PySem.SeqAt.RcNeAt.lists_lengths ha hb (by cases xs with | nil => exact absurd rfl hx | cons _ _ => simp) hu prog w E Q h
end
theorem filter_texts (b : Str → Bool) (us : List (Str × Tok)) : (us.filter fun p => b p.1).map (·.1) = (us.map (·.1)).filter b := by
  induction us with
  | nil => rfl
  | cons a r ih =>
    simp only [List.map_cons, List.filter_cons]
    split <;> simp [ih]
theorem lastL_map {α β : Type} (f : α → β) (l : List α) : (lastL l).map f = lastL (l.map f) := by unfold lastL; rw [List.map_drop, List.length_map]
theorem lastL_sub {α : Type} {l : List α} {a : α} (h : a ∈ lastL l) : a ∈ l := List.mem_of_mem_drop h
theorem str_ne {x : Str} (h : (x == Str.ofString "") = false) : x ≠ Str.ofString "" := by
  intro e; rw [e] at h; simp at h
section
variable {x y : Str} {us vs ls ts tsb rs : List (Str × Tok)}
theorem merged_none1 (h : (x == Str.ofString "") = true) : mergedT x y = Str.ofString "" := by unfold mergedT; rw [if_pos (.inl (beq_iff_eq.mp h))]
theorem merged_none2 (h : (y == Str.ofString "") = true) : mergedT x y = Str.ofString "" := by unfold mergedT; rw [if_pos (.inr (.inl (beq_iff_eq.mp h)))]
theorem merged_ls (e1 : us.map (·.1) = Txt.split x (Str.ofString "\n")) (e2 : vs.map (·.1) = Txt.split y (Str.ofString "\n")) (hls : us.filter (fun p => isUA (vs.map (·.1)) p.1) = ls) :
    ls.map (·.1) = (Txt.split x (Str.ofString "\n")).filter (isUA (Txt.split y (Str.ofString "\n"))) := by
  rw [← hls, filter_texts, e1, e2]
theorem merged_none3 (e1 : us.map (·.1) = Txt.split x (Str.ofString "\n")) (e2 : vs.map (·.1) = Txt.split y (Str.ofString "\n")) (hls : us.filter (fun p => isUA (vs.map (·.1)) p.1) = ls) (h : ls = []) : mergedT x y = Str.ofString "" := by
  unfold mergedT; rw [if_pos (.inr (.inr (by rw [← merged_ls e1 e2 hls, h]; rfl)))]
theorem merged_some (hx : (x == Str.ofString "") = false) (hy : (y == Str.ofString "") = false) (e1 : us.map (·.1) = Txt.split x (Str.ofString "\n")) (e2 : vs.map (·.1) = Txt.split y (Str.ofString "\n")) (hls : us.filter (fun p => isUA (vs.map (·.1)) p.1) = ls) (h : ls ≠ [])
    (hts : (us ++ vs).filter (fun p => isKey (Str.ofString "Crawl-delay: ") 13 p.1) = ts) (htsb : (us ++ vs).filter (fun p => isKey (Str.ofString "Request-rate: ") 14 p.1) = tsb) (hrs : rs = (us ++ vs).filter (fun p => isRule p.1)) :
    mergedT x y = Str.join (Str.ofString "\n") ((ls ++ lastL ts ++ lastL tsb).map (·.1) ++ rlL (rs.map (·.1))) := by
  unfold mergedT
  have e3 := merged_ls e1 e2 hls
  rw [if_neg (by
    rintro (h1 | h1 | h1)
    · exact str_ne hx h1
    · exact str_ne hy h1
    · rw [← e3] at h1; exact h (List.map_eq_nil_iff.mp h1))]
  congr 1
  unfold mergedL
  rw [List.map_append, List.map_append, e3, lastL_map, lastL_map, ← hts, ← htsb, hrs, filter_texts, filter_texts, filter_texts, List.map_append, e1, e2]
end
section
variable {prog : Program} {w : World} {A : Around} {E : Value → Shared → Prop} {s : Shared} {h₀ : Heap} {L D : Addr} {news : List (Addr × Obj)}
theorem join_end2 {Y : List (Str × Tok)} {X : List Str} {c : Nat} {t : Tok} {Q : Value → Shared → Prop} (N : News h₀ L s.heap news) (hm : (D, listOf (strValues Y).toArray c) ∈ news) (hB : ∀ y ∈ Y, y.1.length ≤ 40) (hl : Y.length ≤ 3000) (hY : Y.map (·.1) = X)
    (hq : ∀ t' k, Q (.str (Str.join (Str.ofString "\n") X) t') { s with toks := k }) : wpAny (model prog w) A (call (.builtin "str.join") [.str (Str.ofString "\n") t, .ref D]) Q E s := by
  refine join_T N hm hB (by rw [nlS_len]; omega) ?_
  rw [hY]; exact hq
end
theorem rlL_some {l : List Str} (h : l ≠ []) : rlL l = l := by unfold rlL; rw [if_neg h]
theorem bound_filter {us : List (Str × Tok)} {p : Str × Tok → Bool} {B : Nat} (h : ∀ y ∈ us, y.1.length ≤ B) : ∀ y ∈ us.filter p, y.1.length ≤ B := fun y hy => h y (List.mem_filter.mp hy).1
theorem bound_append {us vs : List (Str × Tok)} {B : Nat} (h : ∀ y ∈ us, y.1.length ≤ B) (h' : ∀ y ∈ vs, y.1.length ≤ B) : ∀ y ∈ us ++ vs, y.1.length ≤ B := fun y hy => (List.mem_append.mp hy).elim (h y) (h' y)
theorem bound_last {us : List (Str × Tok)} {B : Nat} (h : ∀ y ∈ us, y.1.length ≤ B) : ∀ y ∈ lastL us, y.1.length ≤ B := fun y hy => h y (lastL_sub hy)
end Mine
end

section
namespace Mine
theorem ne_of_cls {h₀ h : Heap} {L : Addr} {news : List (Addr × Obj)} {a b : Addr} {o o' : Obj} (N : News h₀ L h news) (h1 : (a, o) ∈ news) (h2 : (b, o') ∈ news) (hc : o.cls ≠ o'.cls) : a ≠ b := by
  rintro rfl
  have e1 := (N _ h1).1
  have e2 := (N _ h2).1
  rw [e1] at e2
  cases e2
  exact hc rfl
theorem ne_inst {h₀ h : Heap} {L : Addr} {news : List (Addr × Obj)} {a b C d : Addr} {vs : Array Value} {c : Nat} (N : News h₀ L h news) (h1 : (a, listOf vs c) ∈ news) (h2 : (b, instObj C d) ∈ news) : a ≠ b := ne_of_cls N h1 h2 (by show Value.type "list" ≠ Value.ref C; exact fun h => nomatch h)
theorem ne_dict {h₀ h : Heap} {L : Addr} {news : List (Addr × Obj)} {a b : Addr} {vs : Array Value} {c n : Nat} {es : List _} (N : News h₀ L h news) (h1 : (a, listOf vs c) ∈ news) (h2 : (b, dictOf es n) ∈ news) : a ≠ b := ne_of_cls N h1 h2 (by show Value.type "list" ≠ Value.type "dict"; decide)
theorem sv_size {ys : List (Str × Tok)} (h : ys.length ≤ 100000) : (strValues ys).toArray.size ≤ sizeLine := by
  simp only [List.size_toArray, strValues_length, sizeLine]; omega
theorem push_str (ys : List (Str × Tok)) (a : Str) (t : Tok) : (strValues ys).toArray.push (.str a t) = (strValues (ys ++ [(a, t)])).toArray := push_texts ys (a, t)
section
variable {prog : Program} {w : World} {A : Around} {E : Value → Shared → Prop} {s : Shared} {h₀ : Heap} {L D : Addr} {m : Str → Option Value} {news news' : List (Addr × Obj)}
theorem append_T {ys : List (Str × Tok)} {n : Nat} {a : Str} {t : Tok} {Q : Value → Shared → Prop} (F : Fr h₀ L s.heap m) (N : News h₀ L s.heap news) (U : Upd D (listOf (strValues ys).toArray n) (listOf (strValues (ys ++ [(a, t)])).toArray (n + 1)) news news')
    (hz : ys.length ≤ 100000) (h : ∀ h', Fr h₀ L h' m → News h₀ L h' news' → Q .none { s with heap := h' }) : wpAny (model prog w) A (call (.builtin "list.append") [.ref D, .str a t]) Q E s := by
  rw [← push_str] at U
  exact append_K F N U h (sv_size hz)
end
/-- a rate: an instance, its dict -/
structure Rate where
  (x d u r : Addr) (t1 t2 t3 t4 t5 t6 a b : Tok) (rq rs : Int)
def Rate.cells (q : Params) (e : Rate) : List (Addr × Obj) :=
  [(e.x, instObj 59 e.d), (e.d, dictOf [⟨PyData.keyHash q (Str.ofString "useragents"), .str (Str.ofString "useragents") e.t1, .ref e.u⟩, ⟨PyData.keyHash q (Str.ofString "rulelines"), .str (Str.ofString "rulelines") e.t2, .ref e.r⟩,
    ⟨PyData.keyHash q (Str.ofString "delay"), .str (Str.ofString "delay") e.t3, .none⟩, ⟨PyData.keyHash q (Str.ofString "req_rate"), .str (Str.ofString "req_rate") e.t4, .none⟩,
    ⟨PyData.keyHash q (Str.ofString "requests"), .str (Str.ofString "requests") e.t5, .int e.rq e.a⟩, ⟨PyData.keyHash q (Str.ofString "seconds"), .str (Str.ofString "seconds") e.t6, .int e.rs e.b⟩] 6)]
def rtV : Option Rate → Value | none => .none | some e => .ref e.x
def rtC (q : Params) : Option Rate → List (Addr × Obj) | none => [] | some e => e.cells q
def dlV : Option (Int × Tok) → Value | none => .none | some i => .int i.1 i.2
theorem mem_rtC {q : Params} {rt : Option Rate} {own : List (Addr × Obj)} {T : List (Addr × Obj)} (hT : rtC q rt ++ own = T) : (∀ p ∈ rtC q rt, p ∈ T) ∧ ∀ p ∈ own, p ∈ T := by
  subst hT
  exact ⟨fun p hp => List.mem_append.mpr (.inl hp), fun p hp => List.mem_append.mpr (.inr hp)⟩
def datOf (ag rl : List (Str × Tok)) (dl : Option (Int × Tok)) (rt : Option Rate) : Dat9 := ⟨ag.map (·.1), rl.map (·.1), dl.map (·.1), rt.map fun e => (e.rq, e.rs)⟩
section
variable {prog : Program} {w : World} {A : Around} {E : Value → Shared → Prop} {s : Shared} {h₀ : Heap} {L D b : Addr} {m : Str → Option Value} {news news' : List (Addr × Obj)}
theorem extend_T {ys zs : List (Str × Tok)} {n n2 : Nat} {Q : Value → Shared → Prop} (F : Fr h₀ L s.heap m) (N : News h₀ L s.heap news) (hb : (b, listOf (strValues zs).toArray n2) ∈ news)
    (U : Upd D (listOf (strValues ys).toArray n) (listOf (strValues (ys ++ zs)).toArray (n + min 1 zs.length)) news news') (hz : ys.length + zs.length ≤ 100000)
    (h : ∀ h', Fr h₀ L h' m → News h₀ L h' news' → Q .none { s with heap := h' }) : wpAny (model prog w) A (call (.builtin "list.extend") [.ref D, .ref b]) Q E s := by
  obtain ⟨pre, post, rfl, rfl, a, c⟩ := U.split
  have z := N (D, listOf (strValues ys).toArray n) (List.mem_append.mpr (.inr (.head _)))
  have hs1 : (strValues ys).toArray.size = ys.length := by simp [strValues]
  have hs2 : (strValues zs).toArray.size = zs.length := by simp [strValues]
  have e : Obj.mapSeq (· ++ (strValues zs).toArray) (listOf (strValues ys).toArray n) = listOf (strValues (ys ++ zs)).toArray (n + min 1 zs.length) := by
    cases zs with
    | nil => simp [Obj.mapSeq, strValues]
    | cons q r =>
      have : min 1 (r.length + 1) = 1 := by omega
      simp [Obj.mapSeq, strValues, this]
  obtain ⟨F', N'⟩ := news_upd F N a c e rfl
  refine call_meets PySem.F.slot_list_extend ⟨_, z.1, rfl⟩ PySem.F.entry_list_extend (PySem.F.args_list_extend_2 _ _) (PySem.AutoSeq1.list_extend_list_list_0 D (strValues ys).toArray n b (strValues zs).toArray n2 ?_ ?_ ?_) ⟨z.1, (N _ hb).1, h _ F' N'⟩
  · have : Builtin.List.listTooLong ((strValues ys).toArray.size + (strValues zs).toArray.size) = false := by
      unfold Builtin.List.listTooLong
      rw [hs1, hs2]
      simp [sizeLine]
      omega
    rw [this]; simp
  · rw [hs1]; simp only [sizeLine]; omega
  · rw [hs1, hs2]; simp only [sizeLine]; omega
theorem last_T {value slice : Expr} {ts : List (Str × Tok)} {c : Nat} {u : Tok} {Q : Value → Shared → Prop} (F : Fr h₀ L s.heap m) (N : News h₀ L s.heap news) (hm : (D, listOf (strValues ts).toArray c) ∈ news) (hz : ts.length ≤ 100000)
    (h : ∀ D' h', Fr h₀ L h' m → News h₀ L h' ((D', listOf (strValues (lastL ts)).toArray 0) :: news) → (∀ p ∈ news, p.1 < D') → Q (.ref D') { s with heap := h' })
    (hs : subscripted slice false (.ref D) (.ref s.heap.objs.size) = operate [.ref s.heap.objs.size, .ref D] (getItem (.ref D) (.ref s.heap.objs.size))) (ht : ∀ r, letTemporaryGo value (.ref D) r = pure ()) :
    wpAny (model prog w) A (subscriptTail value slice (.ref D) (.ref s.heap.objs.size)) Q E { s with heap := s.heap.push { cls := .type "slice", data := .fields #[.int (-1) u, .none, .none] } } := by
  refine kmk_slice_lit (its := (strValues ts).toArray) (lo := some (-1)) (hi := none) F N ⟨_, (N _ hm).1, rfl, c, rfl⟩ (IsPart.int _ _) IsPart.none ?_ h hs ht (by rw [List.size_toArray, strValues_length]; simp only [sizeLine]; omega)
  have := slicePick_last (strValues ts).toArray 1 (Nat.le_refl _)
  rw [show (-((1 : Nat) : Int)) = -1 from rfl] at this
  rw [this]
  simp [strValues, lastL]
end
def pickV (a b : Value) : Value := match b with | .none => a | b => b
@[irreducible] def HeldV (V : Value) (s : Shared) (v : Value) (s' : Shared) : Prop := v = V ∧ ∃ tk, s' = { s with toks := tk }
theorem heldV_intro {V : Value} {s : Shared} {v : Value} {tk : Nat} (h : v = V) : HeldV V s v { s with toks := tk } := by unfold HeldV; exact ⟨h, tk, rfl⟩
theorem heldV_elim {V : Value} {s : Shared} {v : Value} {s' : Shared} (h : HeldV V s v s') : v = V ∧ ∃ tk, s' = { s with toks := tk } := by unfold HeldV at h; exact h
theorem held_at {M : Model} {A : Around} {t : Sem Value} {Q E : Value → Shared → Prop} {s : Shared} (V : Value) (ev : wpAny M A t (HeldV V s) E s) (go : ∀ tk, Q V { s with toks := tk }) : wpAny M A t Q E s :=
  wpAny_mono ev (fun v s' h => by obtain ⟨rfl, tk, rfl⟩ := heldV_elim h; exact go tk) fun _ _ e => e
theorem pick_dl (a b : Option (Int × Tok)) : pickV (dlV a) (dlV b) = dlV (b.or a) := by cases a <;> cases b <;> rfl
theorem pick_rt (a b : Option Rate) : pickV (rtV a) (rtV b) = rtV (b.or a) := by cases a <;> cases b <;> rfl
section
variable {prog : Program} {w : World} {A : Around} {E : Value → Shared → Prop} {s : Shared} {h₀ : Heap} {L : Addr} {m : Str → Option Value} {news : List (Addr × Obj)}
/-- the sum of two lists -/
theorem add_vals_G {a b : Addr} {ca cb : Nat} {xs ys : List Value} {Q : Value → Shared → Prop} (F : Fr h₀ L s.heap m) (N : News h₀ L s.heap news)
    (ha : (a, listOf xs.toArray ca) ∈ news) (hb : (b, listOf ys.toArray cb) ∈ news) (hz : xs.length + ys.length ≤ sizeLine)
    (h : ∀ h' (D : Addr), Fr h₀ L h' m → News h₀ L h' ((D, listOf (xs ++ ys).toArray 0) :: news) → (∀ p ∈ news, p.1 < D) → Q (.ref D) { s with heap := h' }) :
    wpAny (model prog w) A (binaryOp .Add (.ref a) (.ref b)) Q E s :=
  kmk_add_lit F N ⟨_, (N _ ha).1, rfl, ca, rfl⟩ ⟨_, (N _ hb).1, rfl, cb, rfl⟩ (by simp) (fun D h' F' N' l => h h' D F' N' l) (by simpa using hz)
end
end Mine
end

section
namespace Mine
def agT : List Str := [Str.ofString "plum", Str.ofString "fig", Str.ofString "Fig", Str.ofString "*", Str.ofString "Allow: /"]
def rlT : List Str := [Str.ofString "Allow: ", Str.ofString "Disallow: /", Str.ofString "Allow: /Allow:", Str.ofString "Disallow: ", Str.ofString "Allow: /*", Str.ofString "Disallow: /x$"]
def dlT : List Int := [0, 12]
def rtT : List (Int × Int) := [(0, 1), (30, 7)]
structure Dat9.Good (e : Dat9) : Prop where
  (ag : ∀ a ∈ e.ag, a ∈ agT) (rl : ∀ a ∈ e.rl, a ∈ rlT) (dl : ∀ i ∈ e.dl, i ∈ dlT) (rt : ∀ p ∈ e.rt, p ∈ rtT)
def kUA (z : Str) : Bool := Txt.slice z none (some 12) == Str.ofString "User-agent: "
def kCD : Str → Bool := isKey (Str.ofString "Crawl-delay: ") 13
def kRR : Str → Bool := isKey (Str.ofString "Request-rate: ") 14
/-- what kind of line it is: agent, delay, rate, rule, none -/
def kinds (z : Str) : List Bool := [kUA z, kCD z, kRR z, isRule z, (lis z).contains 10]
theorem kind_ag : ∀ a ∈ agT, kinds (uaS ++ a) = [true, false, false, false, false] := by decide +kernel
theorem kind_dl : ∀ i ∈ dlT, kinds (cdS ++ intS i) = [false, true, false, false, false] := by decide +kernel
theorem kind_rt : ∀ p ∈ rtT, kinds (rrS ++ intS p.1 ++ Str.ofString "/" ++ intS p.2) = [false, false, true, false, false] := by decide +kernel
theorem kind_rl : ∀ a ∈ rlT, kinds a = [false, false, false, true, false] := by decide +kernel
theorem kind_al : kinds alS = [false, false, false, false, false] := by decide +kernel
theorem small_ag : ∀ a ∈ agT, a.length ≤ 20 := by decide +kernel
theorem small_rl : ∀ a ∈ rlT, a.length ≤ 20 := by decide +kernel
theorem Dat9.Good.small {e : Dat9} (h : e.Good) : e.Small where
  ag := fun y hy => small_ag y (h.ag y hy)
  rl := fun y hy => small_rl y (h.rl y hy)
  dl := fun i hi => by
    have := h.dl i hi
    simp only [dlT, List.mem_cons, List.not_mem_nil, or_false] at this
    omega
  rt := fun p hp => by
    have := h.rt p hp
    simp only [rtT, List.mem_cons, List.not_mem_nil, or_false] at this
    rcases this with rfl | rfl <;> decide
theorem kinds_at {z : Str} {a b c d f : Bool} (h : kinds z = [a, b, c, d, f]) : kUA z = a ∧ kCD z = b ∧ kRR z = c ∧ isRule z = d ∧ (lis z).contains 10 = f := by
  simp only [kinds, List.cons.injEq, and_true] at h
  exact h
theorem isUA_kUA (vs : List Str) (z : Str) : isUA vs z = (kUA z && vs.any fun x => x == z) := rfl
def part1 (e : Dat9) : List Str := e.ag.map (uaS ++ ·)
theorem lines_kinds {e : Dat9} (h : e.Good) : (∀ z ∈ part1 e, kinds z = [true, false, false, false, false]) ∧ (∀ z ∈ dlL e.dl, kinds z = [false, true, false, false, false]) ∧ (∀ z ∈ rtL e.rt, kinds z = [false, false, true, false, false]) ∧
    (∀ z ∈ e.rl, kinds z = [false, false, false, true, false]) := by
  refine ⟨?_, ?_, ?_, fun z hz => kind_rl z (h.rl z hz)⟩
  · intro z hz
    obtain ⟨a, ha, rfl⟩ := List.mem_map.mp hz
    exact kind_ag a (h.ag a ha)
  · intro z hz
    cases hd : e.dl with
    | none => rw [hd] at hz; cases hz
    | some i => rw [hd] at hz; rw [List.mem_singleton.mp hz]; exact kind_dl i (h.dl i (by rw [hd]; rfl))
  · intro z hz
    cases hd : e.rt with
    | none => rw [hd] at hz; cases hz
    | some i => rw [hd] at hz; rw [List.mem_singleton.mp hz]; exact kind_rt i (h.rt i (by rw [hd]; rfl))
theorem rl_kinds {l : List Str} (h : ∀ z ∈ l, kinds z = [false, false, false, true, false]) : ∀ z ∈ rlL l, kinds z = [false, false, false, true, false] ∨ kinds z = [false, false, false, false, false] := by
  intro z hz
  unfold rlL at hz
  split at hz
  · rw [List.mem_singleton.mp hz]; exact .inr kind_al
  · exact .inl (h z hz)
theorem filter_all {α : Type} {p : α → Bool} {l : List α} (h : ∀ z ∈ l, p z = true) : l.filter p = l := List.filter_eq_self.mpr h
theorem filter_none {α : Type} {p : α → Bool} {l : List α} (h : ∀ z ∈ l, p z = false) : l.filter p = [] := List.filter_eq_nil_iff.mpr fun z hz => by rw [h z hz]; simp
theorem lines_is (e : Dat9) : e.lines = part1 e ++ (dlL e.dl ++ (rtL e.rt ++ rlL e.rl)) := rfl
theorem filt_CD {e : Dat9} (h : e.Good) : e.lines.filter kCD = dlL e.dl := by
  obtain ⟨h1, h2, h3, h4⟩ := lines_kinds h
  rw [lines_is, List.filter_append, List.filter_append, List.filter_append, filter_none fun z hz => (kinds_at (h1 z hz)).2.1, filter_all fun z hz => (kinds_at (h2 z hz)).2.1, filter_none fun z hz => (kinds_at (h3 z hz)).2.1,
    filter_none fun z hz => (rl_kinds h4 z hz).elim (fun k => (kinds_at k).2.1) fun k => (kinds_at k).2.1]
  simp
theorem filt_RR {e : Dat9} (h : e.Good) : e.lines.filter kRR = rtL e.rt := by
  obtain ⟨h1, h2, h3, h4⟩ := lines_kinds h
  rw [lines_is, List.filter_append, List.filter_append, List.filter_append, filter_none fun z hz => (kinds_at (h1 z hz)).2.2.1, filter_none fun z hz => (kinds_at (h2 z hz)).2.2.1, filter_all fun z hz => (kinds_at (h3 z hz)).2.2.1,
    filter_none fun z hz => (rl_kinds h4 z hz).elim (fun k => (kinds_at k).2.2.1) fun k => (kinds_at k).2.2.1]
  simp
theorem filt_RL {e : Dat9} (h : e.Good) : e.lines.filter isRule = e.rl := by
  obtain ⟨h1, h2, h3, h4⟩ := lines_kinds h
  have h5 : (rlL e.rl).filter isRule = e.rl := by
    unfold rlL
    split
    · rename_i h0
      rw [h0]
      exact filter_none fun z hz => by rw [List.mem_singleton.mp hz]; exact (kinds_at kind_al).2.2.2.1
    · exact filter_all fun z hz => (kinds_at (h4 z hz)).2.2.2.1
  rw [lines_is, List.filter_append, List.filter_append, List.filter_append, filter_none fun z hz => (kinds_at (h1 z hz)).2.2.2.1, filter_none fun z hz => (kinds_at (h2 z hz)).2.2.2.1, filter_none fun z hz => (kinds_at (h3 z hz)).2.2.2.1, h5]
  simp
theorem app_inj {a b c : Str} (h : a ++ b = a ++ c) : b = c := by
  have := congrArg lis h
  rw [lis_append, lis_append] at this
  exact lis_inj (List.append_cancel_left this)
theorem ua_in {e : Dat9} (h : e.Good) {a : Str} (ha : a ∈ agT) : (e.lines.any fun x => x == uaS ++ a) = decide (a ∈ e.ag) := by
  obtain ⟨h1, h2, h3, h4⟩ := lines_kinds h
  have hk := (kinds_at (kind_ag a ha)).1
  rw [Bool.eq_iff_iff, List.any_eq_true, decide_eq_true_iff]
  constructor
  · rintro ⟨z, hz, he⟩
    have he' := beq_iff_eq.mp he
    subst he'
    rw [lines_is] at hz
    simp only [List.mem_append] at hz
    rcases hz with hz | hz | hz | hz
    · obtain ⟨b, hb, e'⟩ := List.mem_map.mp hz
      rw [← app_inj e']; exact hb
    · have := (kinds_at (h2 _ hz)).1; rw [hk] at this; cases this
    · have := (kinds_at (h3 _ hz)).1; rw [hk] at this; cases this
    · rcases rl_kinds h4 _ hz with k | k
      · have := (kinds_at k).1; rw [hk] at this; cases this
      · have := (kinds_at k).1; rw [hk] at this; cases this
  · intro hm
    exact ⟨uaS ++ a, by rw [lines_is]; exact List.mem_append.mpr (.inl (List.mem_map_of_mem hm)), by simp⟩
theorem filt_UA {e f : Dat9} (h : e.Good) (hf : f.Good) : e.lines.filter (isUA f.lines) = (e.ag.filter fun a => decide (a ∈ f.ag)).map (uaS ++ ·) := by
  obtain ⟨h1, h2, h3, h4⟩ := lines_kinds h
  have no : ∀ z, kUA z = false → isUA f.lines z = false := fun z hz => by rw [isUA_kUA, hz]; rfl
  rw [lines_is e, List.filter_append, List.filter_append, List.filter_append, filter_none fun z hz => no z (kinds_at (h2 z hz)).1, filter_none fun z hz => no z (kinds_at (h3 z hz)).1,
    filter_none fun z hz => no z ((rl_kinds h4 z hz).elim (fun k => (kinds_at k).1) fun k => (kinds_at k).1)]
  simp only [List.append_nil, part1]
  have hag := h.ag
  generalize e.ag = l at hag
  induction l with
  | nil => rfl
  | cons a r ih =>
    have ih := ih fun b hb => hag b (.tail _ hb)
    have ha := hag a (.head _)
    have hu : isUA f.lines (uaS ++ a) = decide (a ∈ f.ag) := by rw [isUA_kUA, (kinds_at (kind_ag a ha)).1, Bool.true_and]; exact ua_in hf ha
    simp only [List.map_cons, List.filter_cons, hu, ih]
    split <;> simp
/-- the merge of two records, as far as its text shows it -/
def mergeD (e f : Dat9) : Dat9 := ⟨e.ag.filter fun a => decide (a ∈ f.ag), e.rl ++ f.rl, f.dl.or e.dl, f.rt.or e.rt⟩
theorem Dat9.Good.merge {e f : Dat9} (h : e.Good) (hf : f.Good) : (mergeD e f).Good where
  ag := fun a ha => h.ag a (List.mem_filter.mp ha).1
  rl := fun a ha => (List.mem_append.mp ha).elim (h.rl a) (hf.rl a)
  dl := fun i hi => by
    have hi : f.dl.or e.dl = some i := hi
    cases hd : f.dl with
    | none => rw [hd] at hi; exact h.dl i hi
    | some j => rw [hd] at hi; exact hf.dl i (by rw [hd]; exact hi)
  rt := fun i hi => by
    have hi : f.rt.or e.rt = some i := hi
    cases hd : f.rt with
    | none => rw [hd] at hi; exact h.rt i hi
    | some j => rw [hd] at hi; exact hf.rt i (by rw [hd]; exact hi)
theorem last_dl (a b : Option Int) : lastL (dlL a ++ dlL b) = dlL (b.or a) := by cases a <;> cases b <;> rfl
theorem last_rt (a b : Option (Int × Int)) : lastL (rtL a ++ rtL b) = rtL (b.or a) := by cases a <;> cases b <;> rfl
theorem merged_lines {e f : Dat9} (h : e.Good) (hf : f.Good) : mergedL e.lines f.lines = (mergeD e f).lines := by
  unfold mergedL
  rw [filt_UA h hf]
  have a1 : (e.lines ++ f.lines).filter (isKey (Str.ofString "Crawl-delay: ") 13) = dlL e.dl ++ dlL f.dl := by rw [List.filter_append, show e.lines.filter (isKey (Str.ofString "Crawl-delay: ") 13) = _ from filt_CD h, show f.lines.filter (isKey (Str.ofString "Crawl-delay: ") 13) = _ from filt_CD hf]
  have a2 : (e.lines ++ f.lines).filter (isKey (Str.ofString "Request-rate: ") 14) = rtL e.rt ++ rtL f.rt := by rw [List.filter_append, show e.lines.filter (isKey (Str.ofString "Request-rate: ") 14) = _ from filt_RR h, show f.lines.filter (isKey (Str.ofString "Request-rate: ") 14) = _ from filt_RR hf]
  have a3 : (e.lines ++ f.lines).filter isRule = e.rl ++ f.rl := by rw [List.filter_append, filt_RL h, filt_RL hf]
  rw [a1, a2, a3, last_dl, last_rt]
  simp [Dat9.lines, mergeD]
theorem lines_free {e : Dat9} (h : e.Good) : ∀ z ∈ e.lines, 10 ∉ lis z := by
  obtain ⟨h1, h2, h3, h4⟩ := lines_kinds h
  have key : ∀ z, (lis z).contains 10 = false → 10 ∉ lis z := fun z hz hm => by rw [List.contains_iff_mem.mpr hm] at hz; cases hz
  intro z hz
  rw [lines_is] at hz
  simp only [List.mem_append] at hz
  refine key z ?_
  rcases hz with hz | hz | hz | hz
  · exact (kinds_at (h1 z hz)).2.2.2.2
  · exact (kinds_at (h2 z hz)).2.2.2.2
  · exact (kinds_at (h3 z hz)).2.2.2.2
  · rcases rl_kinds h4 z hz with k | k <;> exact (kinds_at k).2.2.2.2
theorem lines_ne (e : Dat9) : e.lines ≠ [] := by
  intro hx
  have : rlL e.rl = [] := by
    rw [lines_is, List.append_eq_nil_iff, List.append_eq_nil_iff, List.append_eq_nil_iff] at hx
    exact hx.2.2.2
  unfold rlL at this
  split at this
  · cases this
  · contradiction
theorem map_lis_inj : ∀ {a b : List Str}, a.map lis = b.map lis → a = b
  | [], [], _ => rfl
  | [], _ :: _, h => by cases h
  | _ :: _, [], h => by cases h
  | x :: a, y :: b, h => by
    rw [List.map_cons, List.map_cons] at h
    rw [lis_inj (List.cons.inj h).1, map_lis_inj (List.cons.inj h).2]
theorem split_join {l : List Str} (h0 : l ≠ []) (h : ∀ z ∈ l, 10 ∉ lis z) : Txt.split (Str.join (Str.ofString "\n") l) (Str.ofString "\n") = l := by
  apply map_lis_inj
  rw [nlS_is, split_cut, glue_join, cut_glue]
  · intro e; exact h0 (List.map_eq_nil_iff.mp e)
  · intro p hp
    obtain ⟨z, hz, rfl⟩ := List.mem_map.mp hp
    exact h z hz
theorem text_some {e : Dat9} (h0 : e.ag ≠ []) : e.text = Str.join (Str.ofString "\n") e.lines := by unfold Dat9.text; rw [if_neg h0]
theorem text_none {e : Dat9} (h0 : e.ag = []) : e.text = Str.ofString "" := by unfold Dat9.text; rw [if_pos h0]
theorem lis_emp : lis (Str.ofString "") = [] := by decide +kernel
theorem text_ne {e : Dat9} (h0 : e.ag ≠ []) : e.text ≠ Str.ofString "" := by
  intro hx
  rw [text_some h0] at hx
  have h1 := congrArg lis hx
  rw [nlS_is, glue_join, lis_emp] at h1
  cases hl : e.ag with
  | nil => exact h0 hl
  | cons a r =>
    have h2 : ∃ t, e.lines = (uaS ++ a) :: t := ⟨_, by rw [lines_is]; unfold part1; rw [hl]; rfl⟩
    obtain ⟨t, ht⟩ := h2
    rw [ht, List.map_cons, lis_append] at h1
    have hu : lis uaS ≠ [] := by decide +kernel
    cases t with
    | nil =>
      have h3 : lis uaS ++ lis a = [] := h1
      exact hu (List.append_eq_nil_iff.mp h3).1
    | cons b t =>
      have h3 : (lis uaS ++ lis a) ++ 10 :: glue 10 ((b :: t).map lis) = [] := h1
      simp at h3
theorem split_text {e : Dat9} (h : e.Good) (h0 : e.ag ≠ []) : Txt.split e.text (Str.ofString "\n") = e.lines := by rw [text_some h0]; exact split_join (lines_ne e) (lines_free h)
/-- the law of merge_entries' text -/
theorem merged_text {e f : Dat9} (h : e.Good) (hf : f.Good) : mergedT e.text f.text = (mergeD e f).text := by
  unfold mergedT
  by_cases h1 : e.ag = []
  · rw [if_pos (.inl (text_none h1)), text_none (by simp [mergeD, h1])]
  by_cases h2 : f.ag = []
  · rw [if_pos (.inr (.inl (text_none h2))), text_none (by simp [mergeD, h2])]
  rw [split_text h h1, split_text hf h2, filt_UA h hf, merged_lines h hf]
  by_cases h3 : (mergeD e f).ag = []
  · rw [if_pos (.inr (.inr (by show (mergeD e f).ag.map _ = []; rw [h3]; rfl))), text_none h3]
  · rw [if_neg, text_some h3]
    rintro (k | k | k)
    · exact text_ne h1 k
    · exact text_ne h2 k
    · exact h3 (List.map_eq_nil_iff.mp k)
theorem glue_len (c B : Nat) : ∀ ps : List (List Nat), (∀ p ∈ ps, p.length ≤ B) → (glue c ps).length ≤ ps.length * (B + 1)
  | [], _ => by simp [glue]
  | [p], h => by
    have := h p (.head _)
    simp only [glue, List.length_cons, List.length_nil]; omega
  | p :: q :: r, h => by
    have ih := glue_len c B (q :: r) fun x hx => h x (.tail _ hx)
    have := h p (.head _)
    simp only [glue, List.length_append, List.length_cons] at ih ⊢
    have e : (r.length + 1 + 1) * (B + 1) = (r.length + 1) * (B + 1) + (B + 1) := by rw [Nat.succ_mul]
    omega
/-- the sizes that _law_merged asks -/
theorem text_sizes {e : Dat9} (h : e.Good) (h1 : e.ag.length ≤ 70) (h2 : e.rl.length ≤ 140) :
    e.text.length ≤ 100000 ∧ (Txt.split e.text (Str.ofString "\n")).length ≤ 300 ∧ ∀ z ∈ Txt.split e.text (Str.ofString "\n"), z.length ≤ 40 := by
  by_cases h0 : e.ag = []
  · rw [text_none h0]
    have k : Txt.split (Str.ofString "") (Str.ofString "\n") = [Str.ofString ""] := by decide +kernel
    rw [k]
    refine ⟨by decide +kernel, by decide, fun z hz => ?_⟩
    rw [List.mem_singleton.mp hz]; decide +kernel
  · have hl := Dat9.lines_few h1 h2
    have hz := Dat9.lines_len h.small
    rw [split_text h h0]
    refine ⟨?_, by omega, hz⟩
    rw [text_some h0, length_lis, nlS_is, glue_join]
    have := glue_len 10 40 (e.lines.map lis) fun p hp => by
      obtain ⟨z, hz', rfl⟩ := List.mem_map.mp hp
      rw [← length_lis]; exact hz z hz'
    rw [List.length_map] at this
    omega
end Mine
end

section
namespace Mine
structure Ent9 where
  (x d u r : Addr) (t1 t2 t3 t4 : Tok) (ag rl : List (Str × Tok)) (nu nr : Nat) (dl : Option (Int × Tok)) (rt : Option Rate)
def Ent9.dat (e : Ent9) : Dat9 := datOf e.ag e.rl e.dl e.rt
def Ent9.cells4 (q : Params) (e : Ent9) : List (Addr × Obj) :=
  [(e.x, instObj 59 e.d), (e.d, entD q e.t1 e.t2 e.t3 e.t4 e.u e.r (dlV e.dl) (rtV e.rt)), (e.u, listOf (strValues e.ag).toArray e.nu), (e.r, listOf (strValues e.rl).toArray e.nr)]
def Ent9.cells (q : Params) (e : Ent9) : List (Addr × Obj) := e.cells4 q ++ rtC q e.rt
def rtA : Option Rate → List Addr | none => [] | some e => [e.x, e.d]
def Ent9.adr (e : Ent9) : List Addr := [e.d, e.x, e.u, e.r] ++ rtA e.rt
theorem rtA_of {q : Params} {rt : Option Rate} {p : Addr × Obj} (h : p ∈ rtC q rt) : p.1 ∈ rtA rt := by
  cases rt with
  | none => cases h
  | some e =>
    rcases List.mem_cons.mp h with rfl | h
    · exact .head _
    · rw [List.mem_singleton.mp h]; exact .tail _ (.head _)
theorem rtC_of {q : Params} {rt : Option Rate} {a : Addr} (h : a ∈ rtA rt) : ∃ o, (a, o) ∈ rtC q rt := by
  cases rt with
  | none => cases h
  | some e =>
    rcases List.mem_cons.mp h with rfl | h
    · exact ⟨_, .head _⟩
    · rw [List.mem_singleton.mp h]; exact ⟨_, .tail _ (.head _)⟩
theorem adr9_of {q : Params} {e : Ent9} {p : Addr × Obj} (h : p ∈ e.cells q) : p.1 ∈ e.adr := by
  rcases List.mem_append.mp h with h | h
  · simp only [Ent9.cells4, List.mem_cons, List.not_mem_nil, or_false] at h
    rcases h with rfl | rfl | rfl | rfl <;> simp [Ent9.adr]
  · exact List.mem_append.mpr (.inr (rtA_of h))
theorem cells9_of (q : Params) {e : Ent9} {a : Addr} (h : a ∈ e.adr) : ∃ o, (a, o) ∈ e.cells q := by
  rcases List.mem_append.mp h with h | h
  · simp only [List.mem_cons, List.not_mem_nil, or_false] at h
    rcases h with rfl | rfl | rfl | rfl
    · exact ⟨_, List.mem_append.mpr (.inl (.tail _ (.head _)))⟩
    · exact ⟨_, List.mem_append.mpr (.inl (.head _))⟩
    · exact ⟨_, List.mem_append.mpr (.inl (.tail _ (.tail _ (.head _))))⟩
    · exact ⟨_, List.mem_append.mpr (.inl (.tail _ (.tail _ (.tail _ (.head _)))))⟩
  · obtain ⟨o, ho⟩ := rtC_of (q := q) h
    exact ⟨o, List.mem_append.mpr (.inr ho)⟩
def led9 (q : Params) (R O : Addr) (oR oO : Obj) (es : List Ent9) : List (Addr × Obj) := (O, oO) :: (R, oR) :: es.flatMap (Ent9.cells q)
def adrs9 (R O : Addr) (es : List Ent9) : List Addr := R :: O :: es.flatMap Ent9.adr
/-- what stands beside one record -/
def tail9 (q : Params) (p1 p2 : List Ent9) (rt : Option Rate) (own : List (Addr × Obj)) : List (Addr × Obj) := rtC q rt ++ (p1.flatMap (Ent9.cells q) ++ (p2.flatMap (Ent9.cells q) ++ own))
section
variable {q : Params} {R O : Addr} {oR oO : Obj} {h₀ h : Heap} {L : Addr} {own : List (Addr × Obj)} {p1 p2 : List Ent9} {e e' : Ent9}
theorem led9_adr : (led9 q R O oR oO p1).map (·.1) ⊆ adrs9 R O p1 := by
  intro a ha
  obtain ⟨p, hp, rfl⟩ := List.mem_map.mp ha
  unfold led9 at hp
  rcases List.mem_cons.mp hp with rfl | hp
  · simp [adrs9]
  · rcases List.mem_cons.mp hp with rfl | hp
    · simp [adrs9]
    · obtain ⟨f, hf, hp⟩ := List.mem_flatMap.mp hp
      exact .tail _ (.tail _ (List.mem_flatMap.mpr ⟨f, hf, adr9_of hp⟩))
theorem tail9_own : ∀ p ∈ own, p ∈ tail9 q p1 p2 e.rt own := fun p hp => List.mem_append.mpr (.inr (List.mem_append.mpr (.inr (List.mem_append.mpr (.inr hp)))))
theorem tail9_rt : ∀ p ∈ rtC q e.rt, p ∈ tail9 q p1 p2 e.rt own := fun p hp => List.mem_append.mpr (.inl hp)
theorem tail9_more : ∀ f ∈ p1 ++ p2, ∀ p ∈ f.cells q, p ∈ tail9 q p1 p2 e.rt own := fun f hf p hp => by
  refine List.mem_append.mpr (.inr ?_)
  rcases List.mem_append.mp hf with hf | hf
  · exact List.mem_append.mpr (.inl (List.mem_flatMap.mpr ⟨f, hf, hp⟩))
  · exact List.mem_append.mpr (.inr (List.mem_append.mpr (.inl (List.mem_flatMap.mpr ⟨f, hf, hp⟩))))
theorem open9 (N : News h₀ L h (led9 q R O oR oO (p1 ++ e :: p2) ++ own)) : News h₀ L h ((O, oO) :: (R, oR) :: (e.cells4 q ++ tail9 q p1 p2 e.rt own)) := fun p hp => by
  refine N p ?_
  rcases List.mem_cons.mp hp with rfl | hp
  · exact .head _
  rcases List.mem_cons.mp hp with rfl | hp
  · exact .tail _ (.head _)
  have two : ∀ z, z ∈ (p1 ++ e :: p2).flatMap (Ent9.cells q) → z ∈ led9 q R O oR oO (p1 ++ e :: p2) ++ own := fun z hz => List.mem_append.mpr (.inl (.tail _ (.tail _ hz)))
  have one : ∀ z, z ∈ e.cells q → z ∈ (p1 ++ e :: p2).flatMap (Ent9.cells q) := fun z hz => List.mem_flatMap.mpr ⟨e, by simp, hz⟩
  rcases List.mem_append.mp hp with hp | hp
  · exact two p (one p (List.mem_append.mpr (.inl hp)))
  rcases List.mem_append.mp hp with hp | hp
  · exact two p (one p (List.mem_append.mpr (.inr hp)))
  rcases List.mem_append.mp hp with hp | hp
  · exact two p (by simp only [List.flatMap_append, List.mem_append]; exact .inl hp)
  rcases List.mem_append.mp hp with hp | hp
  · exact two p (by simp only [List.flatMap_append, List.flatMap_cons, List.mem_append]; exact .inr (.inr hp))
  · exact List.mem_append.mpr (.inr hp)
/-- the addresses of a record lie apart from all else -/
theorem apart9 (hnd : (adrs9 R O (p1 ++ e :: p2)).Nodup) (hoff : OwnOff own (adrs9 R O (p1 ++ e :: p2))) :
    (e.adr.Nodup ∧ ∀ a ∈ e.adr, R ≠ a ∧ O ≠ a) ∧ OwnOff (tail9 q p1 p2 e.rt own) [R, O, e.d, e.u, e.r] := by
  have hn := hnd
  simp only [adrs9, List.nodup_cons] at hn
  obtain ⟨hR, hO, hF⟩ := hn
  rw [List.flatMap_append, List.flatMap_cons, List.nodup_append] at hF
  obtain ⟨_, hF2, hF3⟩ := hF
  rw [List.nodup_append] at hF2
  have hin : ∀ a ∈ e.adr, a ∈ (p1 ++ e :: p2).flatMap Ent9.adr := fun a ha => List.mem_flatMap.mpr ⟨e, by simp, ha⟩
  have hR' : ∀ a ∈ (p1 ++ e :: p2).flatMap Ent9.adr, R ≠ a ∧ O ≠ a := fun a ha => ⟨by rintro rfl; exact hR (.tail _ ha), by rintro rfl; exact hO ha⟩
  refine ⟨⟨hF2.1, fun a ha => hR' a (hin a ha)⟩, fun p hp b hb => ?_⟩
  have hb' : b = R ∨ b = O ∨ b ∈ [e.d, e.x, e.u, e.r] := by
    simp only [List.mem_cons, List.not_mem_nil, or_false] at hb ⊢
    rcases hb with h | h | h | h | h
    · exact .inl h
    · exact .inr (.inl h)
    · exact .inr (.inr (.inl h))
    · exact .inr (.inr (.inr (.inr (.inl h))))
    · exact .inr (.inr (.inr (.inr (.inr h))))
  have far : ∀ a, a ∈ (p1 ++ e :: p2).flatMap Ent9.adr → (∀ c ∈ [e.d, e.x, e.u, e.r], a ≠ c) → a ≠ b := fun a h1 h2 => by
    rcases hb' with rfl | rfl | h
    · exact Ne.symm (hR' a h1).1
    · exact Ne.symm (hR' a h1).2
    · exact h2 b h
  rcases List.mem_append.mp hp with hp | hp
  · have ha := rtA_of hp
    refine far _ (hin _ (List.mem_append.mpr (.inr ha))) fun c hc hac => ?_
    have hnd' := hF2.1
    unfold Ent9.adr at hnd'
    rw [List.nodup_append] at hnd'
    exact hnd'.2.2 c hc _ ha hac.symm
  rcases List.mem_append.mp hp with hp | hp
  · obtain ⟨f, hf, hpf⟩ := List.mem_flatMap.mp hp
    have h1 : p.1 ∈ p1.flatMap Ent9.adr := List.mem_flatMap.mpr ⟨f, hf, adr9_of hpf⟩
    refine far _ (by rw [List.flatMap_append]; exact List.mem_append.mpr (.inl h1)) fun c hc => ?_
    exact hF3 _ h1 c (List.mem_append.mpr (.inl (List.mem_append.mpr (.inl hc))))
  rcases List.mem_append.mp hp with hp | hp
  · obtain ⟨f, hf, hpf⟩ := List.mem_flatMap.mp hp
    have h1 : p.1 ∈ p2.flatMap Ent9.adr := List.mem_flatMap.mpr ⟨f, hf, adr9_of hpf⟩
    refine far _ (by rw [List.flatMap_append, List.flatMap_cons]; exact List.mem_append.mpr (.inr (List.mem_append.mpr (.inr h1)))) fun c hc hac => ?_
    exact hF2.2.2 c (List.mem_append.mpr (.inl hc)) _ h1 hac.symm
  · rcases hb' with rfl | rfl | h
    · exact hoff p hp _ (.head _)
    · exact hoff p hp _ (.tail _ (.head _))
    · exact hoff p hp b (.tail _ (.tail _ (hin b (List.mem_append.mpr (.inl h)))))
theorem close9 {news' : List (Addr × Obj)} (hO : (O, oO) ∈ news') (hR : (R, oR) ∈ news') (h4 : ∀ p ∈ e'.cells q, p ∈ news') (hT : ∀ f ∈ p1 ++ p2, ∀ p ∈ f.cells q, p ∈ news') : ∀ p ∈ led9 q R O oR oO (p1 ++ e' :: p2), p ∈ news' := by
  intro p hp
  unfold led9 at hp
  rcases List.mem_cons.mp hp with rfl | hp
  · exact hO
  rcases List.mem_cons.mp hp with rfl | hp
  · exact hR
  obtain ⟨f, hf, hpf⟩ := List.mem_flatMap.mp hp
  rcases List.mem_append.mp hf with hf | hf
  · exact hT f (List.mem_append.mpr (.inl hf)) p hpf
  rcases List.mem_cons.mp hf with rfl | hf
  · exact h4 p hpf
  · exact hT f (List.mem_append.mpr (.inr hf)) p hpf
theorem adrs9_new (hnd : (adrs9 R O (p1 ++ e :: p2)).Nodup) (hn : e'.adr.Nodup) (h : ∀ a ∈ e'.adr, a ∈ e.adr ∨ ∀ b ∈ adrs9 R O (p1 ++ e :: p2), b ≠ a) : (adrs9 R O (p1 ++ e' :: p2)).Nodup := by
  simp only [adrs9, List.nodup_cons] at hnd ⊢
  obtain ⟨hR, hO, hF⟩ := hnd
  rw [List.flatMap_append, List.flatMap_cons, List.nodup_append] at hF
  obtain ⟨hF1, hF2, hF3⟩ := hF
  rw [List.nodup_append] at hF2
  have inn : ∀ a, a ∈ (p1 ++ e :: p2).flatMap Ent9.adr → a ∈ adrs9 R O (p1 ++ e :: p2) := fun a ha => .tail _ (.tail _ ha)
  have ine : ∀ a ∈ e.adr, a ∈ (p1 ++ e :: p2).flatMap Ent9.adr := fun a ha => List.mem_flatMap.mpr ⟨e, by simp, ha⟩
  have in1 : ∀ a ∈ p1.flatMap Ent9.adr, a ∈ (p1 ++ e :: p2).flatMap Ent9.adr := fun a ha => by rw [List.flatMap_append]; exact List.mem_append.mpr (.inl ha)
  have in2 : ∀ a ∈ p2.flatMap Ent9.adr, a ∈ (p1 ++ e :: p2).flatMap Ent9.adr := fun a ha => by rw [List.flatMap_append, List.flatMap_cons]; exact List.mem_append.mpr (.inr (List.mem_append.mpr (.inr ha)))
  have e1 : (p1 ++ e' :: p2).flatMap Ent9.adr = p1.flatMap Ent9.adr ++ (e'.adr ++ p2.flatMap Ent9.adr) := by rw [List.flatMap_append, List.flatMap_cons]
  rw [e1]
  have noR : R ∉ p1.flatMap Ent9.adr ++ (e'.adr ++ p2.flatMap Ent9.adr) := fun hm => by
    rcases List.mem_append.mp hm with hm | hm
    · exact hR (.tail _ (in1 _ hm))
    rcases List.mem_append.mp hm with hm | hm
    · rcases h _ hm with k | k
      · exact hR (.tail _ (ine _ k))
      · exact k R (.head _) rfl
    · exact hR (.tail _ (in2 _ hm))
  have noO : O ∉ p1.flatMap Ent9.adr ++ (e'.adr ++ p2.flatMap Ent9.adr) := fun hm => by
    rcases List.mem_append.mp hm with hm | hm
    · exact hO (in1 _ hm)
    rcases List.mem_append.mp hm with hm | hm
    · rcases h _ hm with k | k
      · exact hO (ine _ k)
      · exact k O (.tail _ (.head _)) rfl
    · exact hO (in2 _ hm)
  refine ⟨?_, noO, ?_⟩
  · intro hm
    rcases List.mem_cons.mp hm with k | hm
    · exact hR (k ▸ .head _)
    · exact noR hm
  rw [List.nodup_append]
  refine ⟨hF1, ?_, ?_⟩
  · rw [List.nodup_append]
    refine ⟨hn, hF2.2.1, fun a ha b hb hab => ?_⟩
    rcases h a ha with k | k
    · exact hF2.2.2 a k b hb hab
    · exact k b (inn _ (in2 _ hb)) hab.symm
  · intro a ha b hb hab
    rcases List.mem_append.mp hb with hb | hb
    · rcases h b hb with k | k
      · exact hF3 a ha b (List.mem_append.mpr (.inl k)) hab
      · exact k a (inn _ (in1 _ ha)) hab
    · exact hF3 a ha b (List.mem_append.mpr (.inr hb)) hab
theorem off9_new (hoff : OwnOff own (adrs9 R O (p1 ++ e :: p2))) (h : ∀ a ∈ e'.adr, a ∈ e.adr ∨ ∀ p ∈ own, p.1 ≠ a) : OwnOff own (adrs9 R O (p1 ++ e' :: p2)) := by
  intro p hp b hb
  unfold adrs9 at hb
  rcases List.mem_cons.mp hb with rfl | hb
  · exact hoff p hp _ (.head _)
  rcases List.mem_cons.mp hb with rfl | hb
  · exact hoff p hp _ (.tail _ (.head _))
  rw [List.flatMap_append, List.flatMap_cons] at hb
  have inn : ∀ a, a ∈ (p1 ++ e :: p2).flatMap Ent9.adr → a ∈ adrs9 R O (p1 ++ e :: p2) := fun a ha => .tail _ (.tail _ ha)
  rcases List.mem_append.mp hb with hb | hb
  · exact hoff p hp b (inn _ (by rw [List.flatMap_append]; exact List.mem_append.mpr (.inl hb)))
  rcases List.mem_append.mp hb with hb | hb
  · rcases h b hb with k | k
    · exact hoff p hp b (inn _ (List.mem_flatMap.mpr ⟨e, by simp, k⟩))
    · exact k p hp
  · exact hoff p hp b (inn _ (by rw [List.flatMap_append, List.flatMap_cons]; exact List.mem_append.mpr (.inr (List.mem_append.mpr (.inr hb)))))
/-- a new address -/
theorem fresh9 {D : Addr} (h1 : @LT.lt Nat _ O D ∧ @LT.lt Nat _ R D ∧ @LT.lt Nat _ e.x D ∧ @LT.lt Nat _ e.d D ∧ @LT.lt Nat _ e.u D ∧ @LT.lt Nat _ e.r D) (hT : ∀ p ∈ tail9 q p1 p2 e.rt own, @LT.lt Nat _ p.1 D) :
    (∀ b ∈ adrs9 R O (p1 ++ e :: p2), @LT.lt Nat _ b D) ∧ ∀ p ∈ own, @LT.lt Nat _ p.1 D := by
  refine ⟨fun b hb => ?_, fun p hp => hT p (tail9_own p hp)⟩
  unfold adrs9 at hb
  rcases List.mem_cons.mp hb with rfl | hb
  · exact h1.2.1
  rcases List.mem_cons.mp hb with rfl | hb
  · exact h1.1
  obtain ⟨f, hf, hbf⟩ := List.mem_flatMap.mp hb
  clear hb
  have other : f ∈ p1 ++ p2 → @LT.lt Nat _ b D := fun hf => by
    obtain ⟨o, ho⟩ := cells9_of q hbf
    exact hT (b, o) (tail9_more f hf _ ho)
  rcases List.mem_append.mp hf with hf | hf
  · exact other (List.mem_append.mpr (.inl hf))
  rcases List.mem_cons.mp hf with rfl | hf
  · rcases List.mem_append.mp hbf with hb | hb
    · simp only [List.mem_cons, List.not_mem_nil, or_false] at hb
      rcases hb with rfl | rfl | rfl | rfl
      · exact h1.2.2.2.1
      · exact h1.2.2.1
      · exact h1.2.2.2.2.1
      · exact h1.2.2.2.2.2
    · obtain ⟨o, ho⟩ := rtC_of (q := q) hb
      exact hT (b, o) (tail9_rt _ ho)
  · exact other (List.mem_append.mpr (.inr hf))
end
/-- a record is sound, with no more than k put in -/
structure Ent9.Ok (k : Nat) (e : Ent9) : Prop where
  (good : e.dat.Good) (ag : e.ag.length ≤ k + 1) (rl : e.rl.length ≤ k)
theorem Ent9.Ok.up {k : Nat} {e : Ent9} (h : e.Ok k) : e.Ok (k + 1) := ⟨h.good, Nat.le_succ_of_le h.ag, Nat.le_succ_of_le h.rl⟩
theorem ok9_put {k : Nat} {p1 p2 : List Ent9} {e e' : Ent9} (h : ∀ x ∈ p1 ++ e :: p2, x.Ok k) (h' : e'.Ok (k + 1)) : ∀ x ∈ p1 ++ e' :: p2, x.Ok (k + 1) := by
  intro x hx
  rcases List.mem_append.mp hx with hx | hx
  · exact (h x (List.mem_append.mpr (.inl hx))).up
  · rcases List.mem_cons.mp hx with rfl | hx
    · exact h'
    · exact (h x (List.mem_append.mpr (.inr (.tail _ hx)))).up
theorem nodup_lt {l : List Addr} (h : l.Pairwise (fun a b => @LT.lt Nat _ a b)) : l.Nodup := h.imp fun hab => Nat.ne_of_lt hab
theorem off9_led {q : Params} {R O : Addr} {oR oO : Obj} {es : List Ent9} {own : List (Addr × Obj)} (h : OwnOff own ((led9 q R O oR oO es).map (·.1))) : OwnOff own (adrs9 R O es) := by
  intro p hp b hb
  refine h p hp b ?_
  unfold adrs9 at hb
  unfold led9
  rcases List.mem_cons.mp hb with rfl | hb
  · exact .tail _ (.head _)
  rcases List.mem_cons.mp hb with rfl | hb
  · exact .head _
  obtain ⟨f, hf, hbf⟩ := List.mem_flatMap.mp hb
  obtain ⟨o, ho⟩ := cells9_of q hbf
  exact .tail _ (.tail _ (List.mem_map.mpr ⟨(b, o), List.mem_flatMap.mpr ⟨f, hf, ho⟩, rfl⟩))
theorem led9_off {q : Params} {R O : Addr} {oR oO : Obj} {es : List Ent9} {own : List (Addr × Obj)} (h : OwnOff own (adrs9 R O es)) : OwnOff own ((led9 q R O oR oO es).map (·.1)) := fun p hp b hb => h p hp b (led9_adr hb)
theorem news_sub {h₀ h : Heap} {L : Addr} {news news' : List (Addr × Obj)} (N : News h₀ L h news) (hs : ∀ p ∈ news', p ∈ news) : News h₀ L h news' := fun p hp => N p (hs p hp)
theorem pw_cons {a b : Addr} {l : List Addr} (h : @LT.lt Nat _ a b) (hp : (b :: l).Pairwise (fun a b => @LT.lt Nat _ a b)) : (a :: b :: l).Pairwise (fun a b => @LT.lt Nat _ a b) := by
  rw [List.pairwise_cons]
  refine ⟨fun c hc => ?_, hp⟩
  rcases List.mem_cons.mp hc with rfl | hc
  · exact h
  · exact Nat.lt_trans h ((List.pairwise_cons.mp hp).1 c hc)
theorem pw_one {a : Addr} : [a].Pairwise (fun a b => @LT.lt Nat _ a b) := List.pairwise_singleton _ _
theorem ok9_start {x d u r : Addr} {t1 t2 t3 t4 t : Tok} {nu nr : Nat} : Ent9.Ok 0 ⟨x, d, u, r, t1, t2, t3, t4, [(Str.ofString "fig", t)], [], nu, nr, none, none⟩ where
  good := ⟨fun a ha => by rw [List.mem_singleton.mp ha]; exact .tail _ (.head _), (fun _ h => nomatch h), (fun _ h => nomatch h), (fun _ h => nomatch h)⟩
  ag := by simp
  rl := by simp
section
variable {prog : Program} {w : World} {A : Around} {E : Value → Shared → Prop} {s : Shared} {h₀ : Heap} {L D : Addr} {news : List (Addr × Obj)}
theorem sub9 {value slice : Expr} {k : Int} {u : Tok} {a b c : Value} {n : Nat} {p1 p2 : List Ent9} {e : Ent9} {Q : Value → Shared → Prop} (N : News h₀ L s.heap news) (hm : (D, listOf #[a, b, c] n) ∈ news)
    (hX : (p1 ++ e :: p2).map (fun e => Value.ref e.x) = [a, b, c]) (hpl : p1.length = k.toNat) (h0 : 0 ≤ k) (h1 : k < 3) (h : Q (.ref e.x) s)
    (hs : subscripted slice false (.ref D) (.int k u) = operate [.ref D, .int k u] (getItem (.ref D) (.int k u)) := by with_unfolding_all rfl) :
    wpAny (model prog w) A (subscriptTail value slice (.ref D) (.int k u)) Q E s := by
  refine sub_L (vs := [a, b, c]) N hm (by simp only [List.length_cons, List.length_nil]; omega) (by simp only [List.length_cons, List.length_nil]; omega) (by simp) ?_ h hs
  unfold place
  rw [if_neg (by omega), ← hpl, ← hX]
  exact place_at _ _ _ _
/-- a text of a table of texts -/
theorem sub_table {value slice : Expr} {k : Int} {u : Tok} {n : Nat} {ys : List (Str × Tok)} {Q : Value → Shared → Prop} (N : News h₀ L s.heap news) (hm : (D, listOf (strValues ys).toArray n) ∈ news)
    (h0 : 0 ≤ k) (h1 : k < ys.length) (hl : ys.length ≤ 100) (h : ∀ v : Str × Tok, v ∈ ys → Q (.str v.1 v.2) s)
    (hs : subscripted slice false (.ref D) (.int k u) = operate [.ref D, .int k u] (getItem (.ref D) (.int k u)) := by with_unfolding_all rfl) :
    wpAny (model prog w) A (subscriptTail value slice (.ref D) (.int k u)) Q E s := by
  have hlt : k.toNat < ys.length := by omega
  refine sub_T (x := ys[k.toNat]) N hm (by omega) h1 (by omega) ?_ (h _ (List.getElem_mem hlt)) hs
  unfold place
  rw [if_neg (by omega)]
  exact List.getElem?_eq_getElem hlt
end
theorem ne9 {e : Ent9} (h : e.adr.Nodup) : (@Ne Nat e.d e.x ∧ @Ne Nat e.d e.u ∧ @Ne Nat e.d e.r) ∧ (@Ne Nat e.x e.u ∧ @Ne Nat e.x e.r) ∧ @Ne Nat e.u e.r := by
  unfold Ent9.adr at h
  rw [List.nodup_append] at h
  have h := h.1
  simp only [List.nodup_cons, List.mem_cons, List.not_mem_nil, or_false, not_or, not_false_eq_true, List.nodup_nil, and_true] at h
  exact ⟨⟨h.1.1, h.1.2.1, h.1.2.2⟩, ⟨h.2.1.1, h.2.1.2⟩, h.2.2⟩
theorem fix9 {R O : Addr} {e : Ent9} (h : ∀ a ∈ e.adr, R ≠ a ∧ O ≠ a) : (@Ne Nat R e.d ∧ @Ne Nat O e.d) ∧ (@Ne Nat R e.x ∧ @Ne Nat O e.x) ∧ (@Ne Nat R e.u ∧ @Ne Nat O e.u) ∧ (@Ne Nat R e.r ∧ @Ne Nat O e.r) :=
  ⟨h _ (by simp [Ent9.adr]), h _ (by simp [Ent9.adr]), h _ (by simp [Ent9.adr]), h _ (by simp [Ent9.adr])⟩
def Ent9.pushA (e : Ent9) (v : Str × Tok) : Ent9 := { e with ag := e.ag ++ [v], nu := e.nu + 1 }
def Ent9.pushR (e : Ent9) (v : Str × Tok) : Ent9 := { e with rl := e.rl ++ [v], nr := e.nr + 1 }
def Ent9.setD (e : Ent9) (v : Option (Int × Tok)) : Ent9 := { e with dl := v }
def Ent9.setQ (e : Ent9) (v : Option Rate) : Ent9 := { e with rt := v }
def Ent9.setU (e : Ent9) (u : Addr) : Ent9 := { e with u := u, ag := [], nu := 0 }
section
variable {e : Ent9} {k : Nat}
theorem ok9_pushA {v : Str × Tok} (h : e.Ok k) (hv : v.1 ∈ agT) : (e.pushA v).Ok (k + 1) where
  good := ⟨fun a ha => by
    obtain ⟨y, hy, rfl⟩ := List.mem_map.mp ha
    rcases List.mem_append.mp hy with hy | hy
    · exact h.good.ag _ (List.mem_map_of_mem hy)
    · rw [List.mem_singleton.mp hy]; exact hv, h.good.rl, h.good.dl, h.good.rt⟩
  ag := by have := h.ag; show (e.ag ++ [v]).length ≤ _; rw [List.length_append, List.length_singleton]; omega
  rl := Nat.le_succ_of_le h.rl
theorem ok9_pushR {v : Str × Tok} (h : e.Ok k) (hv : v.1 ∈ rlT) : (e.pushR v).Ok (k + 1) where
  good := ⟨h.good.ag, fun a ha => by
    obtain ⟨y, hy, rfl⟩ := List.mem_map.mp ha
    rcases List.mem_append.mp hy with hy | hy
    · exact h.good.rl _ (List.mem_map_of_mem hy)
    · rw [List.mem_singleton.mp hy]; exact hv, h.good.dl, h.good.rt⟩
  ag := Nat.le_succ_of_le h.ag
  rl := by have := h.rl; show (e.rl ++ [v]).length ≤ _; rw [List.length_append, List.length_singleton]; omega
theorem ok9_setD {o : Option (Int × Tok)} (h : e.Ok k) (ho : ∀ i ∈ o, i.1 ∈ dlT) : (e.setD o).Ok (k + 1) where
  good := ⟨h.good.ag, h.good.rl, fun i hi => by
    have hi : o.map (·.1) = some i := hi
    cases o with
    | none => cases hi
    | some p => cases hi; exact ho p rfl, h.good.rt⟩
  ag := Nat.le_succ_of_le h.ag
  rl := Nat.le_succ_of_le h.rl
theorem ok9_setQ {o : Option Rate} (h : e.Ok k) (ho : ∀ i ∈ o, (i.rq, i.rs) ∈ rtT) : (e.setQ o).Ok (k + 1) where
  good := ⟨h.good.ag, h.good.rl, h.good.dl, fun i hi => by
    have hi : o.map (fun e => (e.rq, e.rs)) = some i := hi
    cases o with
    | none => cases hi
    | some p => cases hi; exact ho p rfl⟩
  ag := Nat.le_succ_of_le h.ag
  rl := Nat.le_succ_of_le h.rl
theorem ok9_setU {u : Addr} (h : e.Ok k) : (e.setU u).Ok (k + 1) where
  good := ⟨(fun _ h => nomatch h), h.good.rl, h.good.dl, h.good.rt⟩
  ag := Nat.zero_le _
  rl := Nat.le_succ_of_le h.rl
end
section
variable {q : Params} {R O : Addr} {oR oO : Obj} {own news' T : List (Addr × Obj)} {p1 p2 : List Ent9} {e e' : Ent9} {k : Nat} {V : List Value}
theorem turn9 (hT : tail9 q p1 p2 e.rt own = T) (hnd : (adrs9 R O (p1 ++ e :: p2)).Nodup) (hoff : OwnOff own (adrs9 R O (p1 ++ e :: p2))) (hX : (p1 ++ e :: p2).map (fun e => Value.ref e.x) = V) (hE : ∀ x ∈ p1 ++ e :: p2, x.Ok k)
    (hO : (O, oO) ∈ news') (hR : (R, oR) ∈ news') (h4 : ∀ p ∈ e'.cells4 q, p ∈ news') (hq : ∀ p ∈ rtC q e'.rt, p ∈ news') (hTn : ∀ p ∈ T, p ∈ news') (hn' : e'.adr.Nodup) (hx : e'.x = e.x) (hok : e'.Ok (k + 1))
    (hfr : ∀ a ∈ e'.adr, a ∈ e.adr ∨ ((∀ b ∈ adrs9 R O (p1 ++ e :: p2), b ≠ a) ∧ ∀ p ∈ own, p.1 ≠ a)) :
    (∀ p ∈ led9 q R O oR oO (p1 ++ e' :: p2), p ∈ news') ∧ (∀ p ∈ own, p ∈ news') ∧ OwnOff own ((led9 q R O oR oO (p1 ++ e' :: p2)).map (·.1)) ∧
      ((adrs9 R O (p1 ++ e' :: p2)).Nodup ∧ (p1 ++ e' :: p2).map (fun e => Value.ref e.x) = V ∧ ∀ x ∈ p1 ++ e' :: p2, x.Ok (k + 1)) := by
  subst hT
  refine ⟨close9 hO hR (fun p hp => (List.mem_append.mp hp).elim (h4 p) (hq p)) fun f hf p hp => hTn p (tail9_more f hf p hp), fun p hp => hTn p (tail9_own p hp), led9_off (off9_new hoff fun a ha => (hfr a ha).imp id fun h => h.2), adrs9_new hnd hn' fun a ha => (hfr a ha).imp id fun h => h.1, ?_, ok9_put hE hok⟩
  rw [← hX]
  simp only [List.map_append, List.map_cons, hx]
theorem old9 (h : e'.adr = e.adr) : ∀ a ∈ e'.adr, a ∈ e.adr ∨ ((∀ b ∈ adrs9 R O (p1 ++ e :: p2), b ≠ a) ∧ ∀ p ∈ own, p.1 ≠ a) := fun a ha => .inl (h ▸ ha)
end
theorem mem_of {h₀ h : Heap} {L : Addr} {news : List (Addr × Obj)} {p : Addr × Obj} (_N : News h₀ L h news) (hp : p ∈ news) : p ∈ news := hp
section
variable {R O : Addr} {own : List (Addr × Obj)} {p1 p2 : List Ent9} {e : Ent9}
theorem new9 {D a : Addr} (h : (∀ b ∈ adrs9 R O (p1 ++ e :: p2), @LT.lt Nat _ b D) ∧ ∀ p ∈ own, @LT.lt Nat _ p.1 D) (ha : @LE.le Nat _ D a) : (∀ b ∈ adrs9 R O (p1 ++ e :: p2), b ≠ a) ∧ ∀ p ∈ own, p.1 ≠ a :=
  ⟨fun b hb => Nat.ne_of_lt (Nat.lt_of_lt_of_le (h.1 b hb) ha), fun p hp => Nat.ne_of_lt (Nat.lt_of_lt_of_le (h.2 p hp) ha)⟩
theorem fr9Q {ρ : Rate} (h : (∀ b ∈ adrs9 R O (p1 ++ e :: p2), @LT.lt Nat _ b ρ.d) ∧ ∀ p ∈ own, @LT.lt Nat _ p.1 ρ.d) (hlt : @LT.lt Nat _ ρ.d ρ.x) :
    ∀ a ∈ (e.setQ (some ρ)).adr, a ∈ e.adr ∨ ((∀ b ∈ adrs9 R O (p1 ++ e :: p2), b ≠ a) ∧ ∀ p ∈ own, p.1 ≠ a) := by
  intro a ha
  rcases List.mem_append.mp ha with ha | ha
  · exact .inl (List.mem_append.mpr (.inl ha))
  · refine .inr ?_
    rcases List.mem_cons.mp ha with rfl | ha
    · exact new9 h (Nat.le_of_lt hlt)
    · rw [List.mem_singleton.mp ha]; exact new9 h (Nat.le_refl _)
theorem in9 : ∀ a ∈ e.adr, a ∈ adrs9 R O (p1 ++ e :: p2) := fun a ha => .tail _ (.tail _ (List.mem_flatMap.mpr ⟨e, by simp, ha⟩))
theorem nd9Q {ρ : Rate} (hn : e.adr.Nodup) (h : (∀ b ∈ adrs9 R O (p1 ++ e :: p2), @LT.lt Nat _ b ρ.d) ∧ ∀ p ∈ own, @LT.lt Nat _ p.1 ρ.d) (hlt : @LT.lt Nat _ ρ.d ρ.x) : (e.setQ (some ρ)).adr.Nodup := by
  unfold Ent9.adr at hn ⊢
  rw [List.nodup_append] at hn ⊢
  refine ⟨hn.1, ?_, fun a ha b hb => ?_⟩
  · show [ρ.x, ρ.d].Nodup
    simp only [List.nodup_cons, List.mem_singleton, List.not_mem_nil, not_false_eq_true, List.nodup_nil, and_true]
    exact Nat.ne_of_gt hlt
  · have ha' := h.1 a (in9 a (List.mem_append.mpr (.inl ha)))
    rcases List.mem_cons.mp hb with rfl | hb
    · exact Nat.ne_of_lt (Nat.lt_trans ha' hlt)
    · rw [List.mem_singleton.mp hb]; exact Nat.ne_of_lt ha'
theorem fr9N : ∀ a ∈ (e.setQ none).adr, a ∈ e.adr ∨ ((∀ b ∈ adrs9 R O (p1 ++ e :: p2), b ≠ a) ∧ ∀ p ∈ own, p.1 ≠ a) := fun a ha => .inl (by
  rcases List.mem_append.mp ha with ha | ha
  · exact List.mem_append.mpr (.inl ha)
  · cases ha)
theorem nd9N (hn : e.adr.Nodup) : (e.setQ none).adr.Nodup := by
  unfold Ent9.adr at hn ⊢
  rw [List.nodup_append] at hn ⊢
  exact ⟨hn.1, .nil, fun a _ b hb => nomatch hb⟩
theorem fr9U {D : Addr} (h : (∀ b ∈ adrs9 R O (p1 ++ e :: p2), @LT.lt Nat _ b D) ∧ ∀ p ∈ own, @LT.lt Nat _ p.1 D) : ∀ a ∈ (e.setU D).adr, a ∈ e.adr ∨ ((∀ b ∈ adrs9 R O (p1 ++ e :: p2), b ≠ a) ∧ ∀ p ∈ own, p.1 ≠ a) := by
  intro a ha
  rcases List.mem_append.mp ha with ha | ha
  · simp only [List.mem_cons, List.not_mem_nil, or_false] at ha
    rcases ha with rfl | rfl | rfl | rfl
    · exact .inl (by simp [Ent9.adr, Ent9.setU])
    · exact .inl (by simp [Ent9.adr, Ent9.setU])
    · exact .inr (new9 h (Nat.le_refl _))
    · exact .inl (by simp [Ent9.adr, Ent9.setU])
  · exact .inl (List.mem_append.mpr (.inr ha))
theorem nd9U {D : Addr} (hn : e.adr.Nodup) (h : (∀ b ∈ adrs9 R O (p1 ++ e :: p2), @LT.lt Nat _ b D) ∧ ∀ p ∈ own, @LT.lt Nat _ p.1 D) : (e.setU D).adr.Nodup := by
  have lt : ∀ a ∈ e.adr, a ≠ D := fun a ha => Nat.ne_of_lt (h.1 a (in9 a ha))
  have hd := lt e.d (by simp [Ent9.adr])
  have hx := lt e.x (by simp [Ent9.adr])
  have hr := lt e.r (by simp [Ent9.adr])
  unfold Ent9.adr at hn ⊢
  rw [List.nodup_append] at hn ⊢
  obtain ⟨h1, h2, h3⟩ := hn
  simp only [List.nodup_cons, List.mem_cons, List.not_mem_nil, or_false, not_or, not_false_eq_true, List.nodup_nil, and_true] at h1
  refine ⟨?_, h2, fun a ha b hb => ?_⟩
  · show [e.d, e.x, D, e.r].Nodup
    simp only [List.nodup_cons, List.mem_cons, List.not_mem_nil, or_false, not_or, not_false_eq_true, List.nodup_nil, and_true]
    exact ⟨⟨h1.1.1, hd, h1.1.2.2⟩, ⟨hx, h1.2.1.2⟩, Ne.symm hr⟩
  · have ha : a ∈ [e.d, e.x, D, e.r] := ha
    simp only [List.mem_cons, List.not_mem_nil, or_false] at ha
    rcases ha with rfl | rfl | rfl | rfl
    · exact h3 _ (by simp) b hb
    · exact h3 _ (by simp) b hb
    · exact Ne.symm (lt b (List.mem_append.mpr (.inr hb)))
    · exact h3 _ (by simp) b hb
end
section
variable {prog : Program} {w : World} {A : Around} {E : Value → Shared → Prop} {s : Shared} {h₀ : Heap} {L D : Addr} {news : List (Addr × Obj)}
theorem sub_dl {value slice : Expr} {k : Int} {u t0 t1 : Tok} {n : Nat} {Q : Value → Shared → Prop} (N : News h₀ L s.heap news) (hm : (D, listOf #[.int 0 t0, .int 12 t1, .none] n) ∈ news)
    (h0 : 0 ≤ k) (h1 : k < 3) (h : ∀ o : Option (Int × Tok), (∀ i ∈ o, i.1 ∈ dlT) → Q (dlV o) s)
    (hs : subscripted slice false (.ref D) (.int k u) = operate [.ref D, .int k u] (getItem (.ref D) (.int k u)) := by with_unfolding_all rfl) :
    wpAny (model prog w) A (subscriptTail value slice (.ref D) (.int k u)) Q E s := by
  have key : ∀ o : Option (Int × Tok), ([some (0, t0), some (12, t1), none] : List (Option (Int × Tok)))[k.toNat]? = some o → (∀ i ∈ o, i.1 ∈ dlT) → wpAny (model prog w) A (subscriptTail value slice (.ref D) (.int k u)) Q E s := fun o ho hg => by
    refine sub_L (vs := [.int 0 t0, .int 12 t1, .none]) N hm (by simp only [List.length_cons, List.length_nil]; omega) (by simp only [List.length_cons, List.length_nil]; omega) (by simp) (x := dlV o) ?_ (h o hg) hs
    unfold place
    rw [if_neg (by omega)]
    have e : ([.int 0 t0, .int 12 t1, .none] : List Value) = ([some (0, t0), some (12, t1), none] : List (Option (Int × Tok))).map dlV := rfl
    rw [e, List.getElem?_map, ho]; rfl
  have hk : k.toNat = 0 ∨ k.toNat = 1 ∨ k.toNat = 2 := by omega
  rcases hk with hk | hk | hk
  · exact key (some (0, t0)) (by rw [hk]; rfl) (fun i hi => by cases hi; exact .head _)
  · exact key (some (12, t1)) (by rw [hk]; rfl) (fun i hi => by cases hi; exact .tail _ (.head _))
  · exact key none (by rw [hk]; rfl) (fun i hi => nomatch hi)
theorem sub_two {value slice : Expr} {k : Int} {u : Tok} {a b : Value} {n : Nat} {Q : Value → Shared → Prop} (N : News h₀ L s.heap news) (hm : (D, listOf #[a, b] n) ∈ news) (c : Value) (hk : (k = 0 ∧ c = a) ∨ (k = 1 ∧ c = b)) (h : Q c s)
    (hs : subscripted slice false (.ref D) (.int k u) = operate [.ref D, .int k u] (getItem (.ref D) (.int k u)) := by with_unfolding_all rfl) :
    wpAny (model prog w) A (subscriptTail value slice (.ref D) (.int k u)) Q E s := by
  refine sub_L (vs := [a, b]) N hm (by simp only [List.length_cons, List.length_nil]; omega) (by simp only [List.length_cons, List.length_nil]; omega) (by simp) (x := c) ?_ h hs
  unfold place
  rw [if_neg (by omega)]
  rcases hk with ⟨rfl, rfl⟩ | ⟨rfl, rfl⟩ <;> rfl
end
theorem nodup9 {R O : Addr} {es : List Ent9} {e : Ent9} (h : (adrs9 R O es).Nodup) (he : e ∈ es) : e.adr.Nodup := by
  obtain ⟨p1, p2, rfl⟩ := List.append_of_mem he
  simp only [adrs9, List.nodup_cons] at h
  have hF := h.2.2
  rw [List.flatMap_append, List.flatMap_cons, List.nodup_append] at hF
  exact (List.nodup_append.mp hF.2.1).1
end Mine
end

section
open PySem.Calls
namespace Mine
section
variable {prog : Program} {w : World} {A : Around} {h₀ : Heap} {L : Addr} {m : Str → Option Value} {env : Env} {ct elt : Expr} {x : Str} {scope : Scope} {cl : List (Str × Addr)} {s : Shared} {S : List (Addr × Obj) → Prop} {Fin : List Value → List (Addr × Obj) → Prop} {news : List (Addr × Obj)}
open LCg LCt
/-- a comprehension with a test that keeps items of a list as they are, the ledger as it is -/
theorem filter_items {α : Type} (val : α → Value) (xs : List α) (b : α → Bool)
    (turn : ∀ a I oI C oC D m₂ ys h tk (E' : Value → Shared → Prop), a ∈ xs → NsObj oC m₂ → m₂ x = some (val a) → Fr h₀ L h m → News h₀ L h ((I, oI) :: (C, oC) :: (D, lst ys) :: news) → Off3 I C D news → ((@Ne Nat I C) ∧ (@Ne Nat I D) ∧ (@Ne Nat C D)) →
      wpAny (model prog w) A (isTrue ct (compEnvC scope cl C env) (eval ct (compEnvC scope cl C env))) (fun ok s' => if ok = true then
        wpAny (model prog w) A (eval elt (compEnvC scope cl C env)) (CompEnd h₀ L m { s with heap := h, toks := tk } I oI C oC D (lst ys) S (fun y news' => b a = true ∧ news' = news ∧ y = val a)) E' s'
        else CompEnd h₀ L m { s with heap := h, toks := tk } I oI C oC D (lst ys) S (fun _ news' => b a = false ∧ news' = news) Value.none s') E' { s with heap := h, toks := tk })
    (fin : Fin ((xs.filter b).map val) news) : CompRestT prog w A h₀ L m env ct elt x scope cl s S (fun i v => (xs.map val).toArray[i]? = some v) Fin (xs.map val).toArray.size 0 [] news := by
  have key : ∀ (j i : Nat) (ys : List Value), i + j = xs.length → ys = ((xs.take i).filter b).map val → CompRestT prog w A h₀ L m env ct elt x scope cl s S (fun i v => (xs.map val).toArray[i]? = some v) Fin j i ys news := by
    intro j
    induction j with
    | zero =>
      intro i ys hi' hy
      have e : i = xs.length := by omega
      subst e
      rw [List.take_length] at hy
      subst hy
      exact CompRestT.zero fin
    | succ j ih =>
      intro i ys hi' hy
      refine CompRestT.succ ?_
      intro v I oI C oC D m₂ h tk E' hv hC hx F N off ne
      have hv' : (xs.map val)[i]? = some v := by simpa using hv
      rw [List.getElem?_map] at hv'
      obtain ⟨a, ha, e⟩ := Option.map_eq_some_iff.mp hv'
      rw [← e] at hx
      refine wpAny_mono (turn a I oI C oC D m₂ ys h tk E' (List.mem_of_getElem? ha) hC hx F N off ne) (fun ok s₂ hq => ?_) fun _ _ e => e
      cases ok with
      | true =>
        simp only [if_true] at hq ⊢
        refine wpAny_mono hq (fun y s₃ h3 => ?_) fun _ _ e => e
        obtain ⟨h', tk', nw, e, F', N', off', hS, hb, hn, hy'⟩ := h3
        rw [hn] at N' off' hS
        refine ⟨h', tk', news, e, F', N', off', hS, ?_⟩
        rw [hy']
        refine ih (i + 1) _ (by omega) ?_
        rw [List.take_add_one, ha, hy]
        simp [List.filter_append, hb]
      | false =>
        simp only [Bool.false_eq_true, if_false] at hq ⊢
        obtain ⟨h', tk', nw, e, F', N', off', hS, hb, hn⟩ := hq
        rw [hn] at N' off' hS
        refine ⟨h', tk', news, e, F', N', off', hS, ?_⟩
        refine ih (i + 1) _ (by omega) ?_
        rw [List.take_add_one, ha, hy]
        simp [List.filter_append, hb]
  have := key xs.length 0 [] (by omega) (by simp)
  rw [List.size_toArray, List.length_map]
  exact this
end
end Mine
end

section
open PySem.Calls
namespace Mine
section
variable {prog : Program} {w : World} {A : Around} {h₀ : Heap} {L : Addr} {m : Str → Option Value} {env : Env} {elt : Expr} {x : Str} {scope : Scope} {cl : List (Str × Addr)} {s : Shared} {S : List (Addr × Obj) → Prop} {Fin : List Value → List (Addr × Obj) → Prop} {news : List (Addr × Obj)}
open LCg
/-- a comprehension without a test that makes a text of every item, the ledger as it is -/
theorem map_items {α : Type} (val : α → Value) (xs : List α) (f : α → Str)
    (turn : ∀ a I oI C oC D m₂ ys h tk (E' : Value → Shared → Prop), a ∈ xs → NsObj oC m₂ → m₂ x = some (val a) → Fr h₀ L h m → News h₀ L h ((I, oI) :: (C, oC) :: (D, lst ys) :: news) → Off3 I C D news → ((@Ne Nat I C) ∧ (@Ne Nat I D) ∧ (@Ne Nat C D)) →
      wpAny (model prog w) A (eval elt (compEnvC scope cl C env)) (CompEnd h₀ L m { s with heap := h, toks := tk } I oI C oC D (lst ys) S (fun y news' => news' = news ∧ ∃ t : Tok, y = .str (f a) t)) E' { s with heap := h, toks := tk })
    (fin : ∀ ys : List (Str × Tok), ys.map (·.1) = xs.map f → Fin (strValues ys) news) : CompRest prog w A h₀ L m env elt x scope cl s S (fun i v => (xs.map val).toArray[i]? = some v) Fin (xs.map val).toArray.size 0 [] news := by
  have key : ∀ (j i : Nat) (ys : List (Str × Tok)), i + j = xs.length → ys.map (·.1) = (xs.take i).map f → CompRest prog w A h₀ L m env elt x scope cl s S (fun i v => (xs.map val).toArray[i]? = some v) Fin j i (strValues ys) news := by
    intro j
    induction j with
    | zero =>
      intro i ys hi hy
      have e : i = xs.length := by omega
      subst e
      rw [List.take_length] at hy
      exact CompRest.zero (fin ys hy)
    | succ j ih =>
      intro i ys hi hy
      refine CompRest.succ ?_
      intro v I oI C oC D m₂ h tk E' hv hC hx F N off ne
      have hv' : (xs.map val)[i]? = some v := by simpa using hv
      rw [List.getElem?_map] at hv'
      obtain ⟨a, ha, e⟩ := Option.map_eq_some_iff.mp hv'
      rw [← e] at hx
      refine wpAny_mono (turn a I oI C oC D m₂ _ h tk E' (List.mem_of_getElem? ha) hC hx F N off ne) (fun y s₂ hq => ?_) fun _ _ e => e
      obtain ⟨h', tk', nw, e, F', N', off', hS, hn, t', hy'⟩ := hq
      rw [hn] at N' off' hS
      refine ⟨h', tk', news, e, F', N', off', hS, ?_⟩
      rw [hy']
      show CompRest prog w A h₀ L m env elt x scope cl s S _ Fin j (i + 1) (strValues ys ++ [.str (f a) t']) news
      rw [show strValues ys ++ [.str (f a) t'] = strValues (ys ++ [(f a, t')]) by simp [strValues]]
      refine ih (i + 1) _ (by omega) ?_
      rw [List.take_add_one, ha, List.map_append, List.map_append, hy]
      rfl
  have := key xs.length 0 [] (by omega) (by simp)
  rw [List.size_toArray, List.length_map]
  exact this
end
section
variable {prog : Program} {w : World} {A A₀ : Around} {E : Value → Shared → Prop} {s : Shared} {K : Frag} {L : Addr} {h₀ base : Heap} {m mg mb : Str → Option Value} {p : Program} {loose : List Str} {mean : ExcName → Option Value}
theorem use_strX {k : Nat} {f : Addr} {vs : List Value} {y : Str} {Q : Value → Shared → Prop} {dp un : Nat} {gd : Option (List Code)} {cn : Str} {cs : Scope} {a : Addr} {ccd : Value} {cl : List (Str × Addr)} {outer : List Env} {news cells : List (Addr × Obj)}
    (P : PureFnX k prog w K p loose mean mg mb f vs cells (fun _ _ v => ∃ t, v = .str y t))
    (B : Below A₀ base outer h₀) (F : Fr h₀ L s.heap m) (N : News h₀ L s.heap news) (X : K.In h₀) (Tp : Top p loose mean mg mb h₀) (hck : cs.kind = .function) (hd : dp + k < recursionLimit) (hu : un + 8 * k < cLine) (hc : ∀ q ∈ cells, q ∈ news)
    (h : ∀ t h' tk', Fr h₀ L h' m → News h₀ L h' news → Q (.str y t) { s with heap := h', toks := tk' }) :
    wpAny (model prog w) (ktrTop dp un gd cn cs L a ccd cl outer) (call (.ref f) vs) Q E s :=
  P dp un gd cn cs a ccd cl outer A₀ base h₀ L m s Q E B F (fun q hq => N q (hc q hq)) X Tp hck hd hu fun v' h' tk' hv hg => by
    obtain ⟨t, rfl⟩ := hv
    exact h t h' tk' (Fr.grow F hg) (News.grow N hg)
end
theorem get9 {es : List Ent9} {ts : List (Str × Tok)} (hts : ts.map (·.1) = es.map fun e => e.dat.text) {i : Int} (h0 : 0 ≤ i) (h1 : i < es.length) : ∃ e t, e ∈ es ∧ (es.map fun e => Value.ref e.x)[place i (es.map fun e => Value.ref e.x).length]? = some (.ref e.x) ∧ ts[place i ts.length]? = some (e.dat.text, t) := by
  have hlt : i.toNat < es.length := by omega
  have hl : ts.length = es.length := by have := congrArg List.length hts; simpa using this
  have hlt2 : i.toNat < ts.length := by omega
  refine ⟨es[i.toNat], (ts[i.toNat]).2, List.getElem_mem hlt, ?_, ?_⟩
  · unfold place
    rw [if_neg (by omega), List.getElem?_map, List.getElem?_eq_getElem hlt]; rfl
  · unfold place
    rw [if_neg (by omega), List.getElem?_eq_getElem hlt2]
    have e1 : (ts.map (·.1))[i.toNat]? = (es.map fun e => e.dat.text)[i.toNat]? := by rw [hts]
    rw [List.getElem?_map, List.getElem?_map, List.getElem?_eq_getElem hlt, List.getElem?_eq_getElem hlt2] at e1
    have e2 : (ts[i.toNat]).1 = (es[i.toNat]).dat.text := Option.some.inj e1
    rw [← e2]
section
variable {prog : Program} {w : World} {A : Around} {E : Value → Shared → Prop} {s : Shared} {h₀ : Heap} {L a b : Addr} {news : List (Addr × Obj)}
/-- two lists of the same texts -/
theorem eq_texts2 {xs ys : List (Str × Tok)} {c d : Nat} {Q : Value → Shared → Prop} (N : News h₀ L s.heap news) (ha : (a, listOf (strValues xs).toArray c) ∈ news) (hb : (b, listOf (strValues ys).toArray d) ∈ news) (he : xs.map (·.1) = ys.map (·.1)) (hu : A.units < cLine)
    (h : Q (.bool true) s) : wpAny (model prog w) A (compareOp .Eq (.ref a) (.ref b)) Q E s := by
  have hl : xs.length = ys.length := by have := congrArg List.length he; simpa using this
  have e1 : (List.range (strValues xs).toArray.size).all (fun _ => true) = true := by simp
  refine PySem.SeqAt.RcAt.lists (e := fun _ => true) ⟨_, (N _ ha).1, rfl, _, rfl⟩ ⟨_, (N _ hb).1, rfl, _, rfl⟩ (by simp [strValues, hl]) hu (fun j h1 h2 => ?_) prog w E Q (by rw [e1]; exact h)
  have hj : j < xs.length := by simpa [strValues] using h1
  have hj2 : j < ys.length := by omega
  have ex : (strValues xs).toArray[j]'h1 = .str (xs[j]).1 (xs[j]).2 := by simp [strValues]
  have ey : (strValues ys).toArray[j]'h2 = .str (ys[j]).1 (ys[j]).2 := by simp [strValues]
  have et : (xs[j]).1 = (ys[j]).1 := by
    have h3 : (xs.map (·.1))[j]? = (ys.map (·.1))[j]? := by rw [he]
    rw [List.getElem?_map, List.getElem?_map, List.getElem?_eq_getElem hj, List.getElem?_eq_getElem hj2] at h3
    exact Option.some.inj h3
  rw [ex, ey, et]
  have := PySem.SeqAt.EqAt.str_str (A := A.in1) (s := s) (ys[j]).1 (xs[j]).2 (ys[j]).1 (ys[j]).2
  rw [show ((ys[j]).1 == (ys[j]).1) = true by simp] at this
  exact this
end
end Mine
end

section
open PySem.Calls
namespace Mine
section
variable {prog : Program} {w : World} {A : Around} {E : Value → Shared → Prop} {s : Shared} {h₀ : Heap} {env : Env} {Q : Flow → Shared → Prop}
end

section
variable {prog : Program} {w : World} {A : Around} {E : Value → Shared → Prop} {s : Shared}
end

section
variable {prog : Program} {w : World} {A : Around} {E : Value → Shared → Prop} {s : Shared} {h₀ : Heap} {env : Env} {Q : Flow → Shared → Prop}
end
section
variable {prog : Program} {w : World} {A : Around} {E : Value → Shared → Prop} {s : Shared} {h₀ : Heap} {L : Addr} {news : List (Addr × Obj)}
end
section
variable {prog : Program} {w : World} {A : Around} {E : Value → Shared → Prop} {s : Shared} {h₀ : Heap} {env : Env} {x : Str} {body : List Stmt} {Q : Flow → Shared → Prop}
/-- a range loop that leaves the ledger as it is -/
theorem range_fix {r : Addr} {a₀ b₀ : Int} {t₀ u₀ v₀ : Tok} {n : Nat} {m₀ : Str → Option Value} {news : List (Addr × Obj)} (stored : List Str)
    (hh : A.handled = none) (hr : IsRange s.heap r a₀ b₀ 1 t₀ u₀ v₀) (hsmall : Builtin.Range.small a₀ b₀ 1 = true) (hn : Builtin.Range.rangeSize a₀ b₀ 1 = (n : Int)) (F : Fr h₀ env.locals s.heap m₀) (N : News h₀ env.locals s.heap news)
    (turn : ∀ (pre : List Int) (k : Int) (t : Tok) (u : Str → Option Value) (h : Heap) (tk : Nat) (own : List (Addr × Obj)), k = a₀ + (pre.length : Int) → pre.length < n → OwnOff own (news.map (·.1)) →
      Fr h₀ env.locals h (fun y => if y = x then some (.int k t) else if stored.contains y then u y else m₀ y) → News h₀ env.locals h (news ++ own) →
      wpAny (model prog w) A (execs body env) (InvPostN h₀ env.locals (KstS (fun _ : Unit => news) (fun _ => []) (fun _ => True) x stored m₀ (fun _ _ => True) (pre ++ [k])) own (news.map (·.1)) { s with heap := h, toks := tk } Q) E { s with heap := h, toks := tk })
    (done : ∀ (u : Str → Option Value) (h : Heap) (tk : Nat), Fr h₀ env.locals h (fun y => if y = x then u y else if stored.contains y then u y else m₀ y) → News h₀ env.locals h news → Q .next { s with heap := h, toks := tk }) :
    wpAny (model prog w) A (pyIter (.ref r)) (fun it s₂ => LoopAtV prog w A h₀ env x body Q E it s₂) E s :=
  kst_range (σ := Unit) (fun _ => news) (fun _ => []) (fun _ => True) stored (fun _ _ => True) () hh hr hsmall hn F N trivial (fun _ h => nomatch h) trivial
    (fun _ pre k t u h tk own h1 h2 h3 _ _ F' N' => turn pre k t u h tk own h1 h2 h3 F' N') (fun _ u h tk _ _ F' N' => done u h tk F' N')
end
section
variable {prog : Program} {w : World} {A : Around} {E : Value → Shared → Prop} {s : Shared} {h₀ : Heap} {L : Addr} {news : List (Addr × Obj)}
end
end Mine
end

section
namespace Mine
set_option maxRecDepth 100000 in
set_option maxHeartbeats 8000000 in
open_top hd for PySem.Challenge.rw_kn0090_09
end Mine
end

section
namespace Mine
local macro_rules | `(tactic| walk_at "truthy ref") => `(tactic| (k_here; k_dflt (refine' Mine.truthy_Lst ?k1 ?k2 ?k3 ?_; (case k1 => k_asm); (case k2 => k_mem); (case k3 => (first | (simp only [Mine.strValues_length, List.length_cons]; omega) | decide)); k_whole)))
local macro_rules | `(tactic| walk_at "pyIter ref") => `(tactic| (refine Mine.stop ?_))
local macro_rules | `(tactic| walk_at "exec For Name Attribute cons nil") => `(tactic| (k_here; refine Mine.stop ?_))
local macro_rules | `(tactic| walk_at "call builtin:str.join") => `(tactic| (refine Mine.stop ?_))
local macro_rules | `(tactic| walk_at "call builtin:list.append") => `(tactic| (k_here; k_dflt (refine' Mine.append_T ?k1 ?k2 ?k3 ?z ?_; (case k1 => k_asm); (case k2 => k_asm); (case k3 => k_upd); (case z => ((try simp only [List.length_append, List.length_cons, List.length_nil]); omega)); k_whole); intro h' F' N'; (try k_sweep)))
local macro_rules | `(tactic| walk_at "call builtin:list.extend") => `(tactic| (refine Mine.stop ?_))
local macro_rules | `(tactic| walk_at "call type:map") => `(tactic| (k_here; k_dflt (refine' Mine.map_K ?k1 ?k2 ?k3 ?_; (case k1 => k_asm); (case k2 => k_asm); (case k3 => k_mem); k_whole); intro M' T' I' h' F' N' l1 l2 l3; (try k_lt l1); (try k_sweep)))
local macro_rules | `(tactic| walk_at "GrowPost") => `(tactic| (dsimp only [Mine.GrowPost]))
local macro_rules | `(tactic| walk_at "GrowEnd") => `(tactic| (refine Mine.stop ?_))
set_option maxHeartbeats 4000000 in
theorem str_walk (w : World) (mean : ExcName → Option Value) (mg mb : Str → Option Value) (x d u r : Addr) (t1 t2 t3 t4 : Tok) (ag rl : List (Str × Tok)) (c1 c2 : Nat) (dl : Option (Int × Tok)) (rt : Option Mine.Rate) (cells : List (Addr × Obj)) (ha : ag.length ≤ 70) (hr : rl.length ≤ 140) (hur : u ≠ r)
   (hsm : (Mine.datOf ag rl dl rt).Small)
   (hcells : cells = [(x, instObj 59 d), (d, Mine.entD w.params t1 t2 t3 t4 u r (Mine.dlV dl) (Mine.rtV rt)), (u, listOf (strValues ag).toArray c1), (r, listOf (strValues rl).toArray c2)] ++ Mine.rtC w.params rt) :
   Mine.PureFnX 2 Challenge.rw_kn0090_09.row.prog w (hd.heap_39 w.params) hd.view_39 (looseW hd.view_39 []) mean mg mb 42 [.ref x] cells (fun _ _ v => ∃ t, v = .str (Mine.datOf ag rl dl rt).text t) := by
  intro dp un gd cn cs a ccd cl outer A₀ base h₀ L m s Q E B F N X T hk hd hu hret
  refine wpAny_call ?_
  k_dflt (refine' Mine.code_pureX (fun _ _ v => ∃ t, v = .str (Mine.datOf ag rl dl rt).text t) (fun v h' tk' hv hg => hret v h' tk' hv hg) B F X N T ?kA ?kF ?kK ?k6 ?k7 ?k8 ?k9 ?kB ?kD ?_ ?c2 ?c3 ?c4; (case kA => exact rfl); (case kF => exact rfl); (case kK => assumption);  (case k6 => k_is); (case k7 => k_is); (case k8 => ktr_room); (case k9 => exact BindsTo.of_eq rfl); (case kB => exact rfl); (case kD => decide +kernel); (case c2 => exact rfl); (case c3 => exact rfl); (case c4 => exact rfl); k_whole; intro g' L' h' tk' cells' FG' F' N' Y' B' X' T' l1; (with_unfolding_all (replace Y' : CellsAre _ [] _ := Y'; cases Y')); (try simp only [List.cons_append, List.nil_append] at N'); (try dsimp only); (try k_fold))
  subst hcells
  have hag : ∀ y ∈ ag, y.1.length ≤ 20 := fun y hy => hsm.ag y.1 (List.mem_map_of_mem hy)
  have hu1 : u ≠ x := Mine.ne_inst N' (by exact .tail _ (.tail _ (.head _))) (by exact .head _)
  have hu2 : u ≠ d := Mine.ne_dict N' (by exact .tail _ (.tail _ (.head _))) (by exact .tail _ (.head _))
  have hu3 : ∀ p ∈ Mine.rtC w.params rt, p.1 ≠ u := by
    rcases rt with _ | ρ
    · exact fun _ h => nomatch h
    · intro p hp
      rcases List.mem_cons.mp hp with rfl | hp
      · exact Ne.symm (Mine.ne_inst N' (by exact .tail _ (.tail _ (.head _))) (by exact .tail _ (.tail _ (.tail _ (.tail _ (.head _))))))
      · rw [List.mem_singleton.mp hp]
        exact Ne.symm (Mine.ne_dict N' (by exact .tail _ (.tail _ (.head _))) (by exact .tail _ (.tail _ (.tail _ (.tail _ (.tail _ (.head _)))))))
  have l2 : ∀ p ∈ Mine.rtC w.params rt, @LT.lt Nat _ p.1 L' := fun p hp => l1 p (List.mem_append.mpr (.inr hp))
  replace l1 := fun p hp => l1 p (List.mem_append.mpr (.inl hp))
  k_lt l1
  unfold Mine.entD at N'
  simp only [List.cons_append, List.nil_append] at N'
  cases ag with
  | nil => 
      k_steps
      rename News g' _ _ _ => NE
      exact ⟨⟨_, rfl⟩, ⟨_, _, rfl⟩, fun z hz => (NE z hz).1⟩
  | cons a0 ag =>
      have hne : (strValues (a0 :: ag)).isEmpty = false := rfl
      simp only [List.length_cons] at ha
      k_steps
      unfold Mine.Stop
      with_unfolding_all refine' For_invVF (by assumption) ?k1 ?k2 ?_; (case k1 => exact rfl); (case k2 => exact rfl)
      k_steps
      unfold Mine.Stop
      rename_i L0 hA lA hB F2 N2
      with_unfolding_all refine' Mine.grow_items (σ := List (Str × Tok) × Nat) (xs := a0 :: ag) (fun y => .str y.1 y.2) (fun c => (L0, listOf (strValues c.1).toArray c.2) :: (x, instObj 59 d) :: (d, Mine.entD w.params t1 t2 t3 t4 u r (Mine.dlV dl) (Mine.rtV rt)) :: (r, listOf (strValues rl).toArray c2) :: Mine.rtC w.params rt) (fun c => []) (fun _ => True) [] (fun pre c => c.1.map (·.1) = pre.map (fun y => Str.ofString "User-agent: " ++ y.1)) ([], 0) (by rfl) (by k_mem) ?hs F2 N2 trivial ?hk ?hp ?turn ?done
      case hk => kst_all
      case hp => rfl
      case hs => exact List.forall_mem_cons.mpr ⟨⟨.head _, Nat.ne_of_gt lA.2.2.1⟩, List.forall_mem_cons.mpr ⟨⟨.tail _ (.head _), Ne.symm hu1⟩, List.forall_mem_cons.mpr ⟨⟨.tail _ (.tail _ (.head _)), Ne.symm hu2⟩, List.forall_mem_cons.mpr ⟨⟨.tail _ (.tail _ (.tail _ (.tail _ (.head _)))), Ne.symm hur⟩, fun p hp => ⟨.tail _ (.tail _ (.tail _ (.tail _ (.tail _ hp)))), hu3 p hp⟩⟩⟩⟩⟩
      case turn =>
        rintro ⟨ys, nn⟩ pre post ⟨b, tb⟩ uu h tk own hsc hown hoff _ hP Ft Nt
        dsimp only at hP Ft Nt
        simp only [kstB] at Ft
        unfold Mine.entD at Nt
        simp only [List.cons_append, List.nil_append] at Nt
        have hTo : OwnOff (Mine.rtC w.params rt ++ own) [L0] := by
          intro p hp b hb
          rw [List.mem_singleton.mp hb]
          rcases List.mem_append.mp hp with hp | hp
          · exact Nat.ne_of_lt (Mine.allLt_mem lA.2.2.2.2 p hp)
          · exact hoff p hp L0 (.head _)
        have hmk := kstMark
        have hbl : b.length ≤ 20 := hag (b, tb) (by rw [hsc]; simp)
        have hyl : ys.length ≤ 70 := by
          have h1 := congrArg List.length hP
          have h2 := congrArg List.length hsc
          simp only [List.length_map, List.length_append, List.length_cons] at h1 h2
          omega
        generalize hT : Mine.rtC w.params rt ++ own = T at Nt hTo
        k_steps
        unfold Mine.Stop
        rename Fr _ _ _ _ => F9
        rename News _ _ _ _ => N9
        rename_i tA tB hC
        obtain ⟨hT1, hT2⟩ := Mine.mem_rtC hT
        refine' Mine.grow_end (ys ++ [(Str.ofString "User-agent: " ++ b, tB)], nn + 1) F9 N9 ?hn ?ho ?ha trivial ?hk ?hr ?hp
        case hn => exact List.forall_mem_cons.mpr ⟨List.Mem.head _, List.forall_mem_cons.mpr ⟨.tail _ (.head _), List.forall_mem_cons.mpr ⟨.tail _ (.tail _ (.head _)), List.forall_mem_cons.mpr ⟨.tail _ (.tail _ (.tail _ (.head _))), fun p hp => .tail _ (.tail _ (.tail _ (.tail _ (hT1 p hp))))⟩⟩⟩⟩
        case ho => exact fun p hp => .tail _ (.tail _ (.tail _ (.tail _ (hT2 p hp))))
        case ha => exact hoff
        case hk => kst_all
        case hr => kst_same
        case hp => dsimp only; simp only [List.map_append, hP]; rfl
      case done =>
        rintro ⟨ys, nn⟩ uu h tk _ hP hnl Ft Nt
        dsimp only at hP hnl Ft Nt
        simp only [kstB] at Ft
        unfold Mine.entD at Nt
        have hyl : ys.length ≤ 70 := by
          have h1 := congrArg List.length hP
          simp only [List.length_map, List.length_cons] at h1
          omega
        obtain ⟨R, hR⟩ : ∃ R, R = (u, listOf (strValues (a0 :: ag)).toArray c1) :: (x, instObj 59 d) :: (d, Mine.entD w.params t1 t2 t3 t4 u r (Mine.dlV dl) (Mine.rtV rt)) :: (r, listOf (strValues rl).toArray c2) :: Mine.rtC w.params rt := ⟨_, rfl⟩
        have hcR : ∀ z ∈ [(x, instObj 59 d), (d, Mine.entD w.params t1 t2 t3 t4 u r (Mine.dlV dl) (Mine.rtV rt)), (u, listOf (strValues (a0 :: ag)).toArray c1), (r, listOf (strValues rl).toArray c2)] ++ Mine.rtC w.params rt, z ∈ R := by
          rw [hR]
          exact List.forall_mem_cons.mpr ⟨.tail _ (.head _), List.forall_mem_cons.mpr ⟨.tail _ (.tail _ (.head _)), List.forall_mem_cons.mpr ⟨.head _, List.forall_mem_cons.mpr ⟨.tail _ (.tail _ (.tail _ (.head _))), fun z hz => .tail _ (.tail _ (.tail _ (.tail _ hz)))⟩⟩⟩⟩
        rcases dl with _ | ⟨i, ti⟩ <;> rcases rt with _ | ρ <;> rcases rl with _ | ⟨r0, rl⟩
        all_goals
          simp only [Mine.dlV, Mine.rtC, Mine.rtV, Mine.Rate.cells, AllLt] at Nt lA
          (try (obtain ⟨hi1, hi2⟩ := hsm.dl i rfl))
          (try (obtain ⟨hq1, hq2, hq3, hq4⟩ := hsm.rt (ρ.rq, ρ.rs) rfl; dsimp only at hq1 hq2 hq3 hq4))
          (try (have hne2 : (strValues (r0 :: rl)).isEmpty = false := rfl))
          (try simp only [List.length_cons, List.length_nil] at hr)
          k_steps
          unfold Mine.Stop
        all_goals try (
          rename News _ _ _ _ => NE
          refine' Mine.extend_strs (rest := R) ?hh (by k_asm) NE ?kM ?kT ?kI ?kl ?kD ?kn ?kr ?kz ?_
          case hh => rfl
          case kM => k_mem
          case kT => k_mem
          case kI => k_mem
          case kl => k_mem
          case kD => k_mem
          case kn => k_ne
          case kz => simp only [List.length_append, List.length_cons, List.length_nil, sizeLine]; omega
          case kr =>
            rw [hR]
            simp only [Mine.rtC, Mine.Rate.cells]
            repeat (first | exact List.forall_mem_nil _ | refine List.forall_mem_cons.mpr ⟨⟨by k_mem, by k_ne, by k_ne⟩, ?_⟩)
          intro hX tX cX FX NX
          clear NE
          k_steps
          unfold Mine.Stop)
        all_goals 
          rename News _ _ _ _ => NE
          refine' Mine.join_end NE ?m hsm ?h1 ?h2 ?hY ?_
          case m => k_mem
          case h1 => (simp only [Mine.datOf, List.length_map, List.length_cons]; omega)
          case h2 => (simp only [Mine.datOf, List.length_map, List.length_nil, List.length_cons]; omega)
          case hY => 
            simp only [List.map_append, hP, List.map_cons, List.map_nil, Mine.empty_append, List.append_assoc, List.cons_append, List.nil_append, Mine.Dat9.lines, Mine.datOf, Mine.dlL, Mine.rtL, Mine.rlL, Option.map_some, Option.map_none, if_true, List.map_map, reduceCtorEq, if_false]
            rfl
          intro t' k
          k_steps
        all_goals first
          | exact ⟨⟨_, rfl⟩, ⟨_, _, rfl⟩, fun z hz => (NE z (.tail _ (hcR z hz))).1⟩
          | (have key : ∀ z ∈ R, _ = some z.2 := fun z hz => (NE z ((?_ : ∀ z ∈ R, _) z hz)).1
             · exact ⟨⟨_, rfl⟩, ⟨_, _, rfl⟩, fun z hz => key z (hcR z hz)⟩
             · rw [hR]
               simp only [Mine.rtC, Mine.Rate.cells]
               repeat (first | exact List.forall_mem_nil _ | refine List.forall_mem_cons.mpr ⟨by k_mem, ?_⟩))
end Mine
end

section
namespace Mine
inductive Deep : Prop | mk
local macro_rules | `(tactic| walk_at "truthy ref") => `(tactic| (k_here; k_dflt (refine' Mine.truthy_Lst ?k1 ?k2 ?k3 ?_; (case k1 => k_asm); (case k2 => k_mem); (case k3 => (first | (simp only [Mine.strValues_length, List.length_cons]; omega) | decide)); k_whole)))
local macro_rules | `(tactic| walk_at "call builtin:str.split") => `(tactic| (k_here; refine KSpl.split1 (by k_asm) (by k_asm) (by decide) ?_ (by simp only [sizeLine]; omega); intro D' l' h' k' e' a' F' N' l1; (try k_lt l1); (try k_sweep)))
local macro_rules | `(tactic| walk_at "exec For Name BinOp cons nil") => `(tactic| (k_here; refine Mine.stop ?_))
local macro_rules | `(tactic| walk_at "CompSrcT") => `(tactic| ((with_reducible show LCt.CompSrcT _ _ _ _ _ _ _ _ _ _ _ _ _ (Value.ref _) _); refine Mine.stop ?_))
local macro_rules | `(tactic| walk_at "CompEnd") => `(tactic| (refine Mine.stop ?_))
local macro_rules | `(tactic| walk_at "compareOp Eq ref ref") => `(tactic| (refine Mine.stop ?_))
local macro_rules | `(tactic| walk_at "binaryOp Add ref ref") => `(tactic| (k_here; first | (k_dflt (refine' Mine.add_texts_G ?k1 ?k2 ?k3 ?k4 ?k5 ?_; (case k1 => k_asm); (case k2 => k_asm); (case k3 => k_mem); (case k4 => k_mem); (case k5 => ((try simp only [sizeLine, List.length_append]); omega)); k_whole); intro h' D' F' N' l1; (try k_lt l1); (try k_sweep)) | refine Mine.stop ?_))
local macro_rules | `(tactic| walk_at "compareOp NotEq ref ref") => `(tactic| (refine Mine.stop ?_))
local macro_rules | `(tactic| walk_at "call builtin:str.join") => `(tactic| (refine Mine.stop ?_))
local macro_rules | `(tactic| walk_at "subscriptTail Name Slice ref ref") => `(tactic| (k_here; (with_reducible show wpAny _ _ (subscriptTail _ (PySem.Expr.Slice (some _) none none _) (Value.ref _) (Value.ref _)) _ _ _); k_dflt (refine' Mine.last_T (s := ⟨_, _, _, _, _⟩) ?F ?N ?m ?z ?_ ?hs ?ht; (case F => k_asm); (case N => k_asm); (case m => k_mem); (case z => omega); (case hs => with_unfolding_all rfl); (case ht => intro _; with_unfolding_all rfl); k_whole); intro D' h' F' N' l1; (try k_lt l1); (try k_sweep)))
local macro_rules | `(tactic| walk_at "call builtin:list.extend") => `(tactic| (k_here; k_dflt (refine' Mine.extend_T ?F ?N ?m ?U ?z ?_; (case F => k_asm); (case N => k_asm); (case m => k_mem); (case U => k_upd); (case z => (try simp only [List.length_append]); omega); k_whole); intro h' F' N'; (try k_sweep)))
local macro_rules | `(tactic| walk_at "pyIter ref") => `(tactic| ((with_reducible rename Deep => hDeep0); refine Mine.stop ?_))
local macro_rules | `(tactic| walk_at "call builtin:list.append") => `(tactic| (k_here; k_dflt (refine' Mine.append_T ?k1 ?k2 ?k3 ?z ?_; (case k1 => k_asm); (case k2 => k_asm); (case k3 => k_upd); (case z => ((try simp only [List.length_append, List.length_cons, List.length_nil]); omega)); k_whole); intro h' F' N'; (try k_sweep)))
local macro_rules | `(tactic| walk_at "GrowPost") => `(tactic| (dsimp only [Mine.GrowPost]))
local macro_rules | `(tactic| walk_at "GrowEnd") => `(tactic| (refine Mine.stop ?_))
set_option maxHeartbeats 4000000 in
theorem merged_walk (w : World) (mean : ExcName → Option Value) (mg mb : Str → Option Value) (x y : Str) (tx ty : Tok) (hx : x.length ≤ 100000) (hy : y.length ≤ 100000) (hx1 : (Txt.split x (Str.ofString "\n")).length ≤ 300) (hy1 : (Txt.split y (Str.ofString "\n")).length ≤ 300) (hx2 : ∀ z ∈ Txt.split x (Str.ofString "\n"), z.length ≤ 40) (hy2 : ∀ z ∈ Txt.split y (Str.ofString "\n"), z.length ≤ 40) :
   Mine.PureFnX 2 Challenge.rw_kn0090_09.row.prog w (hd.heap_39 w.params) hd.view_39 (looseW hd.view_39 []) mean mg mb 75 [.str x tx, .str y ty] [] (fun _ _ v => ∃ t, v = .str (Mine.mergedT x y) t) := by
  intro dp un gd cn cs a ccd cl outer A₀ base h₀ L m s Q E B F N X T hk hd hu hret
  w_top off
  refine wpAny_call ?_
  k_dflt (refine' Mine.code_pureX (fun _ _ v => ∃ t, v = .str (Mine.mergedT x y) t) (fun v h' tk' hv hg => hret v h' tk' hv hg) B F X N T ?kA ?kF ?kK ?k6 ?k7 ?k8 ?k9 ?kB ?kD ?_ ?c2 ?c3 ?c4; (case kA => exact rfl); (case kF => exact rfl); (case kK => assumption);  (case k6 => k_is); (case k7 => k_is); (case k8 => ktr_room); (case k9 => exact BindsTo.of_eq rfl); (case kB => exact rfl); (case kD => decide +kernel); (case c2 => exact rfl); (case c3 => exact rfl); (case c4 => exact rfl); k_whole; intro g' L' h' tk' cells' FG' F' N' Y' B' X' T' l1; k_cells Y'; (try simp only [List.cons_append, List.nil_append, List.append_nil] at N'); (try dsimp only); (try k_fold))
  k_steps
  · exact ⟨⟨_, by rw [Mine.merged_none1 (by assumption)]⟩, ⟨_, _, rfl⟩, fun _ h => nomatch h⟩
  · exact ⟨⟨_, by rw [Mine.merged_none2 (by assumption)]⟩, ⟨_, _, rfl⟩, fun _ h => nomatch h⟩
  · unfold Mine.Stop
    rename_i D1 us hh1 kk1 e1 st1 lt1 hB1 tk1 D2 vs hh2 kk2 e2 st2 lt2 hB2 oT F2 N2 dT
    have hul : us.length ≤ 300 := by rw [← e1, List.length_map] at hx1; exact hx1
    have hvl : vs.length ≤ 300 := by rw [← e2, List.length_map] at hy1; exact hy1
    have huz : ∀ p ∈ us, p.1.length ≤ 40 := fun p hp => hx2 _ (by rw [← e1]; exact List.mem_map_of_mem hp)
    have hvz : ∀ p ∈ vs, p.1.length ≤ 40 := fun p hp => hy2 _ (by rw [← e2]; exact List.mem_map_of_mem hp)
    refine LCt.CompSrcT.ledger (by rfl) F2 N2 (by k_mem) (by rw [List.size_toArray, Mine.strValues_length]; simp only [sizeLine]; omega) ?_
    intro g1
    refine Mine.filter_items (fun p : Str × Tok => Value.str p.1 p.2) us (fun p => Mine.isUA (vs.map (·.1)) p.1) ?tu ?fi
    case tu =>
      rintro ⟨z, tz⟩ I oI C oC D3 m2 ys1 h1 tk2 E1 hz hC1 hx1 F' N' off' ne'
      have off0 := off'
      (try simp only [LCg.Off3, and_true] at off')
      dsimp only at hx1
      have hzl : z.length ≤ 40 := huz _ hz
      (try k_fold)
      k_steps
      all_goals
        unfold Mine.Stop
        rename Fr _ _ _ _ => F5
        rename News _ _ _ _ => N5
        first
          | exact LCg.CompEnd.intro F5 N5 _ (fun p hp => hp) off0 (.inr ⟨_, by k_mem, rfl, _, rfl⟩) ⟨Mine.isUA_yes (by assumption) (by assumption), rfl, rfl⟩
          | exact LCg.CompEnd.intro F5 N5 _ (fun p hp => hp) off0 (.inr ⟨_, by k_mem, rfl, _, rfl⟩) ⟨(by first | exact Mine.isUA_no1 (by assumption) | exact Mine.isUA_no2 (by assumption)), rfl⟩
    case fi =>
      intro D3 h3 tk3 F3 N3 off3
      (try simp only [LCg.Off1, and_true] at off3)
      obtain ⟨u1, u2, u3, u4⟩ := off3
      change News g' L' h3 ((D3, listOf (strValues (us.filter (fun p => Mine.isUA (vs.map (·.1)) p.1))).toArray _) :: _) at N3
      generalize hls : us.filter (fun p => Mine.isUA (vs.map (·.1)) p.1) = ls at N3
      have hll : ls.length ≤ 300 := by rw [← hls]; exact Nat.le_trans (List.length_filter_le _ _) hul
      generalize List.length _ = nl at N3
      (try k_fold)
      k_steps
      unfold Mine.Stop
      by_cases hl0 : ls = []
      · refine Mine.eq_none (by is_list) (by is_list) (by ke_room) (by rw [hl0]; rfl) ?_
        k_steps
        exact ⟨⟨_, by rw [Mine.merged_none3 e1 e2 hls hl0]⟩, ⟨_, _, rfl⟩, fun _ h => nomatch h⟩
      · refine Mine.eq_some (by is_list) (by is_list) (by ke_room) (by intro h; exact hl0 (List.map_eq_nil_iff.mp h)) ?_
        k_steps
        unfold Mine.Stop
        rename Fr _ _ _ _ => F6
        rename News _ _ _ _ => N6
        refine LCt.CompSrcT.ledger (by rfl) F6 N6 (by k_mem) (by rw [List.size_toArray, Mine.strValues_length, List.length_append]; simp only [sizeLine]; omega) ?_
        intro g6
        refine Mine.filter_items (fun p : Str × Tok => Value.str p.1 p.2) (us ++ vs) (fun p => Mine.isKey (Str.ofString "Crawl-delay: ") 13 p.1) ?tu ?fi
        case tu =>
          rintro ⟨z, tz⟩ I oI C oC D3 m2 ys1 h1 tk2 E1 hz hC1 hx1 F' N' off' ne'
          have off0 := off'
          (try simp only [LCg.Off3, and_true] at off')
          dsimp only at hx1
          have hzl : z.length ≤ 40 := by rcases List.mem_append.mp hz with h | h; exact huz _ h; exact hvz _ h
          (try k_fold)
          k_steps
          all_goals
            unfold Mine.Stop
            rename Fr _ _ _ _ => F5
            rename News _ _ _ _ => N5
            first
              | exact LCg.CompEnd.intro F5 N5 _ (fun p hp => hp) off0 (.inr ⟨_, by k_mem, rfl, _, rfl⟩) ⟨by assumption, rfl, rfl⟩
              | exact LCg.CompEnd.intro F5 N5 _ (fun p hp => hp) off0 (.inr ⟨_, by k_mem, rfl, _, rfl⟩) ⟨by assumption, rfl⟩
        case fi =>
          intro D6 h6 tk6 F6 N6 off6
          (try simp only [LCg.Off1, and_true] at off6)
          change News _ _ h6 ((D6, listOf (strValues ((us ++ vs).filter (fun p => Mine.isKey (Str.ofString "Crawl-delay: ") 13 p.1))).toArray _) :: _) at N6
          generalize hts : (us ++ vs).filter (fun p => Mine.isKey (Str.ofString "Crawl-delay: ") 13 p.1) = ts at N6
          have htl : ts.length ≤ 600 := by rw [← hts]; refine Nat.le_trans (List.length_filter_le _ _) ?_; rw [List.length_append]; omega
          generalize List.length _ = nl6 at N6
          have htk : (Mine.lastL ts).length ≤ 600 := by unfold Mine.lastL; rw [List.length_drop]; omega
          (try k_fold)
          k_steps
          unfold Mine.Stop
          rename Fr _ _ _ _ => F6b
          rename News _ _ _ _ => N6b
          refine LCt.CompSrcT.ledger (by rfl) F6b N6b (by k_mem) (by rw [List.size_toArray, Mine.strValues_length, List.length_append]; simp only [sizeLine]; omega) ?_
          intro g6b
          refine Mine.filter_items (fun p : Str × Tok => Value.str p.1 p.2) (us ++ vs) (fun p => Mine.isKey (Str.ofString "Request-rate: ") 14 p.1) ?tu ?fi
          case tu =>
            rintro ⟨z, tz⟩ I oI C oC D3 m2 ys1 h1 tk2 E1 hz hC1 hx1 F' N' off' ne'
            have off0 := off'
            (try simp only [LCg.Off3, and_true] at off')
            dsimp only at hx1
            have hzl : z.length ≤ 40 := by rcases List.mem_append.mp hz with h | h; exact huz _ h; exact hvz _ h
            (try k_fold)
            k_steps
            all_goals
              unfold Mine.Stop
              rename Fr _ _ _ _ => F5
              rename News _ _ _ _ => N5
              first
                | exact LCg.CompEnd.intro F5 N5 _ (fun p hp => hp) off0 (.inr ⟨_, by k_mem, rfl, _, rfl⟩) ⟨by assumption, rfl, rfl⟩
                | exact LCg.CompEnd.intro F5 N5 _ (fun p hp => hp) off0 (.inr ⟨_, by k_mem, rfl, _, rfl⟩) ⟨by assumption, rfl⟩
          case fi =>
            intro D6b h6b tk6b F6b N6b off6b
            (try simp only [LCg.Off1, and_true] at off6b)
            change News _ _ h6b ((D6b, listOf (strValues ((us ++ vs).filter (fun p => Mine.isKey (Str.ofString "Request-rate: ") 14 p.1))).toArray _) :: _) at N6b
            generalize htsb : (us ++ vs).filter (fun p => Mine.isKey (Str.ofString "Request-rate: ") 14 p.1) = tsb at N6b
            have htlb : tsb.length ≤ 600 := by rw [← htsb]; refine Nat.le_trans (List.length_filter_le _ _) ?_; rw [List.length_append]; omega
            generalize List.length _ = nl6b at N6b
            have htkb : (Mine.lastL tsb).length ≤ 600 := by unfold Mine.lastL; rw [List.length_drop]; omega
            (try k_fold)
            k_steps
            unfold Mine.Stop
            rename Fr _ _ _ _ => FR
            rename News _ _ _ _ => NR
            rename_i lR hR FR0 NR0 ltR hR2
            clear FR0 NR0
            with_unfolding_all refine' For_invVF (by assumption) ?k1 ?k2 ?_; (case k1 => exact rfl); (case k2 => exact rfl)
            have hDeep : Deep := .mk
            k_steps
            unfold Mine.Stop
            rename Deep => hDeep1
            clear hDeep1
            rename Fr _ _ _ _ => F8
            rename News _ _ _ _ => N8
            rename_i hZ DZ ltZ
            with_unfolding_all refine' Mine.grow_items (σ := List (Str × Tok) × Nat) (xs := us ++ vs) (fun y => .str y.1 y.2) (fun c => [(lR, listOf (strValues c.1).toArray c.2), (D3, listOf (strValues (ls ++ Mine.lastL ts ++ Mine.lastL tsb)).toArray (nl + min 1 (Mine.lastL ts).length + min 1 (Mine.lastL tsb).length))]) (fun c => []) (fun _ => True) [] (fun pre c => c.1 = pre.filter (fun p => Mine.isRule p.1)) ([], 0) (by rfl) (by k_mem) ?hs F8 N8 trivial ?hk ?hp ?turn ?done
            case hk => kst_all
            case hp => rfl
            case hs => exact List.forall_mem_cons.mpr ⟨⟨by k_mem, by k_ne⟩, List.forall_mem_cons.mpr ⟨⟨by k_mem, by k_ne⟩, List.forall_mem_nil _⟩⟩
            case turn =>
              rintro ⟨ys, nn⟩ pre post ⟨b, tb⟩ uu h tk own hsc hown hoff _ hP Ft Nt
              dsimp only at hP Ft Nt
              simp only [kstB] at Ft
              simp only [List.cons_append, List.nil_append] at Nt
              have hTo : OwnOff own [lR] := by
                intro p hp b hb
                rw [List.mem_singleton.mp hb]
                exact hoff p hp lR (.head _)
              have hmk := kstMark
              have hbl : b.length ≤ 40 := by rcases List.mem_append.mp (show (b, tb) ∈ us ++ vs by rw [hsc]; simp) with h | h; exact huz _ h; exact hvz _ h
              have hpl := congrArg List.length hsc
              rw [List.length_append, List.length_append, List.length_cons] at hpl
              have hyl : ys.length ≤ 600 := by rw [hP]; refine Nat.le_trans (List.length_filter_le _ _) ?_; omega
              (try k_fold)
              k_steps
              all_goals
                unfold Mine.Stop
                rename Fr _ _ _ _ => F9
                rename News _ _ _ _ => N9
              rotate_left 2
              · refine' Mine.grow_end (ys, nn) F9 N9 ?hn ?ho ?ha trivial ?hk ?hr ?hp
                case hn => exact List.forall_mem_cons.mpr ⟨by k_mem, List.forall_mem_cons.mpr ⟨by k_mem, List.forall_mem_nil _⟩⟩
                case ho => exact fun p hp => .tail _ (.tail _ hp)
                case ha => exact hoff
                case hk => kst_all
                case hr => kst_same
                case hp => exact Mine.filter_snoc_no hP (Mine.isRule_no (by assumption) (by assumption))
              all_goals
                refine' Mine.grow_end (ys ++ [(b, tb)], nn + 1) F9 N9 ?hn ?ho ?ha trivial ?hk ?hr ?hp
                case hn => exact List.forall_mem_cons.mpr ⟨by k_mem, List.forall_mem_cons.mpr ⟨by k_mem, List.forall_mem_nil _⟩⟩
                case ho => exact fun p hp => .tail _ (.tail _ hp)
                case ha => exact hoff
                case hk => kst_all
                case hr => kst_same
                case hp => exact Mine.filter_snoc_yes hP (by first | exact Mine.isRule_yes1 (by assumption) | exact Mine.isRule_yes2 (by assumption))
            case done =>
              rintro ⟨rs, nr⟩ uu h tk _ hP hnl Ft Nt
              dsimp only at hP hnl Ft Nt
              simp only [kstB] at Ft
              have hrl : rs.length ≤ 600 := by rw [hP]; refine Nat.le_trans (List.length_filter_le _ _) ?_; rw [List.length_append]; omega
              have hB3 : ∀ p ∈ ls ++ Mine.lastL ts ++ Mine.lastL tsb, p.1.length ≤ 40 := by
                refine Mine.bound_append (Mine.bound_append ?_ ?_) ?_
                · rw [← hls]; exact Mine.bound_filter huz
                · rw [← hts]; exact Mine.bound_last (Mine.bound_filter (Mine.bound_append huz hvz))
                · rw [← htsb]; exact Mine.bound_last (Mine.bound_filter (Mine.bound_append huz hvz))
              have hx0 : (x == Str.ofString "") = false := by assumption
              have hy0 : (y == Str.ofString "") = false := by assumption
              (try k_fold)
              k_steps
              unfold Mine.Stop
              by_cases hr0 : rs = []
              · refine Mine.ne_none (by is_list) (by is_list) (by ke_room) (by rw [hr0]; rfl) ?_
                k_steps
                unfold Mine.Stop
                rename Fr _ _ _ _ => F9
                rename News _ _ _ _ => N9
                k_dflt (refine' Mine.add_texts_G (ys := [(_, _)]) F9 N9 ?a ?b ?z ?_)
                case a => k_mem
                case b => k_mem
                case z => simp only [sizeLine, List.length_append, List.length_cons, List.length_nil]; omega
                intro h' D' F' N' l1
                clear N9 F9
                k_steps
                unfold Mine.Stop
                rename News _ _ _ _ => N9
                refine' Mine.join_end2 N9 ?m ?hB ?hl ?hY ?_
                case m => k_mem
                case hB => exact Mine.bound_append hB3 (fun y hy => by rw [List.mem_singleton.mp hy]; exact Nat.le_trans (Nat.le_of_eq Mine.alS_len) (by decide))
                case hl => simp only [List.length_append, List.length_cons, List.length_nil]; omega
                case hY => rw [List.map_append]
                intro t' k
                have hv : Mine.mergedT x y = _ := Mine.merged_some hx0 hy0 e1 e2 hls hl0 hts htsb hP
                rw [hr0] at hv
                k_steps
                exact ⟨⟨_, by rw [hv]; rfl⟩, ⟨_, _, rfl⟩, fun _ h => nomatch h⟩
              · refine Mine.ne_some (by is_list) (by is_list) (by ke_room) (by intro h; exact hr0 (List.map_eq_nil_iff.mp h)) ?_
                k_steps
                unfold Mine.Stop
                rename News _ _ _ _ => N9
                refine' Mine.join_end2 N9 ?m ?hB ?hl ?hY ?_
                case m => k_mem
                case hB => exact Mine.bound_append hB3 (by rw [hP]; exact Mine.bound_filter (Mine.bound_append huz hvz))
                case hl => simp only [List.length_append]; omega
                case hY => rw [List.map_append]
                intro t' k
                have hv : Mine.mergedT x y = _ := Mine.merged_some hx0 hy0 e1 e2 hls hl0 hts htsb hP
                rw [Mine.rlL_some (fun h => hr0 (List.map_eq_nil_iff.mp h))] at hv
                k_steps
                exact ⟨⟨_, by rw [hv]⟩, ⟨_, _, rfl⟩, fun _ h => nomatch h⟩
end Mine
end

section
namespace Mine
local macro_rules | `(tactic| walk_at "call ref") => `(tactic| (k_here; k_dflt (refine' call_cls ?k1 ?k2 ?k3 ?k4 ?k5 ?k6 ?_; (case k1 => k_asm); (case k2 => k_asm); (case k3 => k_asm); (case k4 => k_is); (case k5 => k_is); (case k6 => k_is); k_whole; intro x' d' h' F' N' l1 l2; (try k_lt l1); (try k_lt2 l2); (try k_sweep); refine' code_def ?k1 ?k2 ?k3 ?k4 ?k5 ?kA ?kF ?kK ?k6 ?k7 ?k8 ?k9 ?kB ?_ ?c2 ?c3 ?c4 ?c5; (case kA => exact rfl); (case kF => exact rfl); (case kK => first | exact rfl | assumption); (case k1 => k_asm); (case k2 => k_asm); (case k3 => k_asm); (case k4 => k_asm); (case k5 => k_asm); (case k6 => k_is); (case k7 => k_is); (case k8 => ktr_room); (case k9 => exact BindsTo.of_eq rfl); (case c5 => decide); (case kB => exact locs rfl); (case c2 => exact rfl); (case c3 => exact rfl); (case c4 => exact rfl); k_whole; intro g' L' h' FG' F' N' B' X' T'; (try dsimp only); (try k_fold))))
set_option maxHeartbeats 4000000 in
theorem entry_new {w : World} {mean : ExcName → Option Value} {mg mb : Str → Option Value} {A₀ : Around} {base h₀ : Heap} {L : Addr} {m : Str → Option Value} {s : Shared} {Q E : Value → Shared → Prop} {news : List (Addr × Obj)}
    {dp un : Nat} {gd : Option (List Code)} {cn : Str} {cs : Scope} {a : Addr} {ccd : Value} {cl : List (Str × Addr)} {outer : List Env}
    (B : Below A₀ base outer h₀) (F : Fr h₀ L s.heap m) (N : News h₀ L s.heap news) (X : (hd.heap_39 w.params).In h₀) (T : Top hd.view_39 (looseW hd.view_39 []) mean mg mb h₀) (hk : cs.kind = .function) (hd : dp + 2 < recursionLimit) (hu : un + 8 < cLine)
    (h : ∀ (X D u r : Addr) (q1 q2 q3 q4 : Tok) h' tk', Fr h₀ L h' m → News h₀ L h' ((r, listOf #[] 0) :: (u, listOf #[] 0) :: (X, instObj 59 D) :: (D, Mine.entD w.params q1 q2 q3 q4 u r .none .none) :: news) → AllLt D news → @LT.lt Nat _ D X → @LT.lt Nat _ X u → @LT.lt Nat _ u r → Q (.ref X) { s with heap := h', toks := tk' }) :
    wpAny (model Challenge.rw_kn0090_09.row.prog w) (ktrTop dp un gd cn cs L a ccd cl outer) (call (.ref 59) []) Q E s := by
  w_top off
  have hmk := kstMark
  k_steps
  rename Fr h₀ _ _ _ => kF
  rename News h₀ _ _ _ => kN
  exact h _ _ _ _ _ _ _ _ _ _ kF kN (allLt_of (by assumption)) (by omega) (by omega) (by omega)
end Mine
end

section
namespace Mine
local macro_rules | `(tactic| walk_at "call ref") => `(tactic| (k_here; k_dflt (refine' entry_new ?k1 ?k2 ?k3 ?k4 ?k5 ?kK ?kd ?ku ?_; (case k1 => k_asm); (case k2 => k_asm); (case k3 => k_asm); (case k4 => k_asm); (case k5 => k_asm); (case kK => first | exact rfl | assumption); (case kd => ktr_room); (case ku => ktr_units); k_whole); intro X' D' u' r' q1' q2' q3' q4' h' tk' F' N' l1 l2 l3 l4; unfold Mine.entD at N'; (try simp only [AllLt, and_true] at l1); (try k_lt2 l2); (try k_lt2 l3); (try k_lt2 l4); (try k_sweep)))
local macro_rules | `(tactic| walk_at "call type:set") => `(tactic| (k_here; k_dflt (refine' Mine.newSetT_G ?k1 ?k2 ?k3 ?k4 ?k5 ?_; (case k1 => k_asm); (case k2 => k_asm); (case k3 => exact rfl); (case k4 => k_mem); (case k5 => (simp only [scanBound] at *; omega)); k_whole); intro h' t' D' o' c' F' N' l1 lc' so'; (try k_lt l1); (try k_sweep)))
local macro_rules | `(tactic| walk_at "getAttr ref") => `(tactic| (k_here; (with_reducible show wpAny _ _ (getAttr (Value.ref _) (Str.ofString "__contains__") _) _ _ _); k_dflt (refine' Mine.attr_contains_G ?k1 ?k2 ?k3 ?k4 ?k5 ?_; (case k1 => k_asm); (case k2 => k_asm); (case k3 => k_mem); (case k4 => assumption); (case k5 => assumption); k_whole); intro h' t' D' F' N' l1; (try k_lt l1); (try k_sweep)))
local macro_rules | `(tactic| walk_at "call type:filter") => `(tactic| (k_here; k_dflt (refine' Mine.call_filter_G ?k1 ?k2 ?k3 ?_; (case k1 => k_asm); (case k2 => k_asm); (case k3 => k_mem); k_whole); intro h' M' I' F' N' l1 l2; (try k_lt l2); (try k_sweep)))
local macro_rules | `(tactic| walk_at "call type:list") => `(tactic| (k_here; k_dflt (refine' Mine.list_filterT_G ?k1 ?k2 ?k3 ?k4 ?k5 ?k6 ?k7 ?k8 ?k9 ?k10 ?_; (case k1 => exact rfl); (case k2 => k_asm); (case k3 => k_asm); (case k4 => k_mem); (case k5 => k_mem); (case k6 => k_mem); (case k7 => assumption); (case k8 => assumption); (case k9 => assumption); (case k10 => (simp only [sizeLine]; omega)); k_whole); intro h' t' D' c' F' N' l1; (try k_lt l1); (try k_sweep)))
local macro_rules | `(tactic| walk_at "binaryOp Add ref ref") => `(tactic| (k_here; k_dflt (refine' Mine.add_vals_G ?k1 ?k2 ?k3 ?k4 ?k5 ?_; (case k1 => k_asm); (case k2 => k_asm); (case k3 => k_mem); (case k4 => k_mem); (case k5 => (simp only [sizeLine]; omega)); k_whole); intro h' D' F' N' l1; (try k_lt l1); (try k_sweep)))
inductive Late : Prop | mk
local macro_rules | `(tactic| walk_at "eval IfExp") => `(tactic| (k_here; (with_reducible rename Late => hLate0); refine Mine.stop ?_))
set_option maxHeartbeats 4000000 in
theorem merge_walk (w : World) (mean : ExcName → Option Value) (mg mb : Str → Option Value) (x d u r y e v k : Addr) (t1 t2 t3 t4 z1 z2 z3 z4 : Tok) (ag1 ag2 : List (Str × Tok)) (rl1 rl2 : List Value) (c1 c2 c3 c4 : Nat) (dl1 dl2 rt1 rt2 : Value) (hdl1 : dl1 = .none ∨ ∃ i t, dl1 = .int i t) (hdl2 : dl2 = .none ∨ ∃ i t, dl2 = .int i t) (hrt1 : rt1 = .none ∨ ∃ a, rt1 = .ref a) (hrt2 : rt2 = .none ∨ ∃ a, rt2 = .ref a) (cells : List (Addr × Obj)) (ha1 : ag1.length ≤ 140) (ha2 : ag2.length ≤ 140) (hr1 : rl1.length ≤ 140) (hr2 : rl2.length ≤ 140) (hcells : cells = [(x, instObj 59 d), (d, Mine.entD w.params t1 t2 t3 t4 u r dl1 rt1), (u, listOf (strValues ag1).toArray c1), (r, listOf rl1.toArray c2), (y, instObj 59 e), (e, Mine.entD w.params z1 z2 z3 z4 v k dl2 rt2), (v, listOf (strValues ag2).toArray c3), (k, listOf rl2.toArray c4)]) :
   Mine.PureFnX 3 Challenge.rw_kn0090_09.row.prog w (hd.heap_39 w.params) hd.view_39 (looseW hd.view_39 []) mean mg mb 70 [.ref x, .ref y] cells (Mine.NewsX cells (fun V more => ∃ (X D u' r' : Addr) (q1 q2 q3 q4 : Tok) (c' : Nat), V = .ref X ∧ more = [(X, instObj 59 D), (D, Mine.entD w.params q1 q2 q3 q4 u' r' (Mine.pickV dl1 dl2) (Mine.pickV rt1 rt2)), (u', listOf (strValues (ag1.filter (fun a => decide (a.1 ∈ ag2.map (·.1))))).toArray c'), (r', listOf (rl1 ++ rl2).toArray 0)] ∧ u' ≠ r')) := by
  intro dp un gd cn cs a ccd cl outer A₀ base h₀ L m s Q E B F N X T hk hd hu hret
  refine wpAny_call ?_
  k_dflt (refine' Mine.code_pureX (Mine.NewsX cells (fun V more => ∃ (X D u' r' : Addr) (q1 q2 q3 q4 : Tok) (c' : Nat), V = .ref X ∧ more = [(X, instObj 59 D), (D, Mine.entD w.params q1 q2 q3 q4 u' r' (Mine.pickV dl1 dl2) (Mine.pickV rt1 rt2)), (u', listOf (strValues (ag1.filter (fun a => decide (a.1 ∈ ag2.map (·.1))))).toArray c'), (r', listOf (rl1 ++ rl2).toArray 0)] ∧ u' ≠ r')) (fun v h' tk' hv hg => hret v h' tk' hv hg) B F X N T ?kA ?kF ?kK ?k6 ?k7 ?k8 ?k9 ?kB ?kD ?_ ?c2 ?c3 ?c4; (case kA => exact rfl); (case kF => exact rfl); (case kK => assumption);  (case k6 => k_is); (case k7 => k_is); (case k8 => ktr_room); (case k9 => exact BindsTo.of_eq rfl); (case kB => exact rfl); (case kD => decide +kernel); (case c2 => exact rfl); (case c3 => exact rfl); (case c4 => exact rfl); k_whole; intro g' L' h' tk' cells' FG' F' N' Y' B' X' T' l1; (try k_lt l1); (with_unfolding_all (replace Y' : CellsAre _ [] _ := Y'; cases Y')); (try simp only [List.cons_append, List.nil_append] at N'); (try dsimp only); (try k_fold))
  subst hcells
  unfold Mine.entD at N'
  (try simp only [List.cons_append, List.nil_append] at N')
  have hLate : Late := .mk
  k_steps
  unfold Mine.Stop
  rename Late => hLate
  clear hLate
  refine Mine.held_at (Mine.pickV dl1 dl2) ?ev ?go
  case ev =>
    rcases hdl2 with rfl | ⟨i2, ti2, rfl⟩
    · rcases hdl1 with rfl | ⟨i1, ti1, rfl⟩ <;> (k_steps; exact Mine.heldV_intro rfl)
    · rcases hdl1 with rfl | ⟨i1, ti1, rfl⟩ <;> (k_steps; exact Mine.heldV_intro rfl)
  case go =>
    intro tk9
    have hLate : Late := .mk
    k_steps
    unfold Mine.Stop
    rename Late => hLate2
    clear hLate2
    refine Mine.held_at (Mine.pickV rt1 rt2) ?ev ?go
    case ev =>
      rcases hrt2 with rfl | ⟨i2, rfl⟩
      · rcases hrt1 with rfl | ⟨i1, rfl⟩ <;> (k_steps; exact Mine.heldV_intro rfl)
      · rcases hrt1 with rfl | ⟨i1, rfl⟩ <;> (k_steps; exact Mine.heldV_intro rfl)
    case go =>
      intro tk10
      k_steps
      rename News g' _ _ _ => NE
      have hr := NE _ (.head _)
      have hu := NE _ (.tail _ (.head _))
      have hX := NE _ (.tail _ (.tail _ (.tail _ (.tail _ (.tail _ (.tail _ (.head _)))))))
      have hD := NE _ (.tail _ (.tail _ (.tail _ (.tail _ (.tail _ (.tail _ (.tail _ (.head _))))))))
      dsimp only at hr hu hX hD
      with_unfolding_all refine' ⟨⟨_, ⟨_, _, _, _, _, _, _, _, _, rfl, rfl, ?_⟩, List.forall_mem_cons.mpr ⟨⟨hX.2.2, ?_, hX.1⟩, List.forall_mem_cons.mpr ⟨⟨hD.2.2, ?_, hD.1⟩, List.forall_mem_cons.mpr ⟨⟨hu.2.2, ?_, hu.1⟩, List.forall_mem_cons.mpr ⟨⟨hr.2.2, ?_, hr.1⟩, fun _ h => nomatch h⟩⟩⟩⟩⟩, ⟨_, _, rfl⟩, ?_⟩
      all_goals (first | exact fun z hz => (NE z (by repeat (first | exact hz | refine List.Mem.tail _ ?_))).1 | (show @Ne Nat _ _; omega) | (intro z hz; simp only [List.mem_cons, List.not_mem_nil, or_false] at hz; rcases hz with rfl | rfl | rfl | rfl | rfl | rfl | rfl | rfl <;> (show @Ne Nat _ _; dsimp only; omega)))
end Mine
end

section
namespace Mine
theorem str9 (w : World) (mean : ExcName → Option Value) (mg mb : Str → Option Value) (e : Ent9) (hn : @Ne Nat e.u e.r) (hg : e.dat.Good) (ha : e.ag.length ≤ 70) (hr : e.rl.length ≤ 140) :
   Mine.PureFnX 2 Challenge.rw_kn0090_09.row.prog w (hd.heap_39 w.params) hd.view_39 (looseW hd.view_39 []) mean mg mb 42 [.ref e.x] (e.cells w.params) (fun _ _ v => ∃ t, v = .str e.dat.text t) :=
  str_walk w mean mg mb e.x e.d e.u e.r e.t1 e.t2 e.t3 e.t4 e.ag e.rl e.nu e.nr e.dl e.rt _ ha hr hn hg.small rfl
theorem str_call9 {w : World} {mean : ExcName → Option Value} {mg mb : Str → Option Value} {A₀ : Around} {base h₀ : Heap} {L : Addr} {m : Str → Option Value} {s : Shared} {Q E : Value → Shared → Prop} {news : List (Addr × Obj)}
    {dp un : Nat} {gd : Option (List Code)} {cn : Str} {cs : Scope} {a : Addr} {ccd : Value} {cl : List (Str × Addr)} {outer : List Env}
    (e : Ent9) (hn : @Ne Nat e.u e.r) (hg : e.dat.Good) (ha : e.ag.length ≤ 70) (hr : e.rl.length ≤ 140)
    (B : Below A₀ base outer h₀) (F : Fr h₀ L s.heap m) (N : News h₀ L s.heap news) (X : (hd.heap_39 w.params).In h₀) (Tp : Top hd.view_39 (looseW hd.view_39 []) mean mg mb h₀) (hck : cs.kind = .function) (hdp : dp + 2 < recursionLimit) (hu : un + 32 < cLine) (hc : ∀ q ∈ e.cells w.params, q ∈ news)
    (h : ∀ t h' tk', Fr h₀ L h' m → News h₀ L h' news → Q (.str e.dat.text t) { s with heap := h', toks := tk' }) :
    wpAny (model Challenge.rw_kn0090_09.row.prog w) (ktrTop dp un gd cn cs L a ccd cl outer) (call (.type "str") [.ref e.x]) Q E s := by
  have hx := hc _ (List.mem_append.mpr (.inl (.head _)))
  have hd' := hc _ (List.mem_append.mpr (.inl (.tail _ (.head _))))
  refine' kso_call ?k1 ?k2 ?k3 ?k4 ?k5 ?_
  case k1 => show un + 1 + 1 < cLine; omega
  case k2 => exact X.keeps F.keep
  case k3 => exact InstAt.of_news N hx hd'
  case k4 => k_is
  case k5 => k_is
  exact use_strX (un := un + 1 + 1) (str9 w mean mg mb e hn hg ha hr) B F N X Tp hck hdp (by omega) hc (fun t h' tk' F' N' => h t h' tk' F' N')
theorem merge_call9 {w : World} {mean : ExcName → Option Value} {mg mb : Str → Option Value} {A₀ : Around} {base h₀ : Heap} {L : Addr} {m : Str → Option Value} {s : Shared} {Q E : Value → Shared → Prop} {news : List (Addr × Obj)}
    {dp un : Nat} {gd : Option (List Code)} {cn : Str} {cs : Scope} {a : Addr} {ccd : Value} {cl : List (Str × Addr)} {outer : List Env}
    (e f : Ent9) (ha1 : e.ag.length ≤ 140) (ha2 : f.ag.length ≤ 140) (hr1 : e.rl.length ≤ 140) (hr2 : f.rl.length ≤ 140)
    (B : Below A₀ base outer h₀) (F : Fr h₀ L s.heap m) (N : News h₀ L s.heap news) (X : (hd.heap_39 w.params).In h₀) (Tp : Top hd.view_39 (looseW hd.view_39 []) mean mg mb h₀) (hck : cs.kind = .function) (hdp : dp + 3 < recursionLimit) (hu : un + 8 * 3 < cLine)
    (hc1 : ∀ q ∈ e.cells w.params, q ∈ news) (hc2 : ∀ q ∈ f.cells w.params, q ∈ news)
    (h : ∀ (g : Ent9) h' tk', g.dat = mergeD e.dat f.dat → @Ne Nat g.u g.r → g.ag.length ≤ e.ag.length → g.rl.length = e.rl.length + f.rl.length → Fr h₀ L h' m → News h₀ L h' (g.cells4 w.params ++ news) → (∀ q ∈ g.cells w.params, q ∈ g.cells4 w.params ++ news) → (∀ q ∈ news, ∀ z ∈ g.cells4 w.params, q.1 ≠ z.1) → Q (.ref g.x) { s with heap := h', toks := tk' }) :
    wpAny (model Challenge.rw_kn0090_09.row.prog w) (ktrTop dp un gd cn cs L a ccd cl outer) (call (.ref 70) [.ref e.x, .ref f.x]) Q E s := by
  have hdl : ∀ o : Option (Int × Tok), dlV o = .none ∨ ∃ i t, dlV o = .int i t := fun o => by cases o with | none => exact .inl rfl | some p => exact .inr ⟨_, _, rfl⟩
  have hrt : ∀ o : Option Rate, rtV o = .none ∨ ∃ a, rtV o = .ref a := fun o => by cases o with | none => exact .inl rfl | some p => exact .inr ⟨_, rfl⟩
  refine use_newsX (merge_walk w mean mg mb e.x e.d e.u e.r f.x f.d f.u f.r e.t1 e.t2 e.t3 e.t4 f.t1 f.t2 f.t3 f.t4 e.ag f.ag (strValues e.rl) (strValues f.rl) e.nu e.nr f.nu f.nr (dlV e.dl) (dlV f.dl) (rtV e.rt) (rtV f.rt) (hdl _) (hdl _) (hrt _) (hrt _) (e.cells4 w.params ++ f.cells4 w.params) ha1 ha2 (by rw [strValues_length]; exact hr1) (by rw [strValues_length]; exact hr2) rfl) B F N X Tp hck hdp hu (fun q hq => ?_) ?_
  · rcases List.mem_append.mp hq with hq | hq
    · exact hc1 q (List.mem_append.mpr (.inl hq))
    · exact hc2 q (List.mem_append.mpr (.inl hq))
  · rintro v more h' tk' ⟨X', D', u', r', q1, q2, q3, q4, c', rfl, rfl, hne⟩ F' N' hoff
    rw [pick_dl, pick_rt, show strValues e.rl ++ strValues f.rl = strValues (e.rl ++ f.rl) by simp [strValues]] at N' hoff
    refine h ⟨X', D', u', r', q1, q2, q3, q4, e.ag.filter (fun a => decide (a.1 ∈ f.ag.map (·.1))), e.rl ++ f.rl, c', 0, f.dl.or e.dl, f.rt.or e.rt⟩ h' tk' ?_ hne (List.length_filter_le _ _) (List.length_append ..) F' N' ?_ hoff
    · show datOf _ _ _ _ = _
      unfold datOf mergeD
      have e1 : (e.ag.filter (fun a => decide (a.1 ∈ f.ag.map (·.1)))).map (·.1) = (e.ag.map (·.1)).filter (fun a => decide (a ∈ f.ag.map (·.1))) := filter_texts (fun z => decide (z ∈ f.ag.map (·.1))) e.ag
      rw [e1, List.map_append]
      have e2 : (f.dl.or e.dl).map (·.1) = (f.dl.map (·.1)).or (e.dl.map (·.1)) := by cases f.dl <;> rfl
      have e3 : (f.rt.or e.rt).map (fun e => (e.rq, e.rs)) = (f.rt.map (fun e => (e.rq, e.rs))).or (e.rt.map (fun e => (e.rq, e.rs))) := by cases f.rt <;> rfl
      rw [e2, e3]; rfl
    · intro q hq
      rcases List.mem_append.mp hq with hq | hq
      · exact List.mem_append.mpr (.inl hq)
      · refine List.mem_append.mpr (.inr ?_)
        cases hf : f.rt with
        | none =>
          have hq : q ∈ rtC w.params (f.rt.or e.rt) := hq
          rw [hf] at hq
          exact hc1 q (List.mem_append.mpr (.inr hq))
        | some ρ =>
          have hq : q ∈ rtC w.params (f.rt.or e.rt) := hq
          rw [hf] at hq
          exact hc2 q (List.mem_append.mpr (.inr (by rw [hf]; exact hq)))
theorem merged_call9 {w : World} {mean : ExcName → Option Value} {mg mb : Str → Option Value} {A₀ : Around} {base h₀ : Heap} {L : Addr} {m : Str → Option Value} {s : Shared} {Q E : Value → Shared → Prop} {news : List (Addr × Obj)}
    {dp un : Nat} {gd : Option (List Code)} {cn : Str} {cs : Scope} {a : Addr} {ccd : Value} {cl : List (Str × Addr)} {outer : List Env}
    (e f : Dat9) (tx ty : Tok) (hg : e.Good) (hf : f.Good) (ha1 : e.ag.length ≤ 70) (ha2 : f.ag.length ≤ 70) (hr1 : e.rl.length ≤ 140) (hr2 : f.rl.length ≤ 140)
    (B : Below A₀ base outer h₀) (F : Fr h₀ L s.heap m) (N : News h₀ L s.heap news) (X : (hd.heap_39 w.params).In h₀) (Tp : Top hd.view_39 (looseW hd.view_39 []) mean mg mb h₀) (hck : cs.kind = .function) (hdp : dp + 2 < recursionLimit) (hu : un + 8 * 2 < cLine)
    (h : ∀ t h' tk', Fr h₀ L h' m → News h₀ L h' news → Q (.str (mergeD e f).text t) { s with heap := h', toks := tk' }) :
    wpAny (model Challenge.rw_kn0090_09.row.prog w) (ktrTop dp un gd cn cs L a ccd cl outer) (call (.ref 75) [.str e.text tx, .str f.text ty]) Q E s := by
  obtain ⟨a1, a2, a3⟩ := text_sizes hg ha1 hr1
  obtain ⟨b1, b2, b3⟩ := text_sizes hf ha2 hr2
  refine use_strX (y := (mergeD e f).text) (cells := []) (by rw [← merged_text hg hf]; exact merged_walk w mean mg mb e.text f.text tx ty a1 b1 a2 b2 a3 b3) B F N X Tp hck hdp hu (fun _ h => nomatch h) h
end Mine
end

section
namespace Mine
local macro_rules | `(tactic| walk_at "exec For Name Name cons nil") => `(tactic| (k_here; refine Mine.stop ?_))
local macro_rules | `(tactic| walk_at "subscriptTail Name BinOp ref int") => `(tactic| (refine Mine.stop ?_))
local macro_rules | `(tactic| walk_at "subscriptTail List cons BinOp ref int") => `(tactic| (refine Mine.stop ?_))
local macro_rules | `(tactic| walk_at "call builtin:list.append") => `(tactic| (k_here; k_dflt (refine' Mine.append_T ?k1 ?k2 ?k3 ?z ?_; (case k1 => k_asm); (case k2 => k_asm); (case k3 => k_upd); (case z => ((try simp only [List.length_append, List.length_cons, List.length_nil]); omega)); k_whole); intro h' F' N'; (try k_sweep)))
local macro_rules | `(tactic| walk_at "CompSrc") => `(tactic| ((with_reducible rename Deep => hDeep0); refine Mine.stop ?_))
local macro_rules | `(tactic| walk_at "CompEnd") => `(tactic| (refine Mine.stop ?_))
local macro_rules | `(tactic| walk_at "exec For Name Call cons nil") => `(tactic| ((with_reducible rename Deep => hDeep0); refine Mine.stop ?_))
local macro_rules | `(tactic| walk_at "pyIter ref") => `(tactic| ((with_reducible rename Deep => hDeep0); refine Mine.stop ?_))
local macro_rules | `(tactic| walk_at "call type:str") => `(tactic| ((with_reducible rename Deep => hDeep0); refine Mine.stop ?_))
local macro_rules | `(tactic| walk_at "call ref") => `(tactic| ((with_reducible rename Deep => hDeep0); refine Mine.stop ?_))
local macro_rules | `(tactic| walk_at "call ref") => `(tactic| (k_here; k_dflt (refine' entry_new ?k1 ?k2 ?k3 ?k4 ?k5 ?kK ?kd ?ku ?_; (case k1 => k_asm); (case k2 => k_asm); (case k3 => k_asm); (case k4 => k_asm); (case k5 => k_asm); (case kK => first | exact rfl | assumption); (case kd => ktr_room); (case ku => ktr_units); k_whole); intro X' D' u' r' q1' q2' q3' q4' h' tk' F' N' l1 l2 l3 l4; unfold Mine.entD at N'; (try simp only [AllLt, and_true] at l1); (try k_lt2 l2); (try k_lt2 l3); (try k_lt2 l4); (try k_sweep)))
local macro_rules | `(tactic| walk_at "compareOp Eq ref ref") => `(tactic| (refine Mine.stop ?_))
local macro_rules | `(tactic| walk_at "subscriptTail Name Name ref int") => `(tactic| (refine Mine.stop ?_))
local macro_rules | `(tactic| walk_at "InvEndN") => `(tactic| (refine Mine.stop ?_))
local macro_rules | `(tactic| walk_at "GrowPost") => `(tactic| (dsimp only [Mine.GrowPost]))
local macro_rules | `(tactic| walk_at "GrowEnd") => `(tactic| (refine Mine.stop ?_))
set_option maxHeartbeats 4000000 in
theorem law09 : PySem.Challenge.rw_kn0090_09.Holds := by
  refine hd ?_
  k_go0; (all_goals try k_fold); k_steps
  unfold Mine.Stop
  with_unfolding_all refine' For_invVF (by assumption) ?k1 ?k2 ?_; (case k1 => exact rfl); (case k2 => exact rfl)
  walk1
  rename Fr _ _ _ _ => F2
  rename News _ _ _ _ => N2
  rename ¬ (_ < _) => hlen
  rename World => w
  rename_i R b94 b93 b92 O b90 b89 b88 b87 b86 b85 b84 b83 b82 b81 b80 b79 b78 b77 b76 b75 b74 b73 b72 b71 X0 D0 U0 R0 b66 b65 b64 b63 b62 b61 b60 b59 b58 b57 b56 b55 b54 b53 b52 b51 b50 b49 b48 b47 X1 D1 U1 R1 b42 b41 b40 b39 b38 b37 b36 b35 b34 b33 b32 b31 b30 b29 b28 b27 b26 b25 b24 b23 X2 D2 U2 R2 b18 b17 b16 b15 b14 b13 b12 b11 b10 b9 b8 b7 b6 b5 b4 b3 b2 b1
  clear b87 b86 b79 b78 b72 b71 b48 b47 b24 b23 b4 b3
  generalize hoR : listOf #[Value.str (Str.ofString "Allow: ") _, _, _, _, _, _] 0 = oR at N2
  obtain ⟨rs, hrm, hrs⟩ : ∃ rs : List (Str × Tok), rs.map (·.1) = Mine.rlT ∧ oR = listOf (strValues rs).toArray 0 := ⟨[(_, _), (_, _), (_, _), (_, _), (_, _), (_, _)], rfl, hoR.symm⟩
  subst hrs
  clear hoR
  with_unfolding_all refine' Mine.grow_list (σ := List Ent9) (fun es => Mine.led9 w.params R O (listOf (strValues rs).toArray 0) (listOf #[.ref X0, .ref X1, .ref X2] 3) es) (fun c => []) (fun _ => True) [Str.ofString "step", Str.ofString "rest", Str.ofString "one"] (fun pre es => (adrs9 R O es).Nodup ∧ es.map (fun e => Value.ref e.x) = [.ref X0, .ref X1, .ref X2] ∧ ∀ e ∈ es, Ent9.Ok pre.length e) [⟨X0, D0, U0, R0, _, _, _, _, [(Str.ofString "fig", _)], [], _, _, none, none⟩, ⟨X1, D1, U1, R1, _, _, _, _, [(Str.ofString "fig", _)], [], _, _, none, none⟩, ⟨X2, D2, U2, R2, _, _, _, _, [(Str.ofString "fig", _)], [], _, _, none, none⟩] (by rfl) (by assumption) (by assumption) F2 (Mine.news_sub N2 ?hsub) trivial ?hk ?hp ?turn ?done
  case hsub =>
    refine List.forall_mem_cons.mpr ⟨by k_mem, List.forall_mem_cons.mpr ⟨by k_mem, ?_⟩⟩
    repeat (first | exact List.forall_mem_nil _ | refine List.forall_mem_cons.mpr ⟨by k_mem, ?_⟩)
  case hk => kst_all
  case hp => 
    refine ⟨Mine.nodup_lt ?_, rfl, ?_⟩
    · simp only [adrs9, List.flatMap_cons, List.flatMap_nil, Ent9.adr, rtA, List.cons_append, List.nil_append, List.append_nil]
      repeat (first | exact Mine.pw_one | refine Mine.pw_cons (by omega) ?_)
    · exact List.forall_mem_cons.mpr ⟨Mine.ok9_start, List.forall_mem_cons.mpr ⟨Mine.ok9_start, List.forall_mem_cons.mpr ⟨Mine.ok9_start, List.forall_mem_nil _⟩⟩⟩
  case turn =>
    clear b93 b89 b76 b60 b59 b58 b57 b36 b35 b34 b33 b12 b11 b10 b9
    rintro es pre post n t u h tk own hsc hmem hoff _ hP Ft Nt
    (try dsimp only at hP Ft Nt)
    simp only [kstB] at Ft
    obtain ⟨hnd, hX, hE⟩ := hP
    have hoff9 := Mine.off9_led hoff
    have hmk := kstMark
    have hel : es.length = 3 := by have := congrArg List.length hX; simpa using this
    have hn3 := Mine.fmod_lt (x := n) (m := 3) (by decide)
    obtain ⟨p1, e, p2, hsp, hpl⟩ := Mine.split_place (l := es) (i := (n.fmod 3).toNat) (by omega)
    subst hsp
    obtain ⟨⟨hea, hfix⟩, hTo⟩ := Mine.apart9 (q := w.params) hnd hoff9
    have Nt' := Mine.open9 Nt
    clear Nt
    generalize hT : Mine.tail9 w.params p1 p2 e.rt own = T at Nt' hTo
    have hTrt : ∀ p ∈ rtC w.params e.rt, p ∈ T := fun p hp => by rw [← hT]; exact tail9_rt p hp
    unfold Ent9.cells4 Mine.entD at Nt'
    simp only [List.cons_append, List.nil_append] at Nt'
    obtain ⟨⟨y1, y2, y3⟩, ⟨y4, y5⟩, y6⟩ := Mine.ne9 hea
    obtain ⟨⟨z1, z2⟩, ⟨z3, z4⟩, ⟨z5, z6⟩, z7, z8⟩ := Mine.fix9 hfix
    have hOk := hE e (by simp)
    have hag := hOk.ag
    have hrl := hOk.rl
    have hn63 : pre.length ≤ 62 := by
      have := congrArg List.length hsc
      rw [List.length_append, List.length_cons] at this
      omega
    have hk5 := Mine.fmod_lt (x := (n.fdiv 3).fmod 9 + n.fdiv 27) (m := 5) (by decide)
    have hk6 := Mine.fmod_lt (x := (n.fdiv 3).fmod 9 - 3 + 2 * n.fdiv 27) (m := 6) (by decide)
    have hk3 := Mine.fmod_lt (x := n.fdiv 27) (m := 3) (by decide)
    have hrsl : rs.length = 6 := by have := congrArg List.length hrm; rw [List.length_map] at this; exact this
    (try k_fold)
    k_steps
    unfold Mine.Stop
    refine Mine.sub9 Nt' (by k_mem) hX hpl hn3.1 hn3.2 ?_
    k_steps
    · unfold Mine.Stop
      rename News _ _ _ _ => N5
      refine Mine.sub_table (ys := [(Str.ofString "plum", _), (Str.ofString "fig", _), (Str.ofString "Fig", _), (Str.ofString "*", _), (Str.ofString "Allow: /", _)]) N5 (by k_mem) hk5.1 hk5.2 (by show 5 ≤ 100; decide) fun v hv => ?_
      have hv' : v.1 ∈ Mine.agT := List.mem_map_of_mem (f := fun y : Str × Tok => y.1) hv
      clear hv
      k_steps
      unfold Mine.Stop
      rename Fr _ _ _ _ => F9
      rename News _ _ _ _ => N9
      have ht := Mine.turn9 (e' := e.pushA v) (oR := listOf (strValues rs).toArray 0) (oO := listOf #[.ref X0, .ref X1, .ref X2] 3) hT hnd hoff9 hX hE (mem_of N9 (by k_mem)) (mem_of N9 (by k_mem)) (List.forall_mem_cons.mpr ⟨by k_mem, List.forall_mem_cons.mpr ⟨by k_mem, List.forall_mem_cons.mpr ⟨by k_mem, List.forall_mem_cons.mpr ⟨by k_mem, List.forall_mem_nil _⟩⟩⟩⟩) (fun p hp => by have hp := hTrt p hp; repeat (first | exact hp | refine List.Mem.tail _ ?_)) (fun p hp => by repeat (first | exact hp | refine List.Mem.tail _ ?_)) hea rfl (Mine.ok9_pushA hOk hv') (Mine.old9 rfl)
      refine' Mine.grow_end (p1 ++ (e.pushA v) :: p2) F9 N9 ht.1 ht.2.1 ht.2.2.1 trivial ?hk ?hr (by rw [List.length_append]; exact ht.2.2.2)
      case hk => kst_all
      case hr => kst_same
    · unfold Mine.Stop
      rename News _ _ _ _ => N5
      refine Mine.sub_table (ys := rs) N5 (by k_mem) hk6.1 (by rw [hrsl]; exact hk6.2) (by rw [hrsl]; decide) fun v hv => ?_
      have hv' : v.1 ∈ Mine.rlT := by rw [← hrm]; exact List.mem_map_of_mem (f := fun y : Str × Tok => y.1) hv
      clear hv
      k_steps
      unfold Mine.Stop
      rename Fr _ _ _ _ => F9
      rename News _ _ _ _ => N9
      have ht := Mine.turn9 (e' := e.pushR v) (oR := listOf (strValues rs).toArray 0) (oO := listOf #[.ref X0, .ref X1, .ref X2] 3) hT hnd hoff9 hX hE (mem_of N9 (by k_mem)) (mem_of N9 (by k_mem)) (List.forall_mem_cons.mpr ⟨by k_mem, List.forall_mem_cons.mpr ⟨by k_mem, List.forall_mem_cons.mpr ⟨by k_mem, List.forall_mem_cons.mpr ⟨by k_mem, List.forall_mem_nil _⟩⟩⟩⟩) (fun p hp => by have hp := hTrt p hp; repeat (first | exact hp | refine List.Mem.tail _ ?_)) (fun p hp => by repeat (first | exact hp | refine List.Mem.tail _ ?_)) hea rfl (Mine.ok9_pushR hOk hv') (Mine.old9 rfl)
      refine' Mine.grow_end (p1 ++ (e.pushR v) :: p2) F9 N9 ht.1 ht.2.1 ht.2.2.1 trivial ?hk ?hr (by rw [List.length_append]; exact ht.2.2.2)
      case hk => kst_all
      case hr => kst_same
    · unfold Mine.Stop
      rename News _ _ _ _ => N5
      refine Mine.sub_dl N5 (by k_mem) hk3.1 hk3.2 fun o ho => ?_
      k_steps
      unfold Mine.Stop
      rename Fr _ _ _ _ => F9
      rename News _ _ _ _ => N9
      have ht := Mine.turn9 (e' := e.setD o) (oR := listOf (strValues rs).toArray 0) (oO := listOf #[.ref X0, .ref X1, .ref X2] 3) hT hnd hoff9 hX hE (mem_of N9 (by k_mem)) (mem_of N9 (by k_mem)) (List.forall_mem_cons.mpr ⟨by k_mem, List.forall_mem_cons.mpr ⟨by k_mem, List.forall_mem_cons.mpr ⟨by k_mem, List.forall_mem_cons.mpr ⟨by k_mem, List.forall_mem_nil _⟩⟩⟩⟩) (fun p hp => by have hp := hTrt p hp; repeat (first | exact hp | refine List.Mem.tail _ ?_)) (fun p hp => by repeat (first | exact hp | refine List.Mem.tail _ ?_)) hea rfl (Mine.ok9_setD hOk ho) (Mine.old9 rfl)
      refine' Mine.grow_end (p1 ++ (e.setD o) :: p2) F9 N9 ht.1 ht.2.1 ht.2.2.1 trivial ?hk ?hr (by rw [List.length_append]; exact ht.2.2.2)
      case hk => kst_all
      case hr => kst_same
    · unfold Mine.Stop
      rename News _ _ _ _ => N5
      rename_i xQ dQ uQ rQ c15 c14 c13 c12 c11 c10 ltQ ltQ2 c7 c6 c5 c4 c3 c2 c1
      obtain ⟨g1, g2, g3, g4, g5, g6, g7⟩ := ltQ
      have hfr9 := Mine.fresh9 (q := w.params) (p1 := p1) (p2 := p2) (own := own) ⟨g1, g2, g3, g4, g5, g6⟩ (by rw [hT]; exact Mine.allLt_mem g7)
      have hk01 : (n.fdiv 27).fmod 3 = 0 ∨ (n.fdiv 27).fmod 3 = 1 := by omega
      rcases hk01 with hk | hk
      · refine Mine.sub_two N5 (by k_mem) (.int 0 _) (.inl ⟨hk, rfl⟩) ?_
        k_steps
        unfold Mine.Stop
        rename News _ _ _ _ => N6
        refine Mine.sub_two N6 (by k_mem) (.int 1 _) (.inl ⟨hk, rfl⟩) ?_
        k_steps
        unfold Mine.Stop
        rename Fr _ _ _ _ => F9
        rename News _ _ _ _ => N9
        have ht := Mine.turn9 (e' := e.setQ (some ⟨xQ, dQ, uQ, rQ, _, _, _, _, _, _, _, _, 0, 1⟩)) (oR := listOf (strValues rs).toArray 0) (oO := listOf #[.ref X0, .ref X1, .ref X2] 3) hT hnd hoff9 hX hE (mem_of N9 (by k_mem)) (mem_of N9 (by k_mem)) (List.forall_mem_cons.mpr ⟨by k_mem, List.forall_mem_cons.mpr ⟨by k_mem, List.forall_mem_cons.mpr ⟨by k_mem, List.forall_mem_cons.mpr ⟨by k_mem, List.forall_mem_nil _⟩⟩⟩⟩) (List.forall_mem_cons.mpr ⟨by k_mem, List.forall_mem_cons.mpr ⟨by k_mem, List.forall_mem_nil _⟩⟩) (fun p hp => by repeat (first | exact hp | refine List.Mem.tail _ ?_)) (Mine.nd9Q hea hfr9 ltQ2) rfl (Mine.ok9_setQ hOk (fun i hi => by cases hi; exact .head _)) (Mine.fr9Q hfr9 ltQ2)
        refine' Mine.grow_end _ F9 N9 ht.1 ht.2.1 ht.2.2.1 trivial ?hk ?hr (by rw [List.length_append]; exact ht.2.2.2)
        case hk => kst_all
        case hr => kst_same
      · refine Mine.sub_two N5 (by k_mem) (.int 30 _) (.inr ⟨hk, rfl⟩) ?_
        k_steps
        unfold Mine.Stop
        rename News _ _ _ _ => N6
        refine Mine.sub_two N6 (by k_mem) (.int 7 _) (.inr ⟨hk, rfl⟩) ?_
        k_steps
        unfold Mine.Stop
        rename Fr _ _ _ _ => F9
        rename News _ _ _ _ => N9
        have ht := Mine.turn9 (e' := e.setQ (some ⟨xQ, dQ, uQ, rQ, _, _, _, _, _, _, _, _, 30, 7⟩)) (oR := listOf (strValues rs).toArray 0) (oO := listOf #[.ref X0, .ref X1, .ref X2] 3) hT hnd hoff9 hX hE (mem_of N9 (by k_mem)) (mem_of N9 (by k_mem)) (List.forall_mem_cons.mpr ⟨by k_mem, List.forall_mem_cons.mpr ⟨by k_mem, List.forall_mem_cons.mpr ⟨by k_mem, List.forall_mem_cons.mpr ⟨by k_mem, List.forall_mem_nil _⟩⟩⟩⟩) (List.forall_mem_cons.mpr ⟨by k_mem, List.forall_mem_cons.mpr ⟨by k_mem, List.forall_mem_nil _⟩⟩) (fun p hp => by repeat (first | exact hp | refine List.Mem.tail _ ?_)) (Mine.nd9Q hea hfr9 ltQ2) rfl (Mine.ok9_setQ hOk (fun i hi => by cases hi; exact .tail _ (.head _))) (Mine.fr9Q hfr9 ltQ2)
        refine' Mine.grow_end _ F9 N9 ht.1 ht.2.1 ht.2.2.1 trivial ?hk ?hr (by rw [List.length_append]; exact ht.2.2.2)
        case hk => kst_all
        case hr => kst_same
    · unfold Mine.Stop
      rename Fr _ _ _ _ => F9
      rename News _ _ _ _ => N9
      have ht := Mine.turn9 (e' := e.setQ none) (oR := listOf (strValues rs).toArray 0) (oO := listOf #[.ref X0, .ref X1, .ref X2] 3) hT hnd hoff9 hX hE (mem_of N9 (by k_mem)) (mem_of N9 (by k_mem)) (List.forall_mem_cons.mpr ⟨by k_mem, List.forall_mem_cons.mpr ⟨by k_mem, List.forall_mem_cons.mpr ⟨by k_mem, List.forall_mem_cons.mpr ⟨by k_mem, List.forall_mem_nil _⟩⟩⟩⟩) (fun _ h => nomatch h) (fun p hp => by repeat (first | exact hp | refine List.Mem.tail _ ?_)) (Mine.nd9N hea) rfl (Mine.ok9_setQ hOk (fun _ h => nomatch h)) Mine.fr9N
      refine' Mine.grow_end (p1 ++ (e.setQ none) :: p2) F9 N9 ht.1 ht.2.1 ht.2.2.1 trivial ?hk ?hr (by rw [List.length_append]; exact ht.2.2.2)
      case hk => kst_all
      case hr => kst_same
    · unfold Mine.Stop
      rename Fr _ _ _ _ => F9
      rename News _ _ _ _ => N9
      rename_i lU c3 ltU c1
      obtain ⟨g1, g2, g3, g4, g5, g6, g7⟩ := ltU
      have hfr9 := Mine.fresh9 (q := w.params) (p1 := p1) (p2 := p2) (own := own) ⟨g1, g2, g3, g4, g5, g6⟩ (by rw [hT]; exact Mine.allLt_mem g7)
      have ht := Mine.turn9 (e' := e.setU lU) (oR := listOf (strValues rs).toArray 0) (oO := listOf #[.ref X0, .ref X1, .ref X2] 3) hT hnd hoff9 hX hE (mem_of N9 (by k_mem)) (mem_of N9 (by k_mem)) (List.forall_mem_cons.mpr ⟨by k_mem, List.forall_mem_cons.mpr ⟨by k_mem, List.forall_mem_cons.mpr ⟨by k_mem, List.forall_mem_cons.mpr ⟨by k_mem, List.forall_mem_nil _⟩⟩⟩⟩) (fun p hp => by have hp := hTrt p hp; repeat (first | exact hp | refine List.Mem.tail _ ?_)) (fun p hp => by repeat (first | exact hp | refine List.Mem.tail _ ?_)) (Mine.nd9U hea hfr9) rfl (Mine.ok9_setU hOk) (Mine.fr9U hfr9)
      refine' Mine.grow_end (p1 ++ (e.setU lU) :: p2) F9 N9 ht.1 ht.2.1 ht.2.2.1 trivial ?hk ?hr (by rw [List.length_append]; exact ht.2.2.2)
      case hk => kst_all
      case hr => kst_same
    · unfold Mine.Stop
      rename Fr _ _ _ _ => F9
      rename News _ _ _ _ => N9
      have ht := Mine.turn9 (e' := e) (oR := listOf (strValues rs).toArray 0) (oO := listOf #[.ref X0, .ref X1, .ref X2] 3) hT hnd hoff9 hX hE (mem_of N9 (by k_mem)) (mem_of N9 (by k_mem)) (List.forall_mem_cons.mpr ⟨by k_mem, List.forall_mem_cons.mpr ⟨by k_mem, List.forall_mem_cons.mpr ⟨by k_mem, List.forall_mem_cons.mpr ⟨by k_mem, List.forall_mem_nil _⟩⟩⟩⟩) (fun p hp => by have hp := hTrt p hp; repeat (first | exact hp | refine List.Mem.tail _ ?_)) (fun p hp => by repeat (first | exact hp | refine List.Mem.tail _ ?_)) hea rfl hOk.up (Mine.old9 rfl)
      refine' Mine.grow_end (p1 ++ (e) :: p2) F9 N9 ht.1 ht.2.1 ht.2.2.1 trivial ?hk ?hr (by rw [List.length_append]; exact ht.2.2.2)
      case hk => kst_all
      case hr => kst_same
  case done =>
    rintro es uu h tk _ hP Ft Nt
    (try dsimp only at hP Ft Nt)
    simp only [kstB] at Ft
    obtain ⟨hnd, hX, hE⟩ := hP
    have hTc : ∀ e ∈ es, ∀ p ∈ Ent9.cells w.params e, p ∈ es.flatMap (Ent9.cells w.params) := fun e he p hp => List.mem_flatMap.mpr ⟨e, he, hp⟩
    have Nt' := Mine.news_sub (news' := (O, listOf (es.map fun e => Value.ref e.x).toArray 3) :: es.flatMap (Ent9.cells w.params)) Nt (by rw [hX]; exact List.forall_mem_cons.mpr ⟨.head _, fun p hp => .tail _ (.tail _ hp)⟩)
    generalize hT : es.flatMap (Ent9.cells w.params) = T at Nt' hTc
    clear Nt
    have hDeep : Deep := .mk
    (try k_fold)
    k_steps
    unfold Mine.Stop
    have hel : es.length = 3 := by have := congrArg List.length hX; rw [List.length_map] at this; exact this
    have hes : ∀ e ∈ es, @Ne Nat e.u e.r ∧ e.dat.Good ∧ e.ag.length ≤ 64 ∧ e.rl.length ≤ 63 := by
      intro e he
      have hok := hE e he
      have h1 := hok.ag
      have h2 := hok.rl
      exact ⟨(Mine.ne9 (Mine.nodup9 hnd he)).2.2, hok.good, by omega, by omega⟩
    rename Fr _ _ _ _ => F5
    rename News _ _ _ _ => N5
    refine LCg.CompSrc.ledger (by rfl) F5 N5 (by k_mem) (by rw [List.size_toArray, List.length_map, hel]; decide) ?_
    intro g5
    refine Mine.map_items (fun e : Ent9 => Value.ref e.x) es (fun e => e.dat.text) ?tu ?fi
    case tu =>
      intro e I oI C oC D m2 ys1 h1 tk2 E1 he hC1 hx1 F' N' off' ne'
      have off0 := off'
      obtain ⟨a1, a2, a3, a4⟩ := hes e he
      (try k_fold)
      k_steps
      unfold Mine.Stop
      k_dflt (refine' str_call9 e a1 a2 (by omega) (by omega) ?k1 ?k2 ?k3 ?k4 ?k5 ?kK ?kd ?ku ?kc ?_; (case k1 => k_asm); (case k2 => k_asm); (case k3 => k_asm); (case k4 => k_asm); (case k5 => k_asm); (case kK => exact rfl); (case kd => ktr_room); (case ku => ktr_units); (case kc => intro p hp; have hp := hTc e he p hp; repeat (first | exact hp | refine List.Mem.tail _ ?_)); k_whole)
      intro t' h' tk' F' N'
      k_steps
      unfold Mine.Stop
      rename Fr _ _ _ _ => F6
      rename News _ _ _ _ => N6
      exact LCg.CompEnd.intro F6 N6 _ (fun p hp => hp) off0 (.inr ⟨_, by k_mem, rfl, _, rfl⟩) ⟨rfl, _, rfl⟩
    case fi =>
      intro ts hts D5 h5 tk5 F' N' off5
      (try simp only [LCg.Off1, and_true] at off5)
      have htl : ts.length = 3 := by have := congrArg List.length hts; rw [List.length_map, List.length_map, hel] at this; exact this
      change News _ _ h5 ((D5, listOf (strValues ts).toArray _) :: _) at N'
      (try k_fold)
      k_steps
      unfold Mine.Stop
      with_unfolding_all refine' For_invVF (by assumption) ?k1 ?k2 ?_; (case k1 => exact rfl); (case k2 => exact rfl)
      k_steps
      unfold Mine.Stop
      rename IsRange _ _ _ _ _ _ _ _ => rg
      rename Fr _ _ _ _ => F5
      rename News _ _ _ _ => N5
      with_unfolding_all refine' Mine.range_fix (n := 3) [Str.ofString "j"] rfl rg (by decide) (by decide) F5 N5 ?turn2 ?done2
      case turn2 =>
        rintro pre2 i t2 u2 h2' tk2 own2 hi2 hi3 hoff2 Ft2 Nt2
        (try dsimp only at Ft2 Nt2)
        (try simp only [List.cons_append] at Nt2)
        k_steps
        unfold Mine.Stop
        with_unfolding_all refine' For_invVF (by assumption) ?k1 ?k2 ?_; (case k1 => exact rfl); (case k2 => exact rfl)
        k_steps
        unfold Mine.Stop
        rename IsRange _ _ _ _ _ _ _ _ => rg2
        rename Fr _ _ _ _ => F6
        rename News _ _ _ _ => N6
        with_unfolding_all refine' Mine.range_fix (n := 3) [] rfl rg2 (by decide) (by decide) F6 N6 ?turn3 ?done3
        case turn3 =>
          rintro pre3 j t3 u4 h4' tk4 own3 hj2 hj3 hoff3 Ft3 Nt3
          (try dsimp only at Ft3 Nt3)
          (try simp only [List.cons_append] at Nt3)
          obtain ⟨e, te, he, ex, et⟩ := Mine.get9 hts (i := i) (by omega) (by omega)
          obtain ⟨f, tf, hf, fx, ft⟩ := Mine.get9 hts (i := j) (by omega) (by omega)
          obtain ⟨a1, a2, a3, a4⟩ := hes e he
          obtain ⟨b1, b2, b3, b4⟩ := hes f hf
          k_steps
          unfold Mine.Stop
          rename News _ _ _ _ => N7
          refine Mine.sub_L N7 (by k_mem) (by rw [List.length_map]; omega) (by rw [List.length_map]; omega) (by rw [List.length_map]; omega) ex ?_
          k_steps
          unfold Mine.Stop
          rename News _ _ _ _ => N7
          refine Mine.sub_L N7 (by k_mem) (by rw [List.length_map]; omega) (by rw [List.length_map]; omega) (by rw [List.length_map]; omega) fx ?_
          k_steps
          unfold Mine.Stop
          k_dflt (refine' merge_call9 e f (by omega) (by omega) (by omega) (by omega) ?k1 ?k2 ?k3 ?k4 ?k5 ?kK ?kd ?ku ?kc1 ?kc2 ?_; (case k1 => k_asm); (case k2 => k_asm); (case k3 => k_asm); (case k4 => k_asm); (case k5 => k_asm); (case kK => exact rfl); (case kd => ktr_room); (case ku => ktr_units); (case kc1 => intro p hp; have hp := hTc e he p hp; repeat (first | exact hp | refine List.Mem.tail _ ?_ | refine List.mem_append_left _ ?_)); (case kc2 => intro p hp; have hp := hTc f hf p hp; repeat (first | exact hp | refine List.Mem.tail _ ?_ | refine List.mem_append_left _ ?_)); k_whole)
          intro g h' tk' hgd hgn hga hgr F' N' hgc hgo
          have hgG : g.dat.Good := by rw [hgd]; exact a2.merge b2
          k_steps
          unfold Mine.Stop
          k_dflt (refine' str_call9 g hgn hgG (by omega) (by omega) ?k1 ?k2 ?k3 ?k4 ?k5 ?kK ?kd ?ku ?kc ?_; (case k1 => k_asm); (case k2 => k_asm); (case k3 => k_asm); (case k4 => k_asm); (case k5 => k_asm); (case kK => exact rfl); (case kd => ktr_room); (case ku => ktr_units); (case kc => exact hgc); k_whole)
          intro t1 h1' tk1 F1 N1
          rw [hgd]
          k_steps
          unfold Mine.Stop
          rename News _ _ _ _ => N7
          refine Mine.sub_T N7 (by repeat (first | exact List.Mem.head _ | refine List.mem_append_right _ ?_ | refine List.Mem.tail _ ?_)) (by omega) (by omega) (by omega) et ?_
          k_steps
          unfold Mine.Stop
          rename News _ _ _ _ => N7
          refine Mine.sub_T N7 (by repeat (first | exact List.Mem.head _ | refine List.mem_append_right _ ?_ | refine List.Mem.tail _ ?_)) (by omega) (by omega) (by omega) ft ?_
          k_steps
          unfold Mine.Stop
          k_dflt (refine' merged_call9 e.dat f.dat _ _ a2 b2 (by show (e.ag.map _).length ≤ 70; rw [List.length_map]; omega) (by show (f.ag.map _).length ≤ 70; rw [List.length_map]; omega) (by show (e.rl.map _).length ≤ 140; rw [List.length_map]; omega) (by show (f.rl.map _).length ≤ 140; rw [List.length_map]; omega) ?k1 ?k2 ?k3 ?k4 ?k5 ?kK ?kd ?ku ?_; (case k1 => k_asm); (case k2 => k_asm); (case k3 => k_asm); (case k4 => k_asm); (case k5 => k_asm); (case kK => exact rfl); (case kd => ktr_room); (case ku => ktr_units); k_whole)
          intro t2' h2'' tk2' F2' N2'
          k_steps
          unfold Mine.Stop
          rename Fr _ _ _ _ => F9
          rename News _ _ _ _ => N9
          refine' kst_end () F9 N9 ?hn ?ho rfl trivial ?hk ?hr trivial
          case hk => intro p hp; cases hp
          case hn =>
            intro p hp
            refine List.mem_append_right _ ?_
            rcases List.mem_cons.mp hp with h | hp
            · rw [h]; exact .head _
            rcases List.mem_cons.mp hp with h | hp
            · rw [h]; exact .tail _ (.head _)
            exact .tail _ (.tail _ (List.mem_append_left _ hp))
          case ho => intro p hp; exact List.mem_append_right _ (.tail _ (.tail _ (List.mem_append_right _ hp)))
          case hr => kst_same
        case done3 =>
          rintro u5 h5 tk5 Ft5 Nt5
          k_steps
          unfold Mine.Stop
          refine' kst_end () Ft5 Nt5 ?hn ?ho rfl trivial ?hk ?hr trivial
          case hk => intro p hp; cases hp
          case hn =>
            intro p hp
            rcases List.mem_cons.mp hp with h | hp
            · rw [h]; exact .head _
            rcases List.mem_cons.mp hp with h | hp
            · rw [h]; exact .tail _ (.head _)
            exact .tail _ (.tail _ (List.mem_append_left _ hp))
          case ho => intro p hp; exact .tail _ (.tail _ (List.mem_append_right _ hp))
          case hr => kst_same
      case done2 =>
        rintro u6 h6 tk6 Ft6 Nt6
        k_steps
        unfold Mine.Stop
        rename Fr _ _ _ _ => F7
        rename News _ _ _ _ => N7
        refine LCg.CompSrc.ledger (by rfl) F7 N7 (by k_mem) (by rw [List.size_toArray, List.length_map, hel]; decide) ?_
        intro g7
        refine Mine.map_items (fun e : Ent9 => Value.ref e.x) es (fun e => e.dat.text) ?tu ?fi
        case tu =>
          intro e I oI C oC D m2 ys1 h1 tk2 E1 he hC1 hx1 F' N' off' ne'
          have off0 := off'
          obtain ⟨a1, a2, a3, a4⟩ := hes e he
          (try k_fold)
          k_steps
          unfold Mine.Stop
          k_dflt (refine' str_call9 e a1 a2 (by omega) (by omega) ?k1 ?k2 ?k3 ?k4 ?k5 ?kK ?kd ?ku ?kc ?_; (case k1 => k_asm); (case k2 => k_asm); (case k3 => k_asm); (case k4 => k_asm); (case k5 => k_asm); (case kK => exact rfl); (case kd => ktr_room); (case ku => ktr_units); (case kc => intro p hp; have hp := hTc e he p hp; repeat (first | exact hp | refine List.Mem.tail _ ?_)); k_whole)
          intro t' h' tk' F' N'
          k_steps
          unfold Mine.Stop
          rename Fr _ _ _ _ => F6
          rename News _ _ _ _ => N6
          exact LCg.CompEnd.intro F6 N6 _ (fun p hp => hp) off0 (.inr ⟨_, by k_mem, rfl, _, rfl⟩) ⟨rfl, _, rfl⟩
        case fi =>
          intro ts2 hts2 D7 h7 tk7 F' N' off7
          change News _ _ h7 ((D7, listOf (strValues ts2).toArray _) :: _) at N'
          (try k_fold)
          k_steps
          unfold Mine.Stop
          rename News _ _ _ _ => N9
          refine Mine.eq_texts2 N9 (by k_mem) (by k_mem) (hts2.trans hts.symm) (by ke_room) ?_
          k_steps
end Mine
open Mine

theorem PySem.Challenge.cw_kn0090_09_holds : PySem.Challenge.rw_kn0090_09.Holds := by
  exact law09
end

