import PyProof.Rows.All
import Wide.All
import OpenK.AllK
import Wide.FinOn
import PySem.Challenge.RW_kn0090_08
open PySem PySem.W PyProof.Rows PySem.Spec
set_option Elab.async false
set_option maxRecDepth 100000

section
namespace Mine

def Grow (h h' : Heap) : Prop := ∀ b o, h.get? b = some o → h'.get? b = some o
theorem Grow.refl (h : Heap) : Grow h h := fun _ _ e => e
section
variable {prog : Program} {w : World} {A : Around} {E : Value → Shared → Prop} {s : Shared}

end

section
variable {prog : Program} {w : World} {A : Around} {E : Value → Shared → Prop} {s : Shared}
end
end Mine
end

section
namespace Mine
open PySem.F

abbrev lisObj (l : Addr) : Obj := { cls := .type "list_iterator", data := .fields #[.ref l, .int 0 0] }
abbrev mapH1 (h : Heap) (l : Addr) : Heap := h.push (lisObj l)
section
variable {prog : Program} {w : World} {A : Around} {E : Value → Shared → Prop} {s : Shared}

end
end Mine
end

section
namespace Mine
open PySem.F
section
variable {prog : Program} {w : World} {A : Around} {E : Value → Shared → Prop} {s : Shared}

theorem extend_loop {R : Result → Shared → Prop} {I : Addr} {fp wr : List Addr} {n : Nat} {P : Nat → Value → Prop} {St : Nat → Heap → Prop} (W : Walks prog w A.in1 I fp wr n P St) (S : Addr) (hSf : S ∉ fp) (res : Value) :
    ∀ (k i : Nat) (s : Shared) (acc : Array Value) (c : Nat), n - i = k → i ≤ n → St i s.heap → s.heap.get? S = some (listOf acc c) → acc.size + k ≤ sizeLine →
    (∀ h' tk' c' (more : List Value), (∀ b o, b ∉ S :: wr → s.heap.get? b = some o → h'.get? b = some o) → h'.get? S = some (listOf (acc ++ more.toArray) c') → more.length = k → (∀ j v, more[j]? = some v → P (i + j) v) →
      R (.ok (.ret res)) { s with heap := h', toks := tk' }) →
    codeAny (model prog w) A (.builtin "list.extend.loop" ⟨[.ref S, .ref I, res], []⟩) R s := by
  have hSw : S ∉ wr := fun h => hSf (W.sub _ h)
  intro k
  induction k with
  | zero =>
    intro i s acc c hk hi hst hS hz hR
    have hin : i = n := by omega
    subst hin
    refine codeAny_builtin F.entry_extend_loop ?_
    rw [Around.under_plainId F.plain_extend_loop _]
    show wpAny _ A.in1 (pyNext (.ref I) >>= _) _ _ s
    refine wpAny_bind (W.done s _ _ hst fun h' tk' hm => ?_)
    exact wpAny_pure (hR h' tk' c [] (fun b o hb e => hm b o (fun h => hb (List.mem_cons_of_mem _ h)) e) (by simpa using hm S _ hSw hS) rfl (fun j v hj => by simp at hj))
  | succ k ih =>
    intro i s acc c hk hi hst hS hz hR
    have hlt : i < n := by omega
    refine codeAny_builtin F.entry_extend_loop ?_
    rw [Around.under_plainId F.plain_extend_loop _]
    show wpAny _ A.in1 (pyNext (.ref I) >>= _) _ _ s
    refine wpAny_bind (W.item i s _ _ hlt hst fun v h₁ tk₁ hP hst' hm => ?_)
    have hS' := hm S _ hSw hS
    show wpAny _ A.in1 (updateSeq S (·.push v) >>= _) _ _ _
    refine wpAny_bind ?_
    refine wpAny_updateSeq hS' rfl (wpAny_pure ⟨plainId_quiet F.plain_extend_loop _, ih (i + 1) _ (acc.push v) _ (by omega) hlt (W.frame _ h₁ _ hst' fun b hb o e => ?_) (Heap.get?_update_self _ hS' rfl) (by rw [Array.size_push]; omega) fun h' tk' c' more hk' hS'' hlen hP' => ?_⟩)
      (by omega) (by show (acc.push v).size ≤ sizeLine + 1; rw [Array.size_push]; omega)
    · exact (Heap.get?_update_other _ _ (fun h : S = b => hSf (by rw [h]; exact hb))).trans e
    · refine hR h' tk' c' (v :: more) (fun b o hb e => ?_) (by rw [hS'', show acc.push v ++ more.toArray = acc ++ (v :: more).toArray from by apply Array.toList_inj.mp; simp]) (by simp [hlen]) (fun j u hj => ?_)
      · refine hk' b o hb ?_
        exact (Heap.get?_update_other _ _ (fun h : S = b => hb (by rw [h]; exact List.mem_cons_self))).trans (hm b o (fun h => hb (List.mem_cons_of_mem _ h)) e)
      · cases j with
        | zero => simp at hj; subst hj; exact hP
        | succ j => have := hP' j u (by simpa using hj); rwa [show i + (j + 1) = i + 1 + j by omega]

/-- extend from an iterator of a type without len and hint -/
theorem extend_with {T : String} (hT1 : (Value.type T == Value.type "list") = false) (hT2 : (Value.type T == Value.type "tuple") = false)
    (nolen : typeLookup (.type T) "__len__" = pure none) (nohint : typeLookup (.type T) "__length_hint__" = pure none)
    {R : Result → Shared → Prop} {I : Addr} {fp wr : List Addr} {n : Nat} {P : Nat → Value → Prop} {St : Nat → Heap → Prop} (W : Walks prog w A.in1 I fp wr n P St)
    (hT : ∀ i (s : Shared), St i s.heap → s.TypeIs (.ref I) T) (S : Addr) (hSf : S ∉ fp) (hI : I ∈ fp) (res : Value) {acc : Array Value} {c : Nat} (hst : St 0 s.heap) (hS : s.heap.get? S = some (listOf acc c)) (hz : acc.size + n < sizeLine)
    (hR : ∀ h' tk' c' (more : List Value), (∀ b o, b ∉ S :: wr → s.heap.get? b = some o → h'.get? b = some o) → h'.get? S = some (listOf (acc ++ more.toArray) c') → more.length = n → (∀ j v, more[j]? = some v → P j v) →
      R (.ok (.ret res)) { s with heap := h', toks := tk' }) :
    wpAny (model prog w) A.in1 (Builtin.List.listExtendWith (.ref S) (.ref I) res)
      (fun fin s' => match fin with | .done f => R (.ok f) s' | .again c' => c'.quiet = true ∧ codeAny (model prog w) A c' R s') (fun e s' => R (.error e) s') s := by
  have hSI : S ≠ I := fun e => hSf (e ▸ hI)
  unfold Builtin.List.listExtendWith
  refine wpAny_bind (wpAny_typeOf (hT 0 _ hst) ?_)
  have h1 : Builtin.List.listSameRef (.ref S) (.ref I) = false := by simp [Builtin.List.listSameRef, hSI]
  simp only [h1, hT1, hT2, Bool.or_false, Bool.false_eq_true, if_false]
  refine wpAny_bind (W.self 0 _ _ _ hst ?_)
  refine wpAny_bind (wpAny_holding ?_)
  unfold Builtin.List.listLengthHint
  refine wpAny_bind (wpAny_specialOf (hT 0 _ hst) nolen ?_)
  show wpAny _ A.in1 (specialOf (Value.ref I) (Str.ofString "__length_hint__") >>= _) _ _ _
  refine wpAny_bind (wpAny_specialOf (hT 0 _ hst) nohint ?_)
  refine wpAny_pure ?_
  show wpAny _ A.in1 (rule "list.extend.makes-room" >>= fun _ => Builtin.List.listTouch (.ref S) >>= fun _ =>
    again (.builtin "list.extend.loop" ⟨[.ref S, .ref I, res], []⟩)) _ _ _
  refine wpAny_bind (wpAny_rule ?_)
  refine wpAny_bind ?_
  show wpAny _ A.in1 (updateSeq S (·.push .none) >>= fun _ => updateSeq S (·.pop)) _ _ _
  refine wpAny_bind (wpAny_updateSeq hS rfl ?_ (by omega) (by rw [Array.size_push]; omega))
  have hS₂ := Heap.get?_update_self (Obj.mapSeq (·.push Value.none)) hS rfl
  refine wpAny_updateSeq hS₂ rfl ?_ (by show (acc.push _).size ≤ _; rw [Array.size_push]; omega) (by show ((acc.push _).pop).size ≤ _; rw [Array.size_pop, Array.size_push]; omega)
  have hS₃ := Heap.get?_update_self (Obj.mapSeq (·.pop)) hS₂ rfl
  have hpp : (acc.push Value.none).pop = acc := by simp
  have hS₄ : ((s.heap.update S (Obj.mapSeq (·.push Value.none))).update S (Obj.mapSeq (·.pop))).get? S = some (listOf acc (if ((acc.push Value.none).pop).size == (acc.push Value.none).size then (if (acc.push Value.none).size == acc.size then c else c + 1) else (if (acc.push Value.none).size == acc.size then c else c + 1) + 1)) := by
    rw [hS₃]; simp only [Obj.mapSeq, hpp]
  have oth : ∀ b o, b ≠ S → s.heap.get? b = some o → ((s.heap.update S (Obj.mapSeq (·.push Value.none))).update S (Obj.mapSeq (·.pop))).get? b = some o :=
    fun b o hb e => (Heap.get?_update_other _ _ (Ne.symm hb)).trans ((Heap.get?_update_other _ _ (Ne.symm hb)).trans e)
  refine wpAny_pure ⟨plainId_quiet F.plain_extend_loop _, extend_loop W S hSf res n 0 _ acc _ rfl (Nat.zero_le _)
    (W.frame 0 s.heap _ hst fun b hb o e => oth b o (fun h => hSf (h ▸ hb)) e) hS₄ (by omega) fun h' tk' c' more hk hS' hlen hP => ?_⟩
  exact hR h' tk' c' more (fun b o hb e => hk b o hb (oth b o (fun h => hb (h ▸ List.mem_cons_self)) e)) hS' hlen (fun j v hj => by have := hP j v hj; rwa [Nat.zero_add] at this)

/-- list(M), M an iterator of a type without len and hint -/
theorem list_call {T : String} (hT1 : (Value.type T == Value.type "list") = false) (hT2 : (Value.type T == Value.type "tuple") = false)
    (nolen : typeLookup (.type T) "__len__" = pure none) (nohint : typeLookup (.type T) "__length_hint__" = pure none)
    {I : Addr} {fp wr : List Addr} {n : Nat} {P : Nat → Value → Prop} {St : Nat → Heap → Prop} (W : Walks prog w A.in1.in1 I fp wr n P St)
    (hT : ∀ i (s : Shared), St i s.heap → s.TypeIs (.ref I) T) (hfp : ∀ b ∈ fp, b < s.heap.objs.size) (hI : I ∈ fp) (hst : St 0 s.heap) (hz : n < sizeLine) {Q : Value → Shared → Prop}
    (hQ : ∀ h' tk' c' (more : List Value), (∀ b o, b ∉ wr → s.heap.get? b = some o → h'.get? b = some o) → h'.get? s.heap.objs.size = some (listOf more.toArray c') → more.length = n → (∀ j v, more[j]? = some v → P j v) →
      Q (.ref s.heap.objs.size) { s with heap := h', toks := tk' }) :
    wpAny (model prog w) A (call (.type "list") [.ref I]) Q E s := by
  have hSf : s.heap.objs.size ∉ fp := fun hm => Nat.lt_irrefl _ (hfp _ hm)
  refine callType_codes (Q₁ := fun obj s₁ => obj = .ref s.heap.objs.size ∧ s₁ = { s with heap := s.heap.push { cls := .type "list", data := .seq #[] } }) F.called_list (F.typeCall_list_1 _) F.entry_list_init
    (code_list_new _ ⟨rfl, rfl⟩) fun obj s₁ h₁ => ?_
  obtain ⟨rfl, rfl⟩ := h₁
  have hS : (s.heap.push { cls := .type "list", data := .seq #[] }).get? s.heap.objs.size = some { cls := .type "list", data := .seq #[] } := Heap.get?_push_size _ rfl
  refine ⟨⟨_, hS, rfl⟩, F.args_list_init_2 _ _, ?_⟩
  show wpAny _ A.in1.in1 (do let old ← Builtin.List.listItems (.ref s.heap.objs.size); Builtin.List.listUpdate (.ref s.heap.objs.size) (fun _ => #[]); letGo old.toList.reverse; Builtin.List.listExtendWith (.ref s.heap.objs.size) (.ref I) .none) _ _ _
  refine wpAny_bind ?_
  unfold Builtin.List.listItems
  refine wpAny_bind (wpAny_seqItems hS rfl (wpAny_pure ?_))
  show wpAny _ A.in1.in1 (updateSeq s.heap.objs.size (fun _ => #[]) >>= fun _ => letGo (#[] : Array Value).toList.reverse >>= fun _ => Builtin.List.listExtendWith (.ref s.heap.objs.size) (.ref I) .none) _ _ _
  refine wpAny_bind (wpAny_updateSeq hS rfl ?_)
  have hS₂ := Heap.get?_update_self (Obj.mapSeq (fun _ => (#[] : Array Value))) hS rfl
  have hS₃ : ((s.heap.push { cls := .type "list", data := .seq #[] }).update s.heap.objs.size (Obj.mapSeq (fun _ => (#[] : Array Value)))).get? s.heap.objs.size = some (listOf #[] 0) := by rw [hS₂]; rfl
  have oth : ∀ b o, s.heap.get? b = some o → ((s.heap.push { cls := .type "list", data := .seq #[] }).update s.heap.objs.size (Obj.mapSeq (fun _ => (#[] : Array Value)))).get? b = some o :=
    fun b o e => (Heap.get?_update_other _ _ (Nat.ne_of_gt (Heap.lt_size e))).trans (Heap.get?_push_of_some _ e)
  refine wpAny_bind (wpAny_letGo ?_)
  refine extend_with hT1 hT2 nolen nohint W hT _ hSf hI .none (W.frame 0 s.heap _ hst fun b hb o e => oth b o e) hS₃ (by simpa using hz) fun h' tk' c' more hk hS' hlen hP => ?_
  refine ⟨rfl, hQ h' tk' c' more (fun b o hb e => hk b o (fun hm => ?_) (oth b o e)) (by simpa using hS') hlen hP⟩
  rcases List.mem_cons.mp hm with h | h
  · exact absurd (Heap.lt_size e) (by rw [h]; exact Nat.lt_irrefl _)
  · exact hb h

end
end Mine
end

section
namespace Mine

section
variable {M : Model} {A : Around} {E : Value → Shared → Prop} {s : Shared}
end

section
variable {prog : Program} {w : World} {A : Around} {E : Value → Shared → Prop} {s : Shared}
end
end Mine
end

section
open PySem.Calls
namespace Mine

section
variable {prog : Program} {w : World} {A A₀ : Around} {E : Value → Shared → Prop} {s : Shared} {K : Frag} {L : Addr} {h₀ base : Heap} {m mg mb : Str → Option Value} {p : Program} {loose : List Str} {mean : ExcName → Option Value}

end

section
variable {prog : Program} {w : World} {A A₀ : Around} {E : Value → Shared → Prop} {s : Shared} {K : Frag} {L : Addr} {h₀ base : Heap} {m mg mb : Str → Option Value} {p : Program} {loose : List Str} {mean : ExcName → Option Value}
  {news : List (Addr × Obj)}

theorem Fr.grow {h h' : Heap} (F : Fr h₀ L h m) (hk : Grow h h') : Fr h₀ L h' m := ⟨F.ns.at' fun o e => hk _ o e, fun b o e => hk b o (F.keep b o e), F.above⟩
end
end Mine
end

section
open PySem.Calls
namespace Mine

end Mine
end

section
open PySem.Calls
namespace Mine
section
variable {prog : Program} {w : World} {A : Around} {E : Value → Shared → Prop} {s : Shared} {h₀ : Heap} {L D : Addr} {m : Str → Option Value} {news news' : List (Addr × Obj)} {vs : List Value} {c : Nat}

/-- the place that an index means -/
def place (k : Int) (n : Nat) : Nat := if k < 0 then (k + n).toNat else k.toNat

theorem len_L {Q : Value → Shared → Prop} (N : News h₀ L s.heap news) (hm : (D, listOf vs.toArray c) ∈ news) (hfit : (vs.length : Int) < 2 ^ 63)
    (h : Q (.int (vs.length : Int) (s.toks + 1)) { s with toks := s.toks + 1 + 1 }) : wpAny (model prog w) A (call (.builtin "len") [.ref D]) Q E s := kst_len N hm rfl hfit h

theorem get_L {k : Int} {u : Tok} {x : Value} {Q : Value → Shared → Prop} (N : News h₀ L s.heap news) (hm : (D, listOf vs.toArray c) ∈ news) (h0 : -(vs.length : Int) ≤ k) (h1 : k < vs.length) (hfit : (vs.length : Int) < 2 ^ 63)
    (hx : vs[place k vs.length]? = some x) (h : Q x s) : wpAny (model prog w) A (getItem (.ref D) (.int k u)) Q E s := by
  have hl : s.heap.IsList D vs.toArray := ⟨_, (N _ hm).1, rfl, c, rfl⟩
  unfold place at hx
  by_cases hk : k < 0
  · rw [if_pos hk] at hx
    exact wpAny_getItem_list_neg hl hk (by simpa using h0) (by omega) (by simpa using hx) h
  · rw [if_neg hk] at hx
    exact wpAny_getItem_list hl (by omega) (by omega) (by simpa using hx) h

theorem sub_L {value slice : Expr} {k : Int} {u : Tok} {x : Value} {Q : Value → Shared → Prop} (N : News h₀ L s.heap news) (hm : (D, listOf vs.toArray c) ∈ news) (h0 : -(vs.length : Int) ≤ k) (h1 : k < vs.length) (hfit : (vs.length : Int) < 2 ^ 63)
    (hx : vs[place k vs.length]? = some x) (h : Q x s)
    (hs : subscripted slice false (.ref D) (.int k u) = operate [.ref D, .int k u] (getItem (.ref D) (.int k u)) := by with_unfolding_all rfl) :
    wpAny (model prog w) A (subscriptTail value slice (.ref D) (.int k u)) Q E s :=
  tail_any ⟨_, (N _ hm).1, rfl⟩ slot_list_getitem.lookup (get_L N hm h0 h1 hfit hx h) hs

theorem set_raw {k : Int} {u : Tok} {v : Value} {Q : Unit → Shared → Prop} (hl : s.heap.get? D = some (listOf vs.toArray c)) (h0 : -(vs.length : Int) ≤ k) (h1 : k < vs.length) (hfit : (vs.length : Int) < 2 ^ 63)
    (hQ : Q () { s with heap := s.heap.update D (Obj.mapSeq (·.setIfInBounds (place k vs.length) v)) }) :
    wpAny (model prog w) A (setItem (.ref D) (.int k u) v) Q E s := by
  have hL : s.heap.IsList D vs.toArray := ⟨_, hl, rfl, c, rfl⟩
  unfold setItem
  try with_reducible refine wpAny_holding ?_
  first | refine wpAny_bind (wpAny_pure ?_) | skip
  refine wpAny_bind (wpAny_sequenceKey hL.typeIs (by decide) ?_)
  refine wpAny_bind (wpAny_callSpecial?_slot (name := Str.ofString "__setitem__") hL.typeIs slot_list_setitem
    (wpAny_call_entry slot_list_setitem hL.typeIs entry_list_setitem ?_ (args_list_setitem _ _ _)))
  show wpAny _ _ (Builtin.List.listSubscript? (.int k u) >>= _) _ _ s
  by_cases hk : k < 0
  · refine wpAny_bind (wpAny_listSubscript_int (fitsIndex_neg hk (by omega)) ?_)
    clear hfit
    have hidx := seqIndex_neg hk h0
    have hp : place k vs.length = (k + vs.length).toNat := by unfold place; rw [if_pos hk]
    have hj : (k + vs.length).toNat < vs.length := by omega
    rw [hp] at hQ
    obtain ⟨j, rfl⟩ : ∃ j : Nat, k = Int.negSucc j := by
      cases k with
      | ofNat n => exact absurd hk (Int.not_lt.mpr (Int.natCast_nonneg n))
      | negSucc n => exact ⟨n, rfl⟩
    show wpAny _ _ ((Builtin.List.listItems (.ref D) >>= fun xs => pure ((seqIndex? (Int.negSucc j) xs.size).bind fun i => xs[i]?.map (i, ·))) >>= _) _ _ s
    refine wpAny_bind (wpAny_bind ?_)
    show wpAny _ _ (seqItems? (.ref D) >>= _) _ _ s
    refine wpAny_bind (wpAny_seqItems hl rfl (wpAny_pure (wpAny_pure ?_)))
    have hsz : vs.toArray.size = vs.length := by simp
    rw [hsz, hidx]
    simp only [Option.bind_some, List.getElem?_toArray, List.getElem?_eq_getElem hj, Option.map_some]
    show wpAny _ _ (setSeqItemAt D _ v >>= _) _ _ s
    refine wpAny_bind (wpAny_setSeqItemAt hl rfl ?_)
    first
      | exact wpAny_bind (wpAny_pure (wpAny_pure ⟨.none, rfl, wpAny_pure hQ⟩))
      | exact wpAny_pure ⟨.none, rfl, wpAny_pure hQ⟩
  · refine wpAny_bind (wpAny_listSubscript_int (fitsIndex_of (by omega) (by omega)) ?_)
    clear hfit
    have hp : place k vs.length = k.toNat := by unfold place; rw [if_neg hk]
    rw [hp] at hQ
    obtain ⟨j, rfl⟩ := Int.eq_ofNat_of_zero_le (by omega : 0 ≤ k)
    have hj : j < vs.length := by omega
    show wpAny _ _ ((seqItemAt D j >>= fun r => pure (r.map (j, ·))) >>= _) _ _ s
    refine wpAny_bind (wpAny_bind (wpAny_seqItemAt hl rfl (wpAny_pure ?_)))
    simp only [List.getElem?_toArray, List.getElem?_eq_getElem hj, Option.map_some]
    show wpAny _ _ (setSeqItemAt D _ v >>= _) _ _ s
    refine wpAny_bind (wpAny_setSeqItemAt hl rfl ?_)
    first
      | exact wpAny_bind (wpAny_pure (wpAny_pure ⟨.none, rfl, wpAny_pure hQ⟩))
      | exact wpAny_pure ⟨.none, rfl, wpAny_pure hQ⟩

theorem set_L {k : Int} {u : Tok} {v : Value} {Q : Unit → Shared → Prop} (F : Fr h₀ L s.heap m) (N : News h₀ L s.heap news) (U : Upd D (listOf vs.toArray c) (listOf (vs.set (place k vs.length) v).toArray c) news news') (h0 : -(vs.length : Int) ≤ k) (h1 : k < vs.length) (hfit : (vs.length : Int) < 2 ^ 63)
    (hQ : ∀ h', Fr h₀ L h' m → News h₀ L h' news' → Q () { s with heap := h' }) :
    wpAny (model prog w) A (setItem (.ref D) (.int k u) v) Q E s := by
  obtain ⟨pre, post, e1, e2, n1, n2⟩ := U.split
  subst e1 e2
  have hl := (N (D, listOf vs.toArray c) (by simp)).1
  refine set_raw hl h0 h1 hfit ?_
  have e : Obj.mapSeq (·.setIfInBounds (place k vs.length) v) (listOf vs.toArray c) = listOf (vs.set (place k vs.length) v).toArray c := by
    simp [Obj.mapSeq]
  obtain ⟨F', N'⟩ := news_upd F N n1 n2 e rfl
  exact hQ _ F' N'
end

section
variable {prog : Program} {w : World} {A : Around} {E : Value → Shared → Prop} {s : Shared} {h₀ : Heap} {L D : Addr} {m : Str → Option Value} {news news' : List (Addr × Obj)} {ys : List (Str × Tok)} {c : Nat}
theorem strValues_length (ys : List (Str × Tok)) : (strValues ys).length = ys.length := by simp [strValues]
theorem len_T {Q : Value → Shared → Prop} (N : News h₀ L s.heap news) (hm : (D, listOf (strValues ys).toArray c) ∈ news) (hfit : (ys.length : Int) < 2 ^ 63)
    (h : Q (.int (ys.length : Int) (s.toks + 1)) { s with toks := s.toks + 1 + 1 }) : wpAny (model prog w) A (call (.builtin "len") [.ref D]) Q E s := kst_len N hm (strValues_length ys) hfit h
theorem sub_T {value slice : Expr} {k : Int} {u : Tok} {x : Str × Tok} {Q : Value → Shared → Prop} (N : News h₀ L s.heap news) (hm : (D, listOf (strValues ys).toArray c) ∈ news) (h0 : -(ys.length : Int) ≤ k) (h1 : k < ys.length) (hfit : (ys.length : Int) < 2 ^ 63)
    (hx : ys[place k ys.length]? = some x) (h : Q (.str x.1 x.2) s)
    (hs : subscripted slice false (.ref D) (.int k u) = operate [.ref D, .int k u] (getItem (.ref D) (.int k u)) := by with_unfolding_all rfl) :
    wpAny (model prog w) A (subscriptTail value slice (.ref D) (.int k u)) Q E s := by
  rw [← strValues_length ys] at h0 h1 hfit
  refine sub_L N hm h0 h1 hfit ?_ h hs
  rw [strValues_length]; unfold strValues; rw [List.getElem?_map, hx]; rfl
end
end Mine
namespace Mine
end Mine
namespace Mine
end Mine
end

section
open PySem.Calls
namespace Mine

end Mine
namespace Mine
section
variable {prog : Program} {w : World} {A A₀ : Around} {E : Value → Shared → Prop} {s : Shared} {K : Frag} {L : Addr} {h₀ base : Heap} {m mg mb : Str → Option Value} {p : Program} {loose : List Str} {mean : ExcName → Option Value}
  {news : List (Addr × Obj)}
end
/-- a mark: the walk stands still here -/
def Stop (P : Prop) : Prop := P
theorem stop {P : Prop} (h : Stop P) : P := h
section
variable {n : Nat} {p f l : Str} {s : Int}
end
end Mine
namespace Mine
theorem fmod_lt {x m : Int} (hm : 0 < m) : 0 ≤ x.fmod m ∧ x.fmod m < m := ⟨Int.fmod_nonneg_of_pos x hm, Int.fmod_lt_of_pos x hm⟩
end Mine
namespace Mine
end Mine
end

section
open PySem.Calls
namespace Mine

section
variable {prog : Program} {w : World} {A A₀ : Around} {E : Value → Shared → Prop} {s : Shared} {K : Frag} {L : Addr} {h₀ base : Heap} {m mg mb : Str → Option Value} {p : Program} {loose : List Str} {mean : ExcName → Option Value}

end
end Mine
end

section
open PySem.Calls
namespace Mine
section
variable {prog : Program} {w : World} {A A₀ : Around} {E : Value → Shared → Prop} {s : Shared} {K : Frag} {L : Addr} {h₀ base : Heap} {m mg mb : Str → Option Value} {p : Program} {loose : List Str} {mean : ExcName → Option Value}

end
end Mine
end

section
open PySem.Calls
namespace Mine
def GrowEnd (h₀ : Heap) (L : Addr) (J : (Str → Option Value) → List (Addr × Obj) → Prop) (own : List (Addr × Obj)) (s₁ s₂ : Shared) : Prop :=
  ∃ h' tk m' news' nx, s₂ = { s₁ with heap := h', toks := tk } ∧ Fr h₀ L h' m' ∧ News h₀ L h' news' ∧ (∀ p ∈ nx, p ∈ news') ∧ (∀ p ∈ own, p ∈ news') ∧ OwnOff own (nx.map (·.1)) ∧ J m' nx
def GrowPost (h₀ : Heap) (L : Addr) (J : (Str → Option Value) → List (Addr × Obj) → Prop) (own : List (Addr × Obj)) (s₁ : Shared) (Q : Flow → Shared → Prop) (f : Flow) (s₂ : Shared) : Prop :=
  match f with
  | .ret v => Q (.ret v) s₂
  | .brk => Q .next s₂
  | _ => GrowEnd h₀ L J own s₁ s₂
section
variable {prog : Program} {w : World} {A : Around} {E : Value → Shared → Prop} {s : Shared} {env : Env} {h₀ : Heap} {x : Str} {body : List Stmt} {Q : Flow → Shared → Prop}
theorem iter_grow {l : Addr} {vs : List Value} {ns : List Int} {m₀ : Str → Option Value} {news : List (Addr × Obj)} (J : Nat → (Str → Option Value) → List (Addr × Obj) → Prop)
    (hh : A.handled = none) (hl : h₀.IsList l vs.toArray) (hi : IntsAre vs ns) (F : Fr h₀ env.locals s.heap m₀) (N : News h₀ env.locals s.heap news) (hj : J 0 m₀ news)
    (turn : ∀ i n t m₁ news₁ h tk own, ns[i]? = some n → OwnOff own (news₁.map (·.1)) → J i m₁ news₁ → Fr h₀ env.locals h (fun y => if y = x then some (.int n t) else m₁ y) → News h₀ env.locals h (news₁ ++ own) →
      wpAny (model prog w) A (execs body env) (GrowPost h₀ env.locals (J (i + 1)) own { s with heap := h, toks := tk } Q) E { s with heap := h, toks := tk })
    (done : ∀ m₁ news₁ h tk, J ns.length m₁ news₁ → Fr h₀ env.locals h m₁ → News h₀ env.locals h news₁ → Q .next { s with heap := h, toks := tk }) :
    wpAny (model prog w) A (pyIter (.ref l)) (fun it s₂ => LoopAtV prog w A h₀ env x body Q E it s₂) E s := by
  have hls : s.heap.IsList l vs.toArray := hl.at fun o e => F.keep l o e
  obtain ⟨ol, hol, _⟩ := id hl
  have hlt : l < h₀.objs.size := Heap.lt_size hol
  have hne : l ≠ s.heap.objs.size := Nat.ne_of_lt (Nat.lt_trans (Nat.lt_of_lt_of_le hlt F.above) F.ns.lt)
  refine wpAny_pyIter_list hls ?_
  have W := Walks.list (prog := prog) (w := w) hh s.heap.objs.size l hne vs.toArray
  have hlen : vs.toArray.size = ns.length := by simp [hi.length]
  rw [hlen] at W
  have hI₀ : h₀.get? s.heap.objs.size = none := next_is_new F
  refine ⟨_, _, _, ns.length, _, _, m₀, news, J, rfl, W, ?_, ?_, ?_, ⟨⟨_, Heap.get?_push_size _ rfl, rfl, rfl⟩, hls.at fun o e => Heap.get?_push_of_some _ e⟩, F.push _, (fun p hp => ⟨Heap.get?_push_of_some _ (N p hp).1, (N p hp).2⟩), hj, ?_, ?_⟩
  · intro hm
    rcases List.mem_cons.mp hm with e | hm
    · exact absurd F.ns.lt (e ▸ Nat.lt_irrefl _)
    · exact absurd (Nat.lt_of_lt_of_le hlt F.above) ((List.mem_singleton.mp hm) ▸ Nat.lt_irrefl _)
  · intro b hb
    rw [List.mem_singleton.mp hb]
    exact hI₀
  · intro p hp hI
    exact absurd (Heap.lt_size (N p hp).1) ((List.mem_singleton.mp hI) ▸ Nat.lt_irrefl _)
  · rintro i v m₁ news₁ s₁ own ⟨hh', tk', rfl⟩ hin hP hJ hoff hown _ hfull hst F₁ N₁
    have hsep : OwnOff own (news₁.map (·.1)) := by
      intro p hp b hb e
      obtain ⟨q, hq, rfl⟩ := List.mem_map.mp hb
      rcases List.mem_cons.mp (hown p hp) with h1 | h1
      · exact hoff q hq (List.mem_singleton.mpr (by rw [← e, h1]))
      · have h2 := List.mem_singleton.mp h1
        have h3 := (N₁ p (List.mem_append.mpr (.inl hp))).2.2
        rw [h2, hol] at h3
        cases h3
    have hlt' : i < ns.length := hin
    obtain ⟨t, hx⟩ := hi.get i ns[i] (by simp [hlt'])
    have hv : v = .int ns[i] t := by
      have hP' : vs[i]? = some v := by simpa using hP
      rw [hx] at hP'; exact (Option.some.inj hP').symm
    subst hv
    have N₂ : News h₀ env.locals hh' (news₁ ++ own) := fun p hp => N₁ p ((List.mem_append.mp hp).elim (fun h => List.mem_append.mpr (.inr h)) fun h => List.mem_append.mpr (.inl h))
    obtain ⟨oI, heI, _⟩ := hst.1
    have hIown := hfull s.heap.objs.size (List.mem_cons_self ..) hI₀ oI heI
    refine wpAny_mono (turn i ns[i] t m₁ news₁ hh' tk' own (by simp [hlt']) hsep hJ F₁ N₂) (fun f s₂ p => ?_) fun _ _ e => e
    have fin : GrowEnd h₀ env.locals (J (i + 1)) own { s with heap := hh', toks := tk' } s₂ → LoopStepU h₀ env.locals [s.heap.objs.size] own (J (i + 1)) { s with heap := hh', toks := tk' } .next s₂ := by
      rintro ⟨h', tk, m', news', nx, e, F', N', hn, ho, ha, hm⟩
      refine ⟨rfl, h', tk, m', nx, e, F', fun p hp => N' p ((List.mem_append.mp hp).elim (ho p) (hn p)), fun p hp hq => ?_, hm⟩
      exact ha _ hIown p.1 (List.mem_map.mpr ⟨p, hp, rfl⟩) (List.mem_singleton.mp hq).symm
    cases f with
    | ret v => exact .ret p
    | brk => exact .brk p
    | next => exact .next (fin p)
    | cont => exact .cont (fin p)
  · rintro h' tk m' news' F' N' _ hJ
    exact done m' news' h' tk hJ F' N'

theorem grow_list {σ : Type} {l : Addr} {vs : List Value} {ns : List Int} {m₀ : Str → Option Value} (Led : σ → List (Addr × Obj)) (ps : σ → List (Str × Value)) (Facts : σ → Prop) (stored : List Str) (P : List Int → σ → Prop) (c₀ : σ)
    (hh : A.handled = none) (hl : h₀.IsList l vs.toArray) (hi : IntsAre vs ns) (F : Fr h₀ env.locals s.heap m₀) (N : News h₀ env.locals s.heap (Led c₀)) (hf : Facts c₀) (hk : ∀ p ∈ ps c₀, m₀ p.1 = some p.2) (hp : P [] c₀)
    (turn : ∀ (c : σ) pre post n t (u : Str → Option Value) h tk own, ns = pre ++ n :: post → n ∈ ns → OwnOff own ((Led c).map (·.1)) → Facts c → P pre c →
      Fr h₀ env.locals h (fun y => if y = x then some (.int n t) else kstB (fun z => if stored.contains z then u z else m₀ z) (ps c) y) → News h₀ env.locals h (Led c ++ own) →
      wpAny (model prog w) A (execs body env) (GrowPost h₀ env.locals (KstS Led ps Facts x stored m₀ P (pre ++ [n])) own { s with heap := h, toks := tk } Q) E { s with heap := h, toks := tk })
    (done : ∀ (c : σ) (u : Str → Option Value) h tk, Facts c → P ns c → Fr h₀ env.locals h (fun y => if y = x then u y else kstB (fun z => if stored.contains z then u z else m₀ z) (ps c) y) → News h₀ env.locals h (Led c) → Q .next { s with heap := h, toks := tk }) :
    wpAny (model prog w) A (pyIter (.ref l)) (fun it s₂ => LoopAtV prog w A h₀ env x body Q E it s₂) E s := by
  refine iter_grow (fun i m nx => KstS Led ps Facts x stored m₀ P (ns.take i) m nx) hh hl hi F N ⟨c₀, rfl, hf, hk, fun _ _ _ _ => rfl, by simpa using hp⟩ ?_ ?_
  · rintro i n t m₁ nx h tk own hn hoff ⟨c, rfl, hf', h1, h2, hp'⟩ F₁ N₁
    have hs : ns.take (i + 1) = ns.take i ++ [n] := by simp [List.take_add_one, hn]
    have e : ns = ns.take i ++ n :: ns.drop (i + 1) := by
      have ht := List.take_append_drop (i + 1) ns
      rw [hs, List.append_assoc] at ht
      exact ht.symm
    rw [hs]
    exact turn c _ _ n t m₁ h tk own e (List.mem_of_getElem? hn) hoff hf' hp' (kst_fr h1 h2 F₁) N₁
  · rintro m₁ nx h tk ⟨c, rfl, hf', h1, h2, hp'⟩ F₁ N₁
    rw [List.take_length] at hp'
    exact done c m₁ h tk hf' hp' (kst_frOut h1 h2 F₁) N₁
theorem grow_end {σ : Type} {Led : σ → List (Addr × Obj)} {ps : σ → List (Str × Value)} {Facts : σ → Prop} {stored : List Str} {m₀ : Str → Option Value} {P : List Int → σ → Prop} {pre : List Int} (c : σ) {L : Addr} {m' : Str → Option Value} {own news' : List (Addr × Obj)} {s₁ : Shared} {h' : Heap} {tk : Nat}
    (F : Fr h₀ L h' m') (N : News h₀ L h' news') (hn : ∀ p ∈ Led c, p ∈ news') (ho : ∀ p ∈ own, p ∈ news') (ha : OwnOff own ((Led c).map (·.1))) (hf : Facts c) (hk : ∀ p ∈ ps c, m' p.1 = some p.2) (hr : ∀ z, z ≠ x → (∀ p ∈ ps c, z ≠ p.1) → stored.contains z = false → m' z = m₀ z) (hp : P pre c) :
    GrowEnd h₀ L (KstS Led ps Facts x stored m₀ P pre) own s₁ { s₁ with heap := h', toks := tk } :=
  ⟨h', tk, m', news', Led c, rfl, F, N, hn, ho, ha, c, rfl, hf, hk, hr, hp⟩
end
end Mine
end

section
open PySem.Calls
namespace Mine

section
variable {prog : Program} {w : World} {A : Around} {E : Value → Shared → Prop} {s : Shared} {h₀ : Heap} {L : Addr} {m : Str → Option Value} {news : List (Addr × Obj)}
end
section
variable {prog : Program} {w : World} {A : Around} {E : Value → Shared → Prop} {s : Shared}
end
end Mine
end

section
open PySem.Calls
namespace Mine
section
variable {prog : Program} {w : World} {A : Around} {E : Value → Shared → Prop} {s : Shared} {a b : Addr} {xs : List Value} {Q : Value → Shared → Prop}
theorem eq_none (ha : s.heap.IsList a xs.toArray) (hb : s.heap.IsList b #[]) (hu : A.units < cLine) (hx : xs = []) (h : Q (.bool true) s) : wpAny (model prog w) A (compareOp .Eq (.ref a) (.ref b)) Q E s := by
  subst hx
  exact PySem.SeqAt.RcAt.lists (e := fun _ => true) ha hb rfl hu (fun j h1 _ => absurd h1 (by simp)) prog w E Q (by simpa using h)
theorem eq_some (ha : s.heap.IsList a xs.toArray) (hb : s.heap.IsList b #[]) (hu : A.units < cLine) (hx : xs ≠ []) (h : Q (.bool false) s) : wpAny (model prog w) A (compareOp .Eq (.ref a) (.ref b)) Q E s :=
  PySem.SeqAt.RcAt.lists_lengths ha hb (by cases xs with | nil => exact absurd rfl hx | cons _ _ => simp) hu prog w E Q h
end
end Mine
end

section
open PySem.Calls
namespace Mine
/-- the dict of a record -/
def entD (q : Params) (t1 t2 t3 t4 : Tok) (u r : Addr) (dl rt : Value) : Obj :=
  dictOf [⟨PyData.keyHash q (Str.ofString "useragents"), .str (Str.ofString "useragents") t1, .ref u⟩, ⟨PyData.keyHash q (Str.ofString "rulelines"), .str (Str.ofString "rulelines") t2, .ref r⟩,
    ⟨PyData.keyHash q (Str.ofString "delay"), .str (Str.ofString "delay") t3, dl⟩, ⟨PyData.keyHash q (Str.ofString "req_rate"), .str (Str.ofString "req_rate") t4, rt⟩] 4
section
variable {prog : Program} {w : World} {A : Around} {E : Value → Shared → Prop} {s : Shared} {a b : Addr} {xs : List Value} {Q : Value → Shared → Prop}
end

theorem split_place {α : Type} {l : List α} {i : Nat} (h : i < l.length) : ∃ pre x post, l = pre ++ x :: post ∧ pre.length = i :=
  ⟨l.take i, l[i], l.drop (i + 1), by rw [← List.drop_eq_getElem_cons h, List.take_append_drop], by rw [List.length_take]; omega⟩
theorem allLt_mem {d : Addr} : ∀ {l : List (Addr × Obj)}, AllLt d l → ∀ p ∈ l, @LT.lt Nat _ p.1 d
  | _ :: _, h, p, hp => by
    rcases List.mem_cons.mp hp with rfl | hp
    · exact h.1
    · exact allLt_mem h.2 p hp
  | [], _, _, hp => nomatch hp

section
variable {q : Params} {B O R A : Addr} {oR oA : Obj} {h₀ h : Heap} {L : Addr} {own : List (Addr × Obj)} {es : List Ent} {nB nO : Nat}
theorem push_texts (ys : List (Str × Tok)) (v : Str × Tok) : (strValues ys).toArray.push (.str v.1 v.2) = (strValues (ys ++ [v])).toArray := by simp [strValues]

local macro_rules | `(tactic| walk_at "ent_cells") => `(tactic| (
  intro hn
  simp only [Ent.adr, List.nodup_cons, List.mem_cons, List.not_mem_nil, or_false, not_or, not_false_eq_true, List.nodup_nil, and_true] at hn
  obtain ⟨⟨a1, a2, a3, a4, a5, a6⟩, ⟨b2, b3, b4, b5, b6⟩, ⟨c3, c4, c5, c6⟩, ⟨d4, d5, d6⟩, ⟨e5, e6⟩, f6⟩ := hn
  intro p hp
  simp only [Ent.cells, Ent.u1, Ent.u2, Ent.r1, Ent.r2, Ent.d1, Ent.d2, Ent.q1, Ent.q2, List.mem_cons, List.not_mem_nil, or_false] at hp ⊢
  rcases hp with hp | hp | hp | hp | hp | hp | hp <;> subst hp <;> first | exact .inl rfl | (refine .inr ⟨by simp, ?_⟩; first | assumption | exact Ne.symm (by assumption))))
end

section
variable {prog : Program} {w : World} {A : Around} {E : Value → Shared → Prop} {s : Shared} {h₀ : Heap} {L D : Addr} {news : List (Addr × Obj)}
end
end Mine
end

section
open PySem.Calls
namespace Mine
section
variable {prog : Program} {w : World} {A : Around} {E : Value → Shared → Prop} {s : Shared} {env : Env} {h₀ : Heap} {x : Str} {body : List Stmt} {Q : Flow → Shared → Prop}
/-- going over a list of the ledger; the list itself stands among the loop's own things -/
theorem iter_led {l : Addr} {vs : List Value} {c : Nat} {m₀ : Str → Option Value} {news news₀ : List (Addr × Obj)} (J : Nat → (Str → Option Value) → List (Addr × Obj) → Prop)
    (hh : A.handled = none) (hl : (l, listOf vs.toArray c) ∈ news) (hs : ∀ p ∈ news₀, p ∈ news ∧ p.1 ≠ l) (F : Fr h₀ env.locals s.heap m₀) (N : News h₀ env.locals s.heap news) (hj : J 0 m₀ news₀)
    (turn : ∀ i v m₁ news₁ h tk own, vs[i]? = some v → (l, listOf vs.toArray c) ∈ own → OwnOff own (news₁.map (·.1)) → J i m₁ news₁ → Fr h₀ env.locals h (fun y => if y = x then some v else m₁ y) → News h₀ env.locals h (news₁ ++ own) →
      wpAny (model prog w) A (execs body env) (GrowPost h₀ env.locals (J (i + 1)) own { s with heap := h, toks := tk } Q) E { s with heap := h, toks := tk })
    (done : ∀ m₁ news₁ h tk, J vs.length m₁ news₁ → (∀ p ∈ news₁, p.1 ≠ l) → Fr h₀ env.locals h m₁ → News h₀ env.locals h ((l, listOf vs.toArray c) :: news₁) → Q .next { s with heap := h, toks := tk }) :
    wpAny (model prog w) A (pyIter (.ref l)) (fun it s₂ => LoopAtV prog w A h₀ env x body Q E it s₂) E s := by
  have hls : s.heap.IsList l vs.toArray := ⟨_, (N _ hl).1, rfl, c, rfl⟩
  have hol := (N _ hl).1
  have hlt : l < s.heap.objs.size := Heap.lt_size hol
  have hne : l ≠ s.heap.objs.size := Nat.ne_of_lt hlt
  have hlL : l ≠ env.locals := (N _ hl).2.1
  refine wpAny_pyIter_list hls ?_
  have W := Walks.list (prog := prog) (w := w) hh s.heap.objs.size l hne vs.toArray
  have hlen : vs.toArray.size = vs.length := by simp
  rw [hlen] at W
  have hI₀ : h₀.get? s.heap.objs.size = none := next_is_new F
  have hst0 : (s.heap.push (((({ cls := .type "list_iterator", data := .fields #[.ref l, .int 0 0] } : Obj))))).get? l = some (listOf vs.toArray c) := Heap.get?_push_of_some _ hol
  refine ⟨_, _, _, vs.length, _, _, m₀, (l, listOf vs.toArray c) :: news₀, fun i m nx => ∃ n₁, nx = (l, listOf vs.toArray c) :: n₁ ∧ (∀ p ∈ n₁, p.1 ≠ l) ∧ J i m n₁, rfl, W, ?_, ?_, ?_, ⟨⟨_, Heap.get?_push_size _ rfl, rfl, rfl⟩, hls.at fun o e => Heap.get?_push_of_some _ e⟩, F.push _, ?_, ⟨_, rfl, fun p hp => (hs p hp).2, hj⟩, ?_, ?_⟩
  · intro hm
    rcases List.mem_cons.mp hm with e | hm
    · exact absurd F.ns.lt (e ▸ Nat.lt_irrefl _)
    · exact hlL (List.mem_singleton.mp hm).symm
  · intro b hb
    rw [List.mem_singleton.mp hb]
    exact hI₀
  · intro p hp hI
    have hI' := List.mem_singleton.mp hI
    rcases List.mem_cons.mp hp with rfl | hp
    · exact hne hI'
    · exact absurd (Heap.lt_size (N p (hs p hp).1).1) (hI' ▸ Nat.lt_irrefl _)
  · intro p hp
    rcases List.mem_cons.mp hp with rfl | hp
    · exact ⟨Heap.get?_push_of_some _ hol, (N _ hl).2⟩
    · exact ⟨Heap.get?_push_of_some _ (N p (hs p hp).1).1, (N p (hs p hp).1).2⟩
  · rintro i v m₁ news₁ s₁ own ⟨hh', tk', rfl⟩ hin hP ⟨n₁, rfl, hn₁, hJ⟩ hoff hown _ hfull hst F₁ N₁
    have hlown : (l, listOf vs.toArray c) ∈ own := by
      refine hfull l (.tail _ (.head _)) (N _ hl).2.2 _ ?_
      exact (N₁ _ (List.mem_append.mpr (.inr (.head _)))).1
    have hsep : OwnOff own (n₁.map (·.1)) := by
      intro p hp b hb e
      obtain ⟨q, hq, rfl⟩ := List.mem_map.mp hb
      rcases List.mem_cons.mp (hown p hp) with h1 | h1
      · exact hoff q (.tail _ hq) (List.mem_singleton.mpr (by rw [← e, h1]))
      · exact hn₁ q hq (e.symm.trans (List.mem_singleton.mp h1))
    have hlt' : i < vs.length := hin
    have hv : vs[i]? = some v := by simpa using hP
    have N₂ : News h₀ env.locals hh' (n₁ ++ own) := fun p hp => N₁ p ((List.mem_append.mp hp).elim (fun h => List.mem_append.mpr (.inr (.tail _ h))) fun h => List.mem_append.mpr (.inl h))
    obtain ⟨oI, heI, _⟩ := hst.1
    have hIown := hfull s.heap.objs.size (List.mem_cons_self ..) hI₀ oI heI
    refine wpAny_mono (turn i v m₁ n₁ hh' tk' own hv hlown hsep hJ F₁ N₂) (fun f s₂ p => ?_) fun _ _ e => e
    have fin : GrowEnd h₀ env.locals (J (i + 1)) own { s with heap := hh', toks := tk' } s₂ → LoopStepU h₀ env.locals [s.heap.objs.size] own (fun m nx => ∃ n₁, nx = (l, listOf vs.toArray c) :: n₁ ∧ (∀ p ∈ n₁, p.1 ≠ l) ∧ J (i + 1) m n₁) { s with heap := hh', toks := tk' } .next s₂ := by
      rintro ⟨h', tk, m', news', nx, e, F', N', hn, ho, ha, hm⟩
      have hxl : ∀ p ∈ nx, p.1 ≠ l := fun p hp e' => ha _ hlown p.1 (List.mem_map.mpr ⟨p, hp, rfl⟩) e'.symm
      refine ⟨rfl, h', tk, m', (l, listOf vs.toArray c) :: nx, e, F', fun p hp => N' p ((List.mem_append.mp hp).elim (ho p) fun h => ?_), fun p hp hq => ?_, nx, rfl, hxl, hm⟩
      · rcases List.mem_cons.mp h with rfl | h
        · exact ho _ hlown
        · exact hn p h
      · have hq' := List.mem_singleton.mp hq
        rcases List.mem_cons.mp hp with rfl | hp
        · exact hne hq'
        · exact ha _ hIown p.1 (List.mem_map.mpr ⟨p, hp, rfl⟩) hq'.symm
    cases f with
    | ret v => exact .ret p
    | brk => exact .brk p
    | next => exact .next (fin p)
    | cont => exact .cont (fin p)
  · rintro h' tk m' news' F' N' _ ⟨n₁, rfl, hn₁, hJ⟩
    exact done m' n₁ h' tk hJ hn₁ F' N'

theorem grow_items {α σ : Type} {l : Addr} {c : Nat} {xs : List α} (val : α → Value) {m₀ : Str → Option Value} {news : List (Addr × Obj)} (Led : σ → List (Addr × Obj)) (ps : σ → List (Str × Value)) (Facts : σ → Prop) (stored : List Str) (P : List α → σ → Prop) (c₀ : σ)
    (hh : A.handled = none) (hl : (l, listOf (xs.map val).toArray c) ∈ news) (hs : ∀ p ∈ Led c₀, p ∈ news ∧ p.1 ≠ l) (F : Fr h₀ env.locals s.heap m₀) (N : News h₀ env.locals s.heap news) (hf : Facts c₀) (hk : ∀ p ∈ ps c₀, m₀ p.1 = some p.2) (hp : P [] c₀)
    (turn : ∀ (c' : σ) pre post a (u : Str → Option Value) h tk own, xs = pre ++ a :: post → (l, listOf (xs.map val).toArray c) ∈ own → OwnOff own ((Led c').map (·.1)) → Facts c' → P pre c' →
      Fr h₀ env.locals h (fun y => if y = x then some (val a) else kstB (fun z => if stored.contains z then u z else m₀ z) (ps c') y) → News h₀ env.locals h (Led c' ++ own) →
      wpAny (model prog w) A (execs body env) (GrowPost h₀ env.locals (KstS Led ps Facts x stored m₀ (fun (_ : List Int) c'' => P (pre ++ [a]) c'') []) own { s with heap := h, toks := tk } Q) E { s with heap := h, toks := tk })
    (done : ∀ (c' : σ) (u : Str → Option Value) h tk, Facts c' → P xs c' → (∀ p ∈ Led c', p.1 ≠ l) → Fr h₀ env.locals h (fun y => if y = x then u y else kstB (fun z => if stored.contains z then u z else m₀ z) (ps c') y) → News h₀ env.locals h ((l, listOf (xs.map val).toArray c) :: Led c') → Q .next { s with heap := h, toks := tk }) :
    wpAny (model prog w) A (pyIter (.ref l)) (fun it s₂ => LoopAtV prog w A h₀ env x body Q E it s₂) E s := by
  refine iter_led (fun i m nx => KstS Led ps Facts x stored m₀ (fun (_ : List Int) c'' => P (xs.take i) c'') [] m nx) hh hl hs F N ⟨c₀, rfl, hf, hk, fun _ _ _ _ => rfl, by simpa using hp⟩ ?_ ?_
  · rintro i v m₁ nx h tk own hn hown hoff ⟨c', rfl, hf', h1, h2, hp'⟩ F₁ N₁
    rw [List.getElem?_map] at hn
    obtain ⟨a, ha, rfl⟩ := Option.map_eq_some_iff.mp hn
    have hs : xs.take (i + 1) = xs.take i ++ [a] := by simp [List.take_add_one, ha]
    have e : xs = xs.take i ++ a :: xs.drop (i + 1) := by
      have ht := List.take_append_drop (i + 1) xs
      rw [hs, List.append_assoc] at ht
      exact ht.symm
    rw [hs]
    exact turn c' _ _ a m₁ h tk own e hown hoff hf' hp' (kst_fr h1 h2 F₁) N₁
  · rintro m₁ nx h tk ⟨c', rfl, hf', h1, h2, hp'⟩ hnl F₁ N₁
    rw [List.length_map, List.take_length] at hp'
    exact done c' m₁ h tk hf' hp' hnl (kst_frOut h1 h2 F₁) N₁

end
end Mine
end

section
namespace Mine
open PySem.F
theorem type_setc : typeOf (.builtin "set.__contains__") = pure (.type "method_descriptor") := by show builtinType _ = _; rw [builtinType_eq_fast]; kernel_rfl
theorem look_setc : typeLookup (.type "set") "__contains__" = pure (some (.builtin "set.__contains__")) := slot_set_contains.lookup
abbrev boundC (S : Addr) : Obj := { cls := .type "builtin_function_or_method", data := .fields #[.builtin "set.__contains__", .ref S] }
theorem slot_mget : Slot "method_descriptor" "__get__" "method_descriptor.__get__" :=
  .of (owner := "method_descriptor") (n := "__get__") (by rw [typeLookup_type, builtinLookup_eq_fast]; kernel_rfl) (by decide +kernel) (by decide +kernel) (by decide +kernel)
    (by first | exact .inl (by decide +kernel) | exact .inr (by decide +kernel)) (by rw [isSubtype_type]; kernel_rfl)
theorem entry_mget : entryFor table "method_descriptor.__get__" = some Builtin.«method_descriptor.__get__» := entryFor_of_tree (by kernel_rfl)
theorem args_mget (a b c : Value) : argsOk "method_descriptor.__get__" ⟨[a, b, c], []⟩ := by unfold argsOk; kernel_rfl
section
variable {prog : Program} {w : World} {A : Around} {E : Value → Shared → Prop} {s : Shared}
theorem run_mget {S : Addr} {P : PySem.Fin → Shared → Prop} (hT : s.TypeIs (.ref S) "set") (h : P (.done (.ret (.ref s.heap.objs.size))) { s with heap := s.heap.push (boundC S) }) :
    wpAny (model prog w) A (Builtin.«method_descriptor.__get__» ⟨[.builtin "set.__contains__", .ref S, .type "set"], []⟩) P E s := by
  unfold Builtin.«method_descriptor.__get__»
  refine wpAny_bind (wpAny_of_eq (a := (.builtin "set.__contains__", some (.ref S), some (.type "set"))) (by first | rfl | kernel_rfl) ?_)
  dsimp only
  rw [if_neg (by decide +kernel)]
  with_unfolding_all refine wpAny_bind (wpAny_bind (wpAny_of_eq (a := (Str.ofString "__contains__", .type "set")) (by first | rfl | kernel_rfl) ?_))
  dsimp only
  refine wpAny_bind (wpAny_isInstance hT sub_set_self ?_)
  rw [if_neg (by simp)]
  refine wpAny_pure ?_
  exact wpAny_bind (wpAny_newObj_type (wpAny_pure h))
theorem set_getattr_none : typeLookup (.type "set") "__getattr__" = pure none := by rw [typeLookup_type, builtinLookup_eq_fast]; kernel_rfl
theorem entry_set_getattribute : entryFor table "set.__getattribute__" = some Builtin.«object.__getattribute__» :=
  entryFor_alias (id' := "object.__getattribute__") (by kernel_rfl) (by decide +kernel) (by decide +kernel) (by kernel_rfl)
theorem md_no_set : typeLookup (.type "method_descriptor") "__set__" = pure none := by rw [typeLookup_type, builtinLookup_eq_fast]; kernel_rfl
theorem md_no_del : typeLookup (.type "method_descriptor") "__delete__" = pure none := by rw [typeLookup_type, builtinLookup_eq_fast]; kernel_rfl
theorem run_getattribute {S : Addr} {es : Array (Int × Value)} {ep : Nat} {tb : SetTable} {sl : Array (Option Value)} {u : Tok} {P : PySem.Fin → Shared → Prop} (ho : s.heap.get? S = some ⟨.type "set", none, .set es ep tb, sl⟩)
    (h : P (.done (.ret (.ref s.heap.objs.size))) { s with heap := s.heap.push (boundC S) }) :
    wpAny (model prog w) A (Builtin.«object.__getattribute__» ⟨[.ref S, .str (Str.ofString "__contains__") u], []⟩) P E s := by
  obtain ⟨hp, g, d, tk, os⟩ := s
  have hT : (⟨hp, g, d, tk, os⟩ : Shared).TypeIs (.ref S) "set" := ⟨_, ho, rfl⟩
  have hlook := look_setc
  have hty := type_setc
  have hget := slot_mget.lookup
  have hns := md_no_set
  have hnd := md_no_del
  unfold Builtin.«object.__getattribute__»
  repeat (any_goals (first | assumption | ((with_reducible show wpAny _ _ (call (Value.builtin "method_descriptor.__get__") _ _) _ _ _); refine wpAny_call_entry slot_mget hty entry_mget (run_mget hT ⟨_, rfl, ?_⟩) (args_mget _ _ _)) | wp_step))
theorem attr_contains {S : Addr} {es : Array (Int × Value)} {ep : Nat} {tb : SetTable} {sl : Array (Option Value)} {Q : Value → Shared → Prop} (ho : s.heap.get? S = some ⟨.type "set", none, .set es ep tb, sl⟩)
    (h : ∀ tk, Q (.ref s.heap.objs.size) { s with heap := s.heap.push (boundC S), toks := tk }) :
    wpAny (model prog w) A (getAttr (.ref S) (Str.ofString "__contains__") true) Q E s := by
  obtain ⟨hp, g, d, tk, os⟩ := s
  have hT : ∀ tk', (⟨hp, g, d, tk', os⟩ : Shared).TypeIs (.ref S) "set" := fun _ => ⟨_, ho, rfl⟩
  have f3 := F.slot_set_getattribute.lookup
  have f4 := F.slot_set_getattribute.bind (.ref S)
  have f5 := set_getattr_none
  unfold getAttr getAttrBy
  repeat (any_goals (first | assumption | exact hT _ | ((with_reducible show wpAny _ _ (call (Value.builtin "set.__getattribute__") _ _) _ _ _); refine wpAny_call_entry F.slot_set_getattribute (hT _) entry_set_getattribute (run_getattribute ho ⟨_, rfl, ?_⟩) (F.args_set_getattribute_2 _ _)) | wp_step))
  exact h _
end
end Mine
end

section
namespace Mine
open PySem.F
section
variable {prog : Program} {w : World} {K : Type} [DecidableEq K] {knd : PySem.KeyKind prog w K} {A : Around} {E : Value → Shared → Prop} {s : Shared}
theorem contains_body {S : Addr} {T : K → Bool} {n : Nat} {k : K} {key : Value} {P : PySem.Fin → Shared → Prop} (hkey : knd.is k key = true) (hsc : key.scannable = true) (hS : s.heap.SetOf knd S T n)
    (h : P (.done (.ret (.bool (T k)))) { s with toks := s.toks + 1 }) :
    wpAny (model prog w) A (Builtin.«frozenset.__contains__» ⟨[.ref S, key], []⟩) P E s := by
  unfold Builtin.«frozenset.__contains__» Builtin.Frozenset.oneOther
  simp only [List.isEmpty_nil, bind_assoc]
  unfold Builtin.Frozenset.addrOf Builtin.Frozenset.withSetAsKey setContains
  refine wpAny_bind (wpAny_pure ?_)
  try dsimp only
  refine wpAny_bind (wpAny_pure ?_)
  try dsimp only
  refine wpAny_bind (wpAny_tryCatch ?_)
  refine wpAny_holding ?_
  refine wpAny_bind (knd.pyHash hkey ?_)
  refine wpAny_bind (wpAny_setFind_of (s := { s with toks := s.toks + 1 }) hkey hsc hS fun r hr => ?_)
  refine wpAny_pure ?_
  show wpAny _ _ (ret (Value.bool r.isSome)) _ _ _
  rw [hr]
  exact wpAny_pure h
abbrev sigC : Manifest.Signature := ⟨.oneArg, "set.__contains__", "__contains__", .self, [⟨"object", .posOnly, true⟩]⟩
theorem sig_setc : Manifest.signature? "set.__contains__" = some sigC := by
  rw [signature?_of (id := "set.__contains__") (n := ['_', '_', 's', 'n', 'i', 'a', 't', 'n', 'o', 'c', '_', '_']) (o := ['t', 'e', 's']) (by kernel_rfl) owner_set]; kernel_rfl
theorem kind_setc : builtinKind "set.__contains__" = some .method := by decide +kernel
theorem check_bound {S : Addr} {es : Array (Int × Value)} {ep : Nat} {tb : SetTable} {sl : Array (Option Value)} {key : Value} {Q : Unit → Shared → Prop} (ho : s.heap.get? S = some ⟨.type "set", none, .set es ep tb, sl⟩) (h : Q () s) :
    wpAny (model prog w) A (checkBoundCall "set.__contains__" ⟨[.ref S, key], []⟩) Q E s := by
  have hsub : isSubtype (.type "set") (.type "module") = pure false := by rw [isSubtype_type]; kernel_rfl
  have hT : s.TypeIs (.ref S) "set" := ⟨_, ho, rfl⟩
  unfold checkBoundCall
  rw [sig_setc, kind_setc]
  obtain ⟨hp, g, d, tk, os⟩ := s
  dsimp only
  rw [if_neg (by decide)]
  refine wpAny_bind (wpAny_isInstance hT hsub ?_)
  rw [if_neg (by decide +kernel)]
  repeat (any_goals (first | assumption | ((with_reducible show wpAny _ _ (Bind.checkArgs _ _ _) _ _ _); refine wpAny_of_eq (a := ()) (by kernel_rfl) ?_) | wp_step))
theorem set_shape {h : Heap} {S : Addr} {T : K → Bool} {n : Nat} (hS : h.SetOf knd S T n) : ∃ es ep tb, h.get? S = some ⟨.type "set", none, .set es ep tb, #[]⟩ := by
  obtain ⟨o, es, ep, t, ho, hx, hd, _⟩ := hS
  obtain ⟨c, d, da, sl⟩ := o
  obtain ⟨h1, h2, h3⟩ := hx
  dsimp only at h1 h2 h3 hd
  subst h1 h2 h3 hd
  exact ⟨es, ep, t, ho⟩
theorem call_bound {X S : Addr} {T : K → Bool} {n : Nat} {k : K} {key : Value} {Q : Value → Shared → Prop} (hX : s.heap.get? X = some (boundC S)) (hkey : knd.is k key = true) (hsc : key.scannable = true) (hS : s.heap.SetOf knd S T n)
    (h : Q (.bool (T k)) { s with toks := s.toks + 1 }) : wpAny (model prog w) A (call (.ref X) [key]) Q E s := by
  obtain ⟨es, ep, tb, ho⟩ := set_shape hS
  refine wpAny_call (codeAny_of_tree ?_)
  show wpAny _ _ (callAny (.ref X) _) _ _ _
  unfold callAny
  show wpAny _ _ (load X >>= _) _ _ _
  refine wpAny_bind (wpAny_load hX ?_)
  show wpAny _ _ (checkBoundCall "set.__contains__" ⟨[.ref S, key], []⟩ >>= fun _ => again (.builtin "set.__contains__" ⟨[.ref S, key], []⟩)) _ _ _
  refine wpAny_bind (check_bound ho (wpAny_pure ⟨Code.quiet_builtin _ (by decide +kernel), codeAny_builtin entry_set_contains ?_⟩))
  exact contains_body hkey hsc hS h
end
end Mine
end

section
namespace Mine
open PySem.F
theorem slot_filter_next : Slot "filter" "__next__" "filter.__next__" :=
  .of (owner := "filter") (n := "__next__") (by rw [typeLookup_type, builtinLookup_eq_fast]; kernel_rfl) (by decide +kernel) (by decide +kernel) (by decide +kernel)
    (by first | exact .inl (by decide +kernel) | exact .inr (by decide +kernel)) (by rw [isSubtype_type]; kernel_rfl)
theorem slot_filter_iter : Slot "filter" "__iter__" "filter.__iter__" :=
  .of (owner := "filter") (n := "__iter__") (by rw [typeLookup_type, builtinLookup_eq_fast]; kernel_rfl) (by decide +kernel) (by decide +kernel) (by decide +kernel)
    (by first | exact .inl (by decide +kernel) | exact .inr (by decide +kernel)) (by rw [isSubtype_type]; kernel_rfl)
theorem slot_filter_init : Slot "filter" "__init__" "object.__init__" :=
  .of (owner := "object") (n := "__init__") (by rw [typeLookup_type, builtinLookup_eq_fast]; kernel_rfl) (by decide +kernel) (by decide +kernel) (by decide +kernel)
    (by first | exact .inl (by decide +kernel) | exact .inr (by decide +kernel)) (by rw [isSubtype_type]; kernel_rfl)
theorem owner_filter : Manifest.owners.lookup (String.ofList ['r', 'e', 't', 'l', 'i', 'f'].reverse) = some Manifest.sig_filter := by kernel_rfl
theorem args_filter_next (a : Value) : argsOk "filter.__next__" ⟨[a], []⟩ := by
  unfold argsOk; rw [signature?_of (id := "filter.__next__") (n := ['_', '_', 't', 'x', 'e', 'n', '_', '_']) (o := ['r', 'e', 't', 'l', 'i', 'f']) (by kernel_rfl) owner_filter]; kernel_rfl
theorem args_filter_iter (a : Value) : argsOk "filter.__iter__" ⟨[a], []⟩ := by
  unfold argsOk; rw [signature?_of (id := "filter.__iter__") (n := ['_', '_', 'r', 'e', 't', 'i', '_', '_']) (o := ['r', 'e', 't', 'l', 'i', 'f']) (by kernel_rfl) owner_filter]; kernel_rfl
theorem entry_filter_next : entryFor table "filter.__next__" = some Builtin.«filter.__next__» := entryFor_of_tree (by kernel_rfl)
theorem plain_filter_next : plainId "filter.__next__" = true := by decide +kernel
theorem entry_filter_iter : entryFor table "filter.__iter__" = some Builtin.«dict_keyiterator.__iter__» :=
  entryFor_alias (id' := "dict_keyiterator.__iter__") (by kernel_rfl) (by first | rfl | decide +kernel | (unfold String.splitOn; simp +decide [String.splitOnAux])) (by decide +kernel) (by kernel_rfl)
theorem mro_filter : mroOf (.type "filter") = pure [.type "filter", .type "object"] := by rw [mroOf_type]; kernel_rfl
theorem lookup_filter_new : typeLookup (.type "filter") "__new__" = pure (some (.builtin "filter.__new__")) := by rw [typeLookup_type, builtinLookup_eq_fast]; kernel_rfl
theorem called_filter : TypeCalled "filter" "filter.__new__" "object.__init__" :=
  ⟨by decide +kernel, by decide +kernel, ⟨_, _, mro_filter⟩, madeBy_type mro_filter lookup_filter_new (by decide +kernel), by decide +kernel, by rw [isSubtype_type]; kernel_rfl, slot_filter_init⟩
theorem typeCall_filter_2 (a b : Value) : checkTypeCall "filter" ⟨[a, b], []⟩ = pure () := by kernel_rfl
theorem newCall_filter_2 (a b : Value) : checkBuiltinCall "filter.__new__" ⟨[.type "filter", a, b], []⟩ = pure () := by kernel_rfl
theorem entry_filter_new : entryFor table "filter.__new__" = some Builtin.«filter.__new__» := entryFor_of_tree (by kernel_rfl)
theorem sub_filter : isSubtype (.type "filter") (.type "filter") = pure true := by rw [isSubtype_type]; kernel_rfl
theorem filter_no_len : typeLookup (.type "filter") "__len__" = pure none := by rw [typeLookup_type, builtinLookup_eq_fast]; kernel_rfl
theorem filter_no_hint : typeLookup (.type "filter") "__length_hint__" = pure none := by rw [typeLookup_type, builtinLookup_eq_fast]; kernel_rfl

abbrev filObj (f : Value) (I : Addr) : Obj := { cls := .type "filter", data := .fields #[f, .ref I] }
theorem meets_filter_new (f : Value) (l : Addr) (xs : Array Value) :
    Meets (Builtin.«filter.__new__» ⟨[.type "filter", f, .ref l], []⟩) (fun _ R s => s.heap.IsList l xs ∧
      R (.ok (.ret (.ref (mapH1 s.heap l).objs.size))) { s with heap := (mapH1 s.heap l).push (filObj f s.heap.objs.size) }) :=
  .of_wp fun prog w A R s h => by
    obtain ⟨hp, g, d, tk, os⟩ := s; obtain ⟨hl1, h⟩ := h
    have hsub := sub_filter
    have hL1 : Heap.IsList (Shared.heap ⟨hp, g, d, tk, os⟩) l xs := hl1
    wp_walk using wpAny_pyIter_list hL1
    exact ⟨_, rfl, h⟩
section
variable {prog : Program} {w : World} {A : Around} {E : Value → Shared → Prop} {s : Shared}
theorem call_filter {f : Value} {l : Addr} {xs : Array Value} {Q : Value → Shared → Prop} (hl : s.heap.IsList l xs)
    (h : ∀ h', h'.get? (s.heap.objs.size + 1) = some (filObj f s.heap.objs.size) → h'.get? s.heap.objs.size = some (lisObj l) → Grow s.heap h' → Q (.ref (s.heap.objs.size + 1)) { s with heap := h' }) :
    wpAny (model prog w) A (call (.type "filter") [f, .ref l]) Q E s := by
  refine callType_new called_filter (by decide) (typeCall_filter_2 _ _) (newCall_filter_2 _ _) (fun obj => F.args_object_init_3 obj _ _) entry_filter_new
    (meets_filter_new f l xs) ⟨hl, ?_⟩
  have z1 : (mapH1 s.heap l).objs.size = s.heap.objs.size + 1 := Heap.size_push ..
  have g2 : ((mapH1 s.heap l).push (filObj f s.heap.objs.size)).get? (mapH1 s.heap l).objs.size = some (filObj f s.heap.objs.size) := Heap.get?_push_size _ rfl
  have g1 : ((mapH1 s.heap l).push (filObj f s.heap.objs.size)).get? s.heap.objs.size = some (lisObj l) := Heap.get?_push_of_some _ (Heap.get?_push_size _ rfl)
  show _ ∧ _
  rw [z1] at g2 ⊢
  exact ⟨⟨_, g2, rfl⟩, h _ g2 g1 fun c o x => Heap.get?_push_of_some _ (Heap.get?_push_of_some _ x)⟩
end
end Mine
end

section
namespace Mine
open PySem.F
section
variable {prog : Program} {w : World} {A : Around} {E : Value → Shared → Prop} {s : Shared}
theorem li_item {it l : Addr} {i : Nat} {items : Array Value} {x : Value} {Q : Option Value → Shared → Prop} (hit : s.heap.IsListIter it l i) (hl : s.heap.IsList l items) (hx : items[i]? = some x)
    (hQ : ∀ h', h'.IsListIter it l (i + 1) → Heap.SameBut it s.heap h' → Q (some x) { s with heap := h' }) : wpAny (model prog w) A (callSpecial? (.ref it) (Str.ofString "__next__")) Q E s := by
  obtain ⟨o, ho, hc, hd⟩ := id hit
  obtain ⟨ol, hol, _, nl, hdl⟩ := hl
  refine wpAny_callSpecial?_slot (name := Str.ofString "__next__") hit.typeIs slot_listiter_next (wpAny_call_entry slot_listiter_next hit.typeIs entry_listiter_next ?_ (args_listiter_next _))
  show wpAny _ _ (field (.ref it) 0 >>= _) _ _ s
  refine wpAny_bind (wpAny_field ho hd (x := .ref l) rfl ?_)
  show wpAny _ _ (if (Value.ref l == Value.none) = true then _ else _) _ _ s
  rw [if_neg (show ¬ ((Value.ref l == Value.none) = true) from Bool.false_ne_true)]
  show wpAny _ _ (field (.ref it) 1 >>= _) _ _ s
  refine wpAny_bind (wpAny_field ho hd (x := .int i 0) rfl ?_)
  show wpAny _ _ (seqItems? (.ref l) >>= _) _ _ s
  refine wpAny_bind (wpAny_seqItems hol hdl ?_)
  simp only [Int.toNat_natCast, hx]
  refine wpAny_bind (wpAny_setField ho hd (by simp) (wpAny_pure ⟨x, rfl, hQ _ ?_ (Heap.SameBut.update ..)⟩))
  exact ⟨_, Heap.get?_update_self _ ho (Obj.isFreed_of_fields (Obj.data_mapFields hd _)), (Obj.cls_mapFields ..).trans hc, by
    rw [Obj.data_mapFields hd]; simp [rawInt]⟩
theorem li_end {it l : Addr} {i : Nat} {items : Array Value} {Q : Option Value → Shared → Prop} (hh : A.handled = none)
    (hit : s.heap.IsListIter it l i) (hl : s.heap.IsList l items) (hx : items[i]? = none)
    (hE : ∀ h' e, Heap.ExtBut it s.heap h' → (∃ o, h'.get? e = some o ∧ o.cls = .type "StopIteration") → E (.ref e) { s with heap := h' }) :
    wpAny (model prog w) A (callSpecial? (.ref it) (Str.ofString "__next__")) Q E s := by
  obtain ⟨o, ho, hc, hd⟩ := id hit
  obtain ⟨ol, hol, _, nl, hdl⟩ := hl
  refine wpAny_callSpecial?_slot (name := Str.ofString "__next__") hit.typeIs slot_listiter_next (wpAny_call_entry slot_listiter_next hit.typeIs entry_listiter_next ?_ (args_listiter_next _))
  show wpAny _ _ (field (.ref it) 0 >>= _) _ _ s
  refine wpAny_bind (wpAny_field ho hd (x := .ref l) rfl ?_)
  show wpAny _ _ (if (Value.ref l == Value.none) = true then _ else _) _ _ s
  rw [if_neg (show ¬ ((Value.ref l == Value.none) = true) from Bool.false_ne_true)]
  show wpAny _ _ (field (.ref it) 1 >>= _) _ _ s
  refine wpAny_bind (wpAny_field ho hd (x := .int i 0) rfl ?_)
  show wpAny _ _ (seqItems? (.ref l) >>= _) _ _ s
  refine wpAny_bind (wpAny_seqItems hol hdl ?_)
  simp only [Int.toNat_natCast, hx]
  refine wpAny_bind (wpAny_rule (wpAny_bind (wpAny_setField ho hd (by simp) ?_)))
  show wpAny _ _ (newExc (.type "StopIteration") [] >>= _) _ _ _
  refine wpAny_bind ?_
  simp only [newExc, newTuple]
  refine wpAny_bind (wpAny_newObj_type ?_ (by size_fits))
  refine wpAny_bind (m := firstArgMember _ _) (wpAny_of_eq (a := Value.none) (by first | rfl | (simp only [firstArgMember]; rfl)) ?_)
  refine wpAny_newObj_type ?_ (by size_fits)
  simp only [raiseNew]
  refine wpAny_bind (wpAny_handled ?_)
  first | rw [show A.in1.handled = none from hh] | rw [hh]
  refine wpAny_bind (wpAny_pure (wpAny_throw ?_))
  exact hE _ _ (((Heap.SameBut.update ..).extBut.push _).push _) ⟨_, Heap.get?_push_size _ rfl, rfl⟩

/-- what a call of f upon an item tells: a bool, nothing that stood is changed -/
def TellsOn (prog : Program) (w : World) (A : Around) (base : Heap) (I : Addr) (f : Value) (x : Value) (b : Bool) : Prop :=
  ∀ (s : Shared) (Q E : Value → Shared → Prop), (∀ b o, b ≠ I → base.get? b = some o → s.heap.get? b = some o) → (∀ h' tk', Grow s.heap h' → Q (.bool b) { s with heap := h', toks := tk' }) →
    wpAny (model prog w) A (call f [x]) Q E s

theorem filter_run {base : Heap} {M I l X : Addr} {xs : Array Value} {p : Nat → Bool} {R : Result → Shared → Prop} (hh : A.handled = none)
    (hz : base.get? M = some (filObj (.ref X) I)) (hl : base.IsList l xs) (hMI : M ≠ I) (hlI : l ≠ I)
    (hf : ∀ i x, xs[i]? = some x → TellsOn prog w A.in1 base I (.ref X) x (p i)) :
    ∀ (k j : Nat) (s : Shared), xs.size - j = k → s.heap.IsListIter I l j → (∀ b o, b ≠ I → base.get? b = some o → s.heap.get? b = some o) →
      (∀ m x h' tk', j ≤ m → xs[m]? = some x → p m = true → (∀ i, j ≤ i → i < m → p i = false) → h'.IsListIter I l (m + 1) → (∀ b o, b ≠ I → s.heap.get? b = some o → h'.get? b = some o) → R (.ok (.ret x)) { s with heap := h', toks := tk' }) →
      ((∀ i, j ≤ i → i < xs.size → p i = false) → ∀ h' tk' e, (∀ b o, b ≠ I → s.heap.get? b = some o → h'.get? b = some o) → (∃ o, h'.get? e = some o ∧ o.cls = .type "StopIteration") → R (.error (.ref e)) { s with heap := h', toks := tk' }) →
      codeAny (model prog w) A (.builtin "filter.__next__" ⟨[.ref M], []⟩) R s := by
  intro k
  induction k with
  | zero =>
    intro j s hk hit hb hI hEnd
    have hls : s.heap.IsList l xs := by obtain ⟨o, ho, r⟩ := hl; exact ⟨o, hb _ _ hlI ho, r⟩
    refine codeAny_builtin entry_filter_next ?_
    rw [Around.under_plainId plain_filter_next _]
    show wpAny _ A.in1 (field (.ref M) 0 >>= _) _ _ s
    refine wpAny_bind (wpAny_field (hb _ _ hMI hz) rfl (x := .ref X) rfl ?_)
    refine wpAny_bind (wpAny_field (hb _ _ hMI hz) rfl (x := .ref I) rfl ?_)
    refine wpAny_bind (li_end (by simpa using hh) hit hls (by rw [Array.getElem?_eq_none]; omega) fun h' e hs he => ?_)
    exact hEnd (fun i h1 h2 => by omega) h' s.toks e (fun b o hb' e => hs _ _ hb' e) he
  | succ k ih =>
    intro j s hk hit hb hI hEnd
    have hls : s.heap.IsList l xs := by obtain ⟨o, ho, r⟩ := hl; exact ⟨o, hb _ _ hlI ho, r⟩
    have hlt : j < xs.size := by omega
    refine codeAny_builtin entry_filter_next ?_
    rw [Around.under_plainId plain_filter_next _]
    show wpAny _ A.in1 (field (.ref M) 0 >>= _) _ _ s
    refine wpAny_bind (wpAny_field (hb _ _ hMI hz) rfl (x := .ref X) rfl ?_)
    refine wpAny_bind (wpAny_field (hb _ _ hMI hz) rfl (x := .ref I) rfl ?_)
    refine wpAny_bind (li_item (x := xs[j]) hit hls (by simp [hlt]) fun h₁ hit₁ hs₁ => ?_)
    have k1 : ∀ b o, b ≠ I → s.heap.get? b = some o → h₁.get? b = some o := fun b o hb' e => hs₁.extBut _ _ hb' e
    dsimp only
    refine wpAny_bind (wpAny_holding ?_)
    rw [if_neg (show ¬ ((Value.ref X == Value.none || Value.ref X == Value.type "bool") = true) from Bool.false_ne_true)]
    refine wpAny_bind (hf j xs[j] (by simp [hlt]) _ _ _ (fun b o hb' e => k1 b o hb' (hb b o hb' e)) fun h₂ tk₂ hg => ?_)
    refine wpAny_holding (wpAny_truthy_bool ?_)
    cases hp : p j with
    | true =>
      rw [if_pos rfl]
      exact wpAny_pure (hI j xs[j] h₂ tk₂ (Nat.le_refl _) (by simp [hlt]) hp (fun i h1 h2 => by omega) (hit₁.at fun o e => hg _ _ e) fun b o hb' e => hg _ _ (k1 b o hb' e))
    | false =>
      rw [if_neg Bool.false_ne_true]
      refine wpAny_pure ⟨plainId_quiet plain_filter_next _, ih (j + 1) _ (by omega) (hit₁.at fun o e => hg _ _ e) (fun b o hb' e => hg _ _ (k1 b o hb' (hb b o hb' e))) ?_ ?_⟩
      · intro m x h' tk' hm hx hpm hno hit' hk'
        refine hI m x h' tk' (by omega) hx hpm (fun i h1 h2 => ?_) hit' fun b o hb' e => hk' b o hb' (hg _ _ (k1 b o hb' e))
        by_cases e : i = j
        · rw [e]; exact hp
        · exact hno i (by omega) h2
      · intro hno h' tk' e hk' he
        refine hEnd (fun i h1 h2 => ?_) h' tk' e (fun b o hb' e => hk' b o hb' (hg _ _ (k1 b o hb' e))) he
        by_cases e : i = j
        · rw [e]; exact hp
        · exact hno i (by omega) h2

/-- the places that are kept -/
def kept (p : Nat → Bool) (n : Nat) : List Nat := (List.range n).filter p
theorem filter_next {base : Heap} {M I l X : Addr} {xs : Array Value} {p : Nat → Bool} {Q : Option Value → Shared → Prop} (hh : A.handled = none)
    (hz : base.get? M = some (filObj (.ref X) I)) (hl : base.IsList l xs) (hMI : M ≠ I) (hlI : l ≠ I)
    (hf : ∀ i x, xs[i]? = some x → TellsOn prog w A.in1 base I (.ref X) x (p i)) {j : Nat} (hit : s.heap.IsListIter I l j) (hb : ∀ b o, b ≠ I → base.get? b = some o → s.heap.get? b = some o)
    (hI : ∀ m x h' tk', j ≤ m → xs[m]? = some x → p m = true → (∀ i, j ≤ i → i < m → p i = false) → h'.IsListIter I l (m + 1) → (∀ b o, b ≠ I → s.heap.get? b = some o → h'.get? b = some o) → Q (some x) { s with heap := h', toks := tk' })
    (hEnd : (∀ i, j ≤ i → i < xs.size → p i = false) → ∀ h' tk', (∀ b o, b ≠ I → s.heap.get? b = some o → h'.get? b = some o) → Q none { s with heap := h', toks := tk' }) :
    wpAny (model prog w) A (pyNext (.ref M)) Q E s := by
  have hTy : s.TypeIs (.ref M) "filter" := ⟨_, hb _ _ hMI hz, rfl⟩
  unfold pyNext
  refine wpAny_bind (wpAny_attempt (wpAny_callSpecial?_slot (name := Str.ofString "__next__") hTy slot_filter_next (wpAny_call ?_)))
  refine codeAny_call_builtin_code (plainId_quiet plain_filter_next _) (slot_filter_next.check _ _ _ _ _ _ _ _ hTy (args_filter_next _) ?_)
  refine filter_run hh hz hl hMI hlI hf (xs.size - j) j s rfl hit hb ?_ ?_
  · intro m x h' tk' h1 h2 h3 h4 h5 h6
    exact wpAny_pure (hI m x h' tk' h1 h2 h3 h4 h5 h6)
  · intro hno h' tk' e hk' he
    obtain ⟨o, ho, hc⟩ := he
    refine wpAny_bind (wpAny_isInstance (T := "StopIteration") (b := true) ⟨o, ho, hc⟩ isSubtype_stop ?_)
    exact wpAny_pure (hEnd hno h' tk' hk')
end
end Mine
end

section
namespace Mine
open PySem.F
/-- how many are kept ahead of a place -/
def keptN (p : Nat → Bool) (j : Nat) : Nat := (kept p j).length
theorem keptN_succ (p : Nat → Bool) (j : Nat) : keptN p (j + 1) = keptN p j + (if p j then 1 else 0) := by
  unfold keptN kept
  rw [List.range_succ, List.filter_append, List.length_append]
  cases h : p j <;> simp [h]
theorem keptN_mono (p : Nat → Bool) {j : Nat} : ∀ {m : Nat}, j ≤ m → keptN p j ≤ keptN p m
  | 0, h => by rw [Nat.le_zero.mp h]; exact Nat.le_refl _
  | m + 1, h => by
    rcases Nat.lt_or_eq_of_le h with h | h
    · have := keptN_mono p (Nat.le_of_lt_succ h)
      rw [keptN_succ]; omega
    · rw [h]; exact Nat.le_refl _
theorem keptN_same (p : Nat → Bool) {j : Nat} : ∀ {m : Nat}, j ≤ m → (∀ i, j ≤ i → i < m → p i = false) → keptN p m = keptN p j
  | 0, h, _ => by rw [Nat.le_zero.mp h]
  | m + 1, h, hn => by
    rcases Nat.lt_or_eq_of_le h with h | h
    · rw [keptN_succ, hn m (by omega) (by omega), keptN_same p (Nat.le_of_lt_succ h) fun i h1 h2 => hn i h1 (by omega)]; simp
    · rw [h]
theorem kept_at (p : Nat → Bool) {m n : Nat} (h : m < n) (hp : p m = true) : (kept p n)[keptN p m]? = some m := by
  have e : List.range n = List.range m ++ m :: ((List.range (n - m - 1)).map Nat.succ).map (m + ·) := by
    have h1 : n = m + ((n - m - 1) + 1) := by omega
    conv => lhs; rw [h1, List.range_add, List.range_succ_eq_map]
    simp
  unfold kept keptN
  rw [e, List.filter_append, List.filter_cons, if_pos hp]
  unfold kept
  simp
section
variable {prog : Program} {w : World} {A : Around} {E : Value → Shared → Prop} {s : Shared}
theorem filter_iter {M I : Addr} {f : Value} {Q : Value → Shared → Prop} (hz : s.heap.get? M = some (filObj f I)) (h : Q (.ref M) s) : wpAny (model prog w) A (pyIter (.ref M)) Q E s := by
  have hT : s.TypeIs (.ref M) "filter" := ⟨_, hz, rfl⟩
  refine wpAny_pyIter_slot hT slot_filter_iter (wpAny_call_entry slot_filter_iter hT entry_filter_iter ?_ (args_filter_iter _))
  show wpAny _ _ (ret (.ref M)) _ _ s
  exact wpAny_pure ⟨_, rfl, "filter", _, hT, slot_filter_next.lookup, h⟩
theorem Walks.filter (hh : A.handled = none) {base : Heap} {M I l X : Addr} {xs : Array Value} {p : Nat → Bool}
    (hz : base.get? M = some (filObj (.ref X) I)) (hl : base.IsList l xs) (hI : base.get? I = some (lisObj l))
    (hf : ∀ i x, xs[i]? = some x → TellsOn prog w A.in1 base I (.ref X) x (p i)) :
    Walks prog w A M (List.range base.objs.size) [I] (keptN p xs.size) (fun i v => ∃ m, (kept p xs.size)[i]? = some m ∧ xs[m]? = some v)
      (fun i h => ∃ j, h.IsListIter I l j ∧ (∀ b o, b ≠ I → base.get? b = some o → h.get? b = some o) ∧ j ≤ xs.size ∧ keptN p j = i) := by
  have hMI : M ≠ I := by rintro rfl; rw [hz] at hI; simp at hI
  have hlI : l ≠ I := by rintro rfl; obtain ⟨o, ho, hc, _⟩ := hl; rw [hI] at ho; cases ho; simp at hc
  exact {
    sub := fun b hb => by
      rw [List.mem_singleton.mp hb]; exact List.mem_range.mpr (Heap.lt_size hI)
    frame := fun i h h' st hk => by
      obtain ⟨j, h1, h2, h3⟩ := st
      exact ⟨j, h1.at fun o e => hk I (List.mem_range.mpr (Heap.lt_size hI)) o e, fun b o hb e => hk b (List.mem_range.mpr (Heap.lt_size e)) o (h2 b o hb e), h3⟩
    item := fun i s Q E hi st hQ => by
      obtain ⟨j, h1, h2, h3, h4⟩ := st
      refine filter_next hh hz hl hMI hlI hf h1 h2 ?_ ?_
      · intro m x h' tk' hm hx hp hno hit hk
        have hlt : m < xs.size := by
          have := Array.getElem?_eq_some_iff.mp hx
          exact this.1
        have e1 := keptN_same p hm hno
        refine hQ x h' tk' ⟨m, ?_, hx⟩ ⟨m + 1, hit, fun b o hb e => hk b o hb (h2 b o hb e), hlt, by rw [keptN_succ, hp, e1, h4]; simp⟩ fun b o hb e => hk b o (by simpa using hb) e
        have := kept_at p hlt hp
        rw [e1, h4] at this
        exact this
      · intro hno h' tk' hk
        have := keptN_same p h3 hno
        omega
    done := fun s Q E st hQ => by
      obtain ⟨j, h1, h2, h3, h4⟩ := st
      refine filter_next hh hz hl hMI hlI hf h1 h2 ?_ ?_
      · intro m x h' tk' hm hx hp hno hit hk
        exfalso
        have hlt : m < xs.size := by
          have := Array.getElem?_eq_some_iff.mp hx
          exact this.1
        have a := keptN_mono p (show m + 1 ≤ xs.size from hlt)
        have b := keptN_mono p hm
        rw [keptN_succ, hp] at a
        simp at a
        omega
      · intro hno h' tk' hk
        exact hQ h' tk' fun b o hb e => hk b o (by simpa using hb) e
    self := fun i s Q E st hQ => by
      obtain ⟨j, h1, h2, h3, h4⟩ := st
      exact filter_iter (h2 _ _ hMI hz) hQ }
theorem kept_ext {p : Nat → Bool} {n : Nat} {xs : Array Value} {more : List Value} (hl : more.length = keptN p n) (h : ∀ (j : Nat) (v : Value), more[j]? = some v → ∃ m : Nat, (kept p n)[j]? = some m ∧ xs[m]? = some v) : more = (kept p n).filterMap (fun m => xs[m]?) := by
  have hk : ∀ (ks : List Nat) (more : List Value), more.length = ks.length → (∀ (j : Nat) (v : Value), more[j]? = some v → ∃ m : Nat, ks[j]? = some m ∧ xs[m]? = some v) → more = ks.filterMap (fun m => xs[m]?) := by
    intro ks
    induction ks with
    | nil => intro more hl _; exact List.length_eq_zero_iff.mp hl
    | cons k ks ih =>
      intro more hl h
      cases more with
      | nil => cases hl
      | cons v more =>
        obtain ⟨m, h1, h2⟩ := h 0 v rfl
        obtain rfl : k = m := by simpa using h1
        rw [List.filterMap_cons, h2]
        have := ih more (by simpa using hl) (fun j u hj => by simpa using h (j + 1) u (by simpa using hj))
        rw [← this]
  exact hk _ _ hl h
/-- list(filter(f, l)), the filter made -/
theorem list_filter {M I l X : Addr} {xs : Array Value} {p : Nat → Bool} {Q : Value → Shared → Prop} (hh : A.handled = none)
    (hz : s.heap.get? M = some (filObj (.ref X) I)) (hl : s.heap.IsList l xs) (hI : s.heap.get? I = some (lisObj l)) (hn : xs.size < sizeLine)
    (hf : ∀ i x, xs[i]? = some x → TellsOn prog w A.in1.in1.in1 s.heap I (.ref X) x (p i))
    (hQ : ∀ h' tk' c', (∀ b o, b ≠ I → s.heap.get? b = some o → h'.get? b = some o) → h'.get? s.heap.objs.size = some (listOf ((kept p xs.size).filterMap (fun m => xs[m]?)).toArray c') →
      Q (.ref s.heap.objs.size) { s with heap := h', toks := tk' }) :
    wpAny (model prog w) A (call (.type "list") [.ref M]) Q E s := by
  have hMI : M ≠ I := by rintro rfl; rw [hz] at hI; simp at hI
  have hle : keptN p xs.size ≤ xs.size := by
    unfold keptN kept
    have := List.length_filter_le p (List.range xs.size)
    rwa [List.length_range] at this
  refine list_call (T := "filter") (by decide) (by decide) filter_no_len filter_no_hint (Walks.filter (A := A.in1.in1) hh hz hl hI hf) (fun i s st => ?_) (fun b hb => List.mem_range.mp hb) (List.mem_range.mpr (Heap.lt_size hz)) ⟨0, ⟨_, hI, rfl, rfl⟩, fun _ _ _ e => e, Nat.zero_le _, rfl⟩ (by omega) ?_
  · obtain ⟨j, _, h2, _⟩ := st
    exact ⟨_, h2 _ _ hMI hz, rfl⟩
  · intro h' tk' c' more hk h1 h2 h3
    rw [kept_ext h2 h3] at h1
    exact hQ h' tk' c' (fun b o hb e => hk b o (by simpa using hb) e) h1
end
end Mine
end

section
namespace Mine
section
variable {prog : Program} {w : World} {K : Type} [DecidableEq K] {knd : PySem.KeyKind prog w K} {A : Around} {R : Result → Shared → Prop} {I : Addr} {fp wr : List Addr} {G : Array GenState → Array GenState → Prop} {n : Nat} {P : Nat → Value → Prop} {St : Nat → Shared → Prop}
theorem SetOf_congrK {prog : Program} {w : World} {K : Type} [DecidableEq K] {knd : PySem.KeyKind prog w K} {h : Heap} {a : Addr} {S S' : K → Bool} {n : Nat} (hS : h.SetOf knd a S n) (e : ∀ k, S k = S' k) : h.SetOf knd a S' n := (funext e : S = S') ▸ hS
/-- The loop of set.update, for keys of any kind: the set afterwards holds the walk's first n keys. -/
theorem set_update_loopK (W : WalksS prog w A.in1 I fp wr G n P St) (S : Addr) (hSf : S ∉ fp)
    (val : Nat → K) (hval : ∀ i v, P i v → knd.is (val i) v = true ∧ v.scannable = true) (hb : n + 1 < scanBound) :
    ∀ (k i : Nat) (s : Shared), n - i = k → i ≤ n → St i s →
      (∃ c, c ≤ i ∧ s.heap.SetOf knd S (fun k' => decide (k' ∈ (List.range i).map val)) c) →
      (∀ s', Moved (S :: wr) G s s' → (∃ c, c ≤ n ∧ s'.heap.SetOf knd S (fun k' => decide (k' ∈ (List.range n).map val)) c) → R (.ok (.ret .none)) s') →
      codeAny (model prog w) A (.builtin "set.update.loop" ⟨[.ref S, .ref I], []⟩) R s := by
  have hSw : S ∉ wr := fun h => hSf (W.sub _ h)
  have hsub : ∀ b ∈ wr, b ∈ S :: wr := fun b hb => List.mem_cons_of_mem _ hb
  intro k
  induction k with
  | zero =>
    intro i s hk hi hst hS hR
    have hin : i = n := by omega
    subst hin
    refine codeAny_builtin F.entry_set_update_loop ?_
    rw [Around.under_plainId F.plain_set_update_loop _]
    show wpAny _ A.in1 (pyNext (.ref I) >>= _) _ _ s
    refine wpAny_bind (W.done s _ _ hst fun s' hm => ?_)
    show wpAny _ A.in1 (ret Value.none) _ _ s'
    exact wpAny_pure (hR s' (hm.mono hsub) (by
      obtain ⟨c, hc, o, es, ep, t, ho, rest⟩ := hS
      exact ⟨c, hc, o, es, ep, t, hm.heap S _ hSw ho, rest⟩))
  | succ k ih =>
    intro i s hk hi hst hS hR
    have hlt : i < n := by omega
    refine codeAny_builtin F.entry_set_update_loop ?_
    rw [Around.under_plainId F.plain_set_update_loop _]
    show wpAny _ A.in1 (pyNext (.ref I) >>= _) _ _ s
    refine wpAny_bind (W.item i s _ _ hlt hst fun v s' hP hst' hm => ?_)
    obtain ⟨hk1, hk2⟩ := hval i v hP
    obtain ⟨c, hc, hS'⟩ : ∃ c, c ≤ i ∧ s'.heap.SetOf knd S (fun k' => decide (k' ∈ (List.range i).map val)) c := by
      obtain ⟨c, hc, o, es, ep, tb, ho, rest⟩ := hS
      exact ⟨c, hc, o, es, ep, tb, hm.heap S _ hSw ho, rest⟩
    show wpAny _ A.in1 (holding [v] (setAdd S v) >>= _) _ _ s'
    refine wpAny_bind (wpAny_holding ?_)
    unfold setAdd
    refine wpAny_holding ?_
    refine wpAny_bind (knd.pyHash (k := val i) hk1 ?_)
    refine wpAny_setAddHashed_of (knd := knd) (s := { s' with toks := s'.toks + 1 }) hk1 hk2 hS' (by omega) fun h' hsb hS2 => ?_
    refine wpAny_pure ⟨plainId_quiet F.plain_set_update_loop _, ih (i + 1) _ (by omega) hlt (W.frame _ s' _ _ hst' (Nat.le_succ _) fun b hb o e => ?_) ⟨_, ?_, SetOf_congrK hS2 fun k' => ?_⟩ fun s'' hm'' hS'' => ?_⟩
    · rw [hsb.2 b (fun h : b = S => hSf (by rw [← h]; exact hb))]; exact e
    · split <;> omega
    · rw [List.range_succ, List.map_append, List.map_singleton, ← Bool.decide_or]
      simp only [List.mem_append, List.mem_singleton]
    · refine hR s'' (Moved.trans W.gtrans ((hm.mono hsub).then_heap (Nat.le_succ _) fun b o hb e => ?_) hm'') hS''
      rw [hsb.2 b (fun h : b = S => hb (by rw [h]; exact List.mem_cons_self))]; exact e
end
end Mine
end

section
namespace Mine
section
variable {prog : Program} {w : World} {K : Type} [DecidableEq K] {knd : PySem.KeyKind prog w K} {A : Around} {E : Value → Shared → Prop} {s : Shared}
abbrev setObj0 (led : Bool) : Obj := { cls := .type "set", dict := none, data := .set #[] 0 (.fresh 0 0 led) }
/-- set.__init__ of a fresh set with a list of keys of one kind. -/
theorem set_init_list {S l : Addr} {led : Bool} {items : Array Value} {val : Nat → K} {Q : PySem.Fin → Shared → Prop}
    (hh : A.handled = none) (hS : s.heap.get? S = some (setObj0 led)) (hl : s.heap.IsList l items) (hSl : S ≠ l)
    (hval : ∀ i v, items[i]? = some v → knd.is (val i) v = true ∧ v.scannable = true) (hb : items.size + 1 < scanBound)
    (h : ∀ h' tk c, c ≤ items.size → h'.SetOf knd S (fun k' => decide (k' ∈ (List.range items.size).map val)) c →
      (∀ b o, b ≠ S → s.heap.get? b = some o → h'.get? b = some o) → Q (.done (.ret .none)) { s with heap := h', toks := tk }) :
    wpAny (model prog w) A (Builtin.«set.__init__» ⟨[.ref S, .ref l], []⟩) Q E s := by
  obtain ⟨ol, hol, hcl, nl, hdl⟩ := hl
  obtain ⟨ocls, odict, odata, oslots⟩ := ol
  simp only at hcl hdl
  subst hcl; subst hdl
  have hsls := PySem.F.sub_list_set
  have hslf := PySem.F.sub_list_frozenset
  have hne : (Value.type "list" == Value.type "dict") = false := by decide
  have hl1 : s.heap.IsList l items := ⟨_, hol, rfl, nl, rfl⟩
  unfold Builtin.«set.__init__» noKeywords Builtin.Frozenset.updateFrom
  generalize hPI : pyIter = PI
  wp_walk
  subst hPI
  refine wpAny_pyIter_list hl1 ?_
  refine wpAny_bind (wpAny_runValue ?_)
  have hlS : l < s.heap.objs.size := Heap.lt_size hol
  have hSS : S < s.heap.objs.size := Heap.lt_size hS
  have hneI : l ≠ s.heap.objs.size := Nat.ne_of_lt hlS
  have hSf : S ∉ [s.heap.objs.size, l] := by
    simp only [List.mem_cons, List.not_mem_nil, or_false, not_or]
    exact ⟨Nat.ne_of_lt hSS, hSl⟩
  refine set_update_loopK (knd := knd) ((Walks.list (by simp [hh]) _ l hneI items).toS) S hSf val hval hb (items.size - 0) 0 _ (by omega) (Nat.zero_le _)
    ⟨⟨_, Heap.get?_push_size _ rfl, rfl, rfl⟩, hl1.push _⟩ ⟨0, Nat.le_refl 0, ?_⟩ ?_
  · exact SetOf_congrK ((setObjOf_fresh (knd := knd) led).setOf (Heap.get?_push_of_some _ hS) (by unfold scanBound; omega)) fun k' => by simp
  · rintro ⟨h', g', d', tk', os'⟩ hm ⟨c, hc, hS'⟩
    have eg : g' = s.gens := hm.gens
    have ed : d' = s.drawn := hm.drawn
    have eo : os' = s.os := hm.os
    subst eg; subst ed; subst eo
    show wpAny _ _ _ _ _ _
    refine wpAny_pure ?_
    show wpAny _ _ (ret Value.none) _ _ _
    refine wpAny_pure (h h' tk' c hc hS' fun b o hb e => ?_)
    have hb2 : b ≠ s.heap.objs.size := Nat.ne_of_lt (Heap.lt_size e)
    exact hm.heap b o (by simp only [List.mem_cons, List.not_mem_nil, or_false, not_or]; exact ⟨hb, hb2⟩) (Heap.get?_push_of_some _ e)
end
end Mine
end

section
namespace Mine
section
variable {prog : Program} {w : World} {K : Type} [DecidableEq K] {knd : PySem.KeyKind prog w K} {A : Around} {E : Value → Shared → Prop} {s : Shared} {h₀ : Heap} {L : Addr} {m : Str → Option Value} {news : List (Addr × Obj)}
set_option maxHeartbeats 3200000 in
/-- set(l) of a list of keys of one kind. -/
theorem call_set_listK {l : Addr} {items : Array Value} {val : Nat → K} {Q : Value → Shared → Prop}
    (hh : A.handled = none) (hl : s.heap.IsList l items)
    (hval : ∀ i v, items[i]? = some v → knd.is (val i) v = true ∧ v.scannable = true) (hb : items.size + 1 < scanBound)
    (h : ∀ h' tk c, c ≤ items.size → h'.SetOf knd s.heap.objs.size (fun k' => decide (k' ∈ (List.range items.size).map val)) c →
      (∀ b o, b < s.heap.objs.size → s.heap.get? b = some o → h'.get? b = some o) → Q (.ref s.heap.objs.size) { s with heap := h', toks := tk }) :
    wpAny (model prog w) A (call (.type "set") [.ref l]) Q E s := by
  obtain ⟨c, tl, hmro⟩ := PySem.F.called_set.mro
  have hmade := PySem.F.called_set.made
  have hsub := PySem.F.called_set.sub
  have h1 := PySem.F.called_set.notType
  have h2 := PySem.F.called_set.canCreate
  have hct := PySem.F.typeCall_set_1 (.ref l)
  refine wpAny_call (codeAny_of_tree ?_)
  show wpAny _ _ (callAny (.type "set") _) _ _ _
  refine wpAny_pure ⟨Code.quiet_builtin _ (by decide +kernel), codeAny_builtin PySem.F.entry_type_call ?_⟩
  rw [Around.under_plain (weight_type_call_type "set" [.ref l] []) rfl]
  repeat (any_goals (first | assumption | wp_step))
  refine codeAny_mono (code_set_new_1 (.ref l) (E := E) (Q₁ := fun obj s₁ => ∃ led : Bool, obj = .ref s.heap.objs.size ∧ s₁ = { s with heap := s.heap.push (setObj0 led) }) fun led => ⟨led, rfl, rfl⟩) fun r s₁ hr => ?_
  cases r with
  | error e => exact hr
  | ok fl =>
    cases fl with
    | ret obj =>
      obtain ⟨led, rfl, rfl⟩ := hr
      have hS : (s.heap.push (setObj0 led)).get? s.heap.objs.size = some (setObj0 led) := Heap.get?_push_size _ rfl
      have hT : Shared.TypeIs { s with heap := s.heap.push (setObj0 led) } (.ref s.heap.objs.size) "set" := ⟨_, hS, rfl⟩
      have hli := PySem.F.called_set.init.lookup
      have hbi := PySem.F.called_set.init.bind (.ref s.heap.objs.size)
      have hlS : l < s.heap.objs.size := by obtain ⟨o, ho, _⟩ := hl; exact Heap.lt_size ho
      repeat (any_goals (first | assumption | wp_step))
      refine codeAny_mono (codeAny_call_builtin (R := wants (fun r s₂ => r = .none ∧ ∃ h' tk c, s₂ = { s with heap := h', toks := tk } ∧ c ≤ items.size ∧
          h'.SetOf knd s.heap.objs.size (fun k' => decide (k' ∈ (List.range items.size).map val)) c ∧
          (∀ b o, b < s.heap.objs.size → s.heap.get? b = some o → h'.get? b = some o)) E) PySem.F.called_set.init.plain PySem.F.entry_set_init (check_set_init_1 hT ?_)) fun r₂ s₂ hr₂ => ?_
      · refine set_init_list (knd := knd) (by simp [hh]) hS (hl.push _) (Nat.ne_of_gt hlS) hval hb fun h' tk c hc hS' hk => ?_
        exact ⟨rfl, h', tk, c, rfl, hc, hS', fun b o hb e => hk b o (Nat.ne_of_lt hb) (Heap.get?_push_of_some _ e)⟩
      · cases r₂ with
        | error e => exact hr₂
        | ok fl₂ =>
          cases fl₂ with
          | ret r =>
            obtain ⟨rfl, h', tk, c, rfl, hc, hS', hk'⟩ := hr₂
            repeat (any_goals (first | assumption | wp_step))
            exact h _ _ _ hc hS' hk'
          | _ => exact hr₂.elim
    | _ => exact hr.elim
/-- The same on a ledger: the list stands in it. -/
theorem newSetK_L {l : Addr} {nl : Nat} {vs : List Value} {val : Nat → K} {Q : Value → Shared → Prop} (F : Fr h₀ L s.heap m) (N : News h₀ L s.heap news)
    (hh : A.handled = none) (hm : (l, listOf vs.toArray nl) ∈ news)
    (hval : ∀ i v, vs.toArray[i]? = some v → knd.is (val i) v = true ∧ v.scannable = true) (hb : vs.length + 1 < scanBound)
    (h : ∀ h' (tk : Nat) o c, Fr h₀ L h' m → News h₀ L h' ((s.heap.objs.size, o) :: news) → c ≤ vs.length →
      o.SetObjOf knd (fun k' => decide (k' ∈ (List.range vs.length).map val)) c →
      Q (.ref s.heap.objs.size) { s with heap := h', toks := tk }) :
    wpAny (model prog w) A (call (.type "set") [.ref l]) Q E s := by
  have hsz : vs.toArray.size = vs.length := List.size_toArray
  refine call_set_listK (items := vs.toArray) (knd := knd) (val := val) hh ⟨_, (N _ hm).1, rfl, nl, rfl⟩ hval (by rw [hsz]; exact hb) fun h' tk c hc hS hk => ?_
  rw [hsz] at hS hc
  obtain ⟨o, ho, hso⟩ := hS.objOf
  obtain ⟨oL, _, _, hL, _⟩ := F.ns
  have hLlt : L < s.heap.objs.size := Heap.lt_size hL
  refine h h' tk o c ⟨F.ns.at' fun o' e => hk L o' hLlt e, fun b o' e => hk b o' (Heap.lt_size (F.keep b o' e)) (F.keep b o' e), F.above⟩ (fun p hp => ?_) hc hso
  rcases List.mem_cons.mp hp with rfl | hp
  · refine ⟨ho, Nat.ne_of_gt hLlt, ?_⟩
    cases hq : h₀.get? s.heap.objs.size with
    | none => rfl
    | some o' => exact absurd (Heap.lt_size (F.keep _ _ hq)) (Nat.lt_irrefl _)
  · exact ⟨hk _ _ (Heap.lt_size (N p hp).1) (N p hp).1, (N p hp).2.1, (N p hp).2.2⟩
end
end Mine
end

section
namespace Mine
open PySem.F
section
variable {prog : Program} {w : World} {K : Type} [DecidableEq K] {knd : PySem.KeyKind prog w K} {A : Around}
/-- The bound `__contains__` of a set tells whether the key lies in it. -/
theorem tells_bound {base : Heap} {I X S : Addr} {T : K → Bool} {n : Nat} {k : K} {key : Value} (hXI : X ≠ I) (hSI : S ≠ I) (hX : base.get? X = some (boundC S)) (hS : base.SetOf knd S T n) (hk : knd.is k key = true) (hsc : key.scannable = true) :
    TellsOn prog w A base I (.ref X) key (T k) := by
  intro s Q E hb hQ
  refine call_bound (knd := knd) (n := n) (hb X _ hXI hX) hk hsc ?_ (hQ s.heap _ (Grow.refl _))
  obtain ⟨o, es, ep, t, ho, rest⟩ := hS
  exact ⟨o, es, ep, t, hb S _ hSI ho, rest⟩
theorem kept_succ (p : Nat → Bool) (n : Nat) : kept p (n + 1) = kept p n ++ (if p n then [n] else []) := by
  unfold kept
  rw [List.range_succ, List.filter_append]
  cases h : p n <;> simp [h]
/-- The kept items of a list are its filter. -/
theorem kept_filter {α : Type} (f : α → Value) (q : α → Bool) (p : Nat → Bool) (ys : List α) (hp : ∀ i y, ys[i]? = some y → p i = q y) :
    (kept p ys.length).filterMap (fun m => (ys.map f).toArray[m]?) = (ys.filter q).map f := by
  have hk : ∀ (zs : List α) (n : Nat), n ≤ ys.length → zs = ys.take n → (kept p n).filterMap (fun m => (ys.map f).toArray[m]?) = (zs.filter q).map f := by
    intro zs n
    induction n generalizing zs with
    | zero => intro _ e; subst e; rfl
    | succ n ih =>
      intro hn e
      have hlt : n < ys.length := by omega
      have hy : ys[n]? = some ys[n] := List.getElem?_eq_getElem hlt
      have hi := ih (ys.take n) (by omega) rfl
      rw [e, List.take_succ, hy, kept_succ, List.filterMap_append, hi, List.filter_append, List.map_append, hp n _ hy]
      congr 1
      cases hq : q ys[n] <;> simp [hq, hlt]
  exact hk ys _ (Nat.le_refl _) (List.take_length).symm
end
end Mine
end

section
namespace Mine
open PySem.F
theorem fr_grow {h₀ h h' : Heap} {L : Addr} {m : Str → Option Value} (F : Fr h₀ L h m) (g : Grow h h') : Fr h₀ L h' m :=
  ⟨F.ns.at' fun o e => g L o e, fun b o e => g b o (F.keep b o e), F.above⟩
theorem news_grow {h₀ h h' : Heap} {L : Addr} {news : List (Addr × Obj)} (N : News h₀ L h news) (g : Grow h h') : News h₀ L h' news :=
  fun p hp => ⟨g _ _ (N p hp).1, (N p hp).2⟩
theorem news_more {h₀ h h' : Heap} {L : Addr} {m : Str → Option Value} {news : List (Addr × Obj)} {D : Addr} {o : Obj} (F : Fr h₀ L h m) (N : News h₀ L h' news) (hD : h.objs.size ≤ D) (ho : h'.get? D = some o) : News h₀ L h' ((D, o) :: news) := by
  intro p hp
  rcases List.mem_cons.mp hp with rfl | hp
  · obtain ⟨oL, _, _, hL, _⟩ := F.ns
    refine ⟨ho, Nat.ne_of_gt (Nat.lt_of_lt_of_le (Heap.lt_size hL) hD), ?_⟩
    cases hq : h₀.get? D with
    | none => rfl
    | some o' => exact absurd (Heap.lt_size (F.keep _ _ hq)) (Nat.not_lt.mpr hD)
  · exact N p hp
section
variable {prog : Program} {w : World} {K : Type} [DecidableEq K] {knd : PySem.KeyKind prog w K} {A : Around} {E : Value → Shared → Prop} {s : Shared} {h₀ : Heap} {L : Addr} {m : Str → Option Value} {news : List (Addr × Obj)}
theorem attr_contains_L {S : Addr} {oS : Obj} {T : K → Bool} {n : Nat} {Q : Value → Shared → Prop} (F : Fr h₀ L s.heap m) (N : News h₀ L s.heap news) (hm : (S, oS) ∈ news) (hso : oS.SetObjOf knd T n) (hn : n < scanBound)
    (h : ∀ h' tk, Fr h₀ L h' m → News h₀ L h' ((s.heap.objs.size, boundC S) :: news) → Q (.ref s.heap.objs.size) { s with heap := h', toks := tk }) :
    wpAny (model prog w) A (getAttr (.ref S) (Str.ofString "__contains__") true) Q E s := by
  obtain ⟨es, ep, tb, ho⟩ := set_shape (hso.setOf (N _ hm).1 hn)
  refine attr_contains ho fun tk => h _ tk (F.push _) ?_
  exact news_more F (N.pushKeep _) (Nat.le_refl _) (Heap.get?_push_size _ rfl)
theorem call_filter_L {f : Value} {l : Addr} {c : Nat} {vs : List Value} {Q : Value → Shared → Prop} (F : Fr h₀ L s.heap m) (N : News h₀ L s.heap news) (hm : (l, listOf vs.toArray c) ∈ news)
    (h : ∀ h', Fr h₀ L h' m → News h₀ L h' ((s.heap.objs.size + 1, filObj f s.heap.objs.size) :: (s.heap.objs.size, lisObj l) :: news) → Q (.ref (s.heap.objs.size + 1)) { s with heap := h' }) :
    wpAny (model prog w) A (call (.type "filter") [f, .ref l]) Q E s := by
  refine call_filter (xs := vs.toArray) ⟨_, (N _ hm).1, rfl, c, rfl⟩ fun h' g1 g2 g => h h' (fr_grow F g) ?_
  exact news_more F (news_more F (news_grow N g) (Nat.le_refl _) g2) (Nat.le_succ _) g1
theorem list_filter_L {α : Type} {M I l X S : Addr} {oS : Obj} {c : Nat} {ys : List α} {f : α → Value} {key : α → K} {T : K → Bool} {n : Nat} {Q : Value → Shared → Prop} (hh : A.handled = none) (F : Fr h₀ L s.heap m)
    (N : News h₀ L s.heap ((M, filObj (.ref X) I) :: (I, lisObj l) :: news)) (hl : (l, listOf (ys.map f).toArray c) ∈ news) (hX : (X, boundC S) ∈ news) (hS : (S, oS) ∈ news) (hso : oS.SetObjOf knd T n) (hn : n < scanBound)
    (hI : ∀ p ∈ news, p.1 ≠ I) (hys : ys.length < sizeLine) (hval : ∀ y ∈ ys, knd.is (key y) (f y) = true ∧ (f y).scannable = true)
    (h : ∀ h' tk c', Fr h₀ L h' m → News h₀ L h' ((s.heap.objs.size, listOf ((ys.filter (fun y => T (key y))).map f).toArray c') :: news) → Q (.ref s.heap.objs.size) { s with heap := h', toks := tk }) :
    wpAny (model prog w) A (call (.type "list") [.ref M]) Q E s := by
  have hM := (N _ (.head _)).1
  have hIo := (N _ (.tail _ (.head _)))
  have N' : News h₀ L s.heap news := fun p hp => N p (.tail _ (.tail _ hp))
  have hSz : (ys.map f).toArray.size = ys.length := by simp
  have hSet := hso.setOf (N' _ hS).1 hn
  refine list_filter (p := fun i => match ys[i]? with | some y => T (key y) | none => false) hh hM ⟨_, (N' _ hl).1, rfl, c, rfl⟩ hIo.1 (by rw [hSz]; exact hys) ?_ ?_
  · intro i x hx
    rw [List.getElem?_toArray, List.getElem?_map] at hx
    obtain ⟨y, hy, rfl⟩ := Option.map_eq_some_iff.mp hx
    have hv := hval y (List.mem_of_getElem? hy)
    rw [hy]
    exact tells_bound (knd := knd) (hI _ hX) (hI _ hS) (N' _ hX).1 hSet hv.1 hv.2
  · intro h' tk c' hk hD
    have hkf := kept_filter f (fun y => T (key y)) (fun i => match ys[i]? with | some y => T (key y) | none => false) ys (fun i y hy => by rw [hy])
    rw [hSz, hkf] at hD
    refine h h' tk c' ⟨F.ns.at' fun o e => hk L o (Ne.symm hIo.2.1) e, fun b o e => hk b o (fun hb => by subst hb; rw [hIo.2.2] at e; cases e) (F.keep b o e), F.above⟩ ?_
    exact news_more F (fun p hp => ⟨hk _ _ (hI p hp) (N' p hp).1, (N' p hp).2⟩) (Nat.le_refl _) hD
end
end Mine
end

section
open PySem.Calls
namespace Mine
/-- a way of a call's end: what it says of the ghost and of the heap behind; cells that were handed over stand as they were -/
def PuRX (s : Shared) (cells : List (Addr × Obj)) (g : Heap) (V : Heap → Heap → Value → Prop) (r : Result) (s' : Shared) : Prop :=
  match r with | .ok (.ret v) => V g s'.heap v ∧ (∃ h' tk', s' = { s with heap := h', toks := tk' }) ∧ ∀ q ∈ cells, s'.heap.get? q.1 = some q.2 | _ => False
section
variable {prog : Program} {w : World} {A A₀ : Around} {E : Value → Shared → Prop} {s : Shared} {K : Frag} {L : Addr} {h₀ base : Heap} {m mg mb : Str → Option Value} {p : Program} {loose : List Str} {mean : ExcName → Option Value}
abbrev ghost (s : Shared) (cells : List (Addr × Obj)) : Heap := hideAll s.heap (cells.map (fun q : Addr × Obj => q.1))
theorem ghost_none {s : Shared} {cells : List (Addr × Obj)} {D : Addr} (h : (ghost s cells).get? D = none) (hc : ∀ q ∈ cells, q.1 ≠ D) : s.heap.get? D = none := by
  cases e : s.heap.get? D with
  | none => rfl
  | some o =>
    have := hideAll_get (cells.map (fun q : Addr × Obj => q.1)) e (by
      intro hm
      obtain ⟨q, hq, e'⟩ := List.mem_map.mp hm
      exact hc q hq e')
    rw [h] at this; cases this
theorem grow_of {cells : List (Addr × Obj)} {h' : Heap} (N : News h₀ L s.heap cells) (hk : ∀ b o, (ghost s cells).get? b = some o → h'.get? b = some o) (hc : ∀ q ∈ cells, h'.get? q.1 = some q.2) : Grow s.heap h' := fun b o e => by
  by_cases hb : b ∈ cells.map (fun q : Addr × Obj => q.1)
  · obtain ⟨q, hq, rfl⟩ := List.mem_map.mp hb
    have e' := (N q hq).1
    rw [e] at e'
    cases e'
    exact hc q hq
  · exact hk b o (hideAll_get _ e hb)

/-- a def with cells of its own -/
theorem code_pureX {env : Env} {outer : List Env} {R : Result → Shared → Prop} {name qual : Str} {params : Arguments} {body : List Stmt} {scope : Scope} {dV kV doc pm cdv ct oc : Value} {an od : Option Addr} {osl : Array (Option Value)} {f : Addr} {args : Args} {binds : List (Str × Value)} {cells : List (Addr × Obj)}
    (V : Heap → Heap → Value → Prop) (hR : ∀ v h' tk', V (ghost s cells) h' v → Grow s.heap h' → R (.ok (.ret v)) { s with heap := h', toks := tk' })
    (B : Below A₀ base outer h₀) (F : Fr h₀ L s.heap m) (X₀ : K.In h₀) (N : News h₀ L s.heap cells) (T : Top p loose mean mg mb h₀) (hA : A.frames = some (env :: outer)) (hf : env.frame = some L) (hke : env.scope.kind = .function)
    (ho : K.lookup f = some ⟨oc, od, .func (fnOf name qual params body scope dV kV doc pm an cdv ct), osl⟩) (hcd : codeIn K cdv qual = true) (hroom : A.depth < recursionLimit)
    (hbind : BindsTo s (fnOf name qual params body scope dV kV doc pm an cdv ct) args binds) (hkind : (binds.all fun y => scope.names.lookup y.1 == some .local || scope.names.lookup y.1 == some .cell) = true)
    (hnd : ((cellsFrom 0 scope.names []).map (·.1)).Nodup)
    (h : ∀ g L' h₁ tk cs, Fr h₀ L g m → Fr g L' h₁ (bindL (envOfC qual scope L' f cdv).kindOf binds fun _ => none) → News g L' h₁ (cs ++ cells) →
      CellsAre (bindC (envOfC qual scope L' f cdv).kindOf binds fun _ => none) (cellsFrom (L' + 1) scope.names []) cs → Below A base (env :: outer) g → K.In g → Top p loose mean mg mb g → (∀ p ∈ cells, p.1 < L') →
      wpAny (model prog w) (A.deeper (envOfC qual scope L' f cdv)) (execs body (envOfC qual scope L' f cdv))
        (fun fl s' => LeaveK h₀ L m g (PuRX s cells g V) (match fl with | .ret v => v | _ => .none) s')
        (fun _ _ => False)
        { s with heap := h₁, toks := tk })
    (hco : scope.isCoroutine = false) (hgen : scope.isGenerator = false) (hk : scope.kind = .function) : codeAny (model prog w) A (.call (.ref f) args) R s := by
  obtain ⟨FG, BG, st, lv⟩ := groundX (R := PuRX s cells (ghost s cells) V) B F N hA hf hke
  have X := X₀.keeps F.keep
  have hcd' := codeRec_of X hcd
  have hlim := T.nolimit
  refine codeAny_call_function hroom (X _ _ ho) rfl hco hgen rfl hcd' (hbind _ _ _ _ ?_)
  refine wpAny_newFunctionEnv_cells hk (kindsX hkind _) fun env' he s' x => ?_
  subst he
  refine ⟨(hlim.keeps F.keep).keeps x.toInCall.keep, codeAny_func ?_⟩
  obtain ⟨h₁, tk, rfl, _⟩ := x.done
  have hk₁ := x.toInCall.keep
  obtain ⟨cs, NC, Y⟩ := Cl.news (h₀ := s.heap) (Nat.le_refl _) fun n c hm => ⟨x.cell n c (lookup_of_mem_nodup (cellsFrom_names scope.names 0 (s.heap.objs.size + 1) [] [] rfl ▸ hnd) hm), x.above n c hm⟩
  refine wpAny_mono (h (ghost s cells) s.heap.objs.size h₁ tk cs FG ⟨x.toInCall.ns, fun b o e => hk₁ b o (of_hideAll _ e), Nat.le_of_eq (hideAll_size _ _)⟩ (fun p hp => ?_) Y BG (X₀.keeps st) (T.keeps st) (fun p hp => Heap.lt_size (N p hp).1)) (fun fl s' hl => ?_) fun _ _ y => y.elim
  · rcases List.mem_append.mp hp with hp | hp
    · refine ⟨(NC p hp).1, (NC p hp).2.1, ?_⟩
      cases q : (ghost s cells).get? p.1 with
      | none => rfl
      | some o => have := of_hideAll _ q; rw [(NC p hp).2.2] at this; cases this
    · exact ⟨hk₁ _ _ (N p hp).1, Nat.ne_of_lt (Heap.lt_size (N p hp).1), hideAll_none _ (List.mem_map_of_mem hp)⟩
  have hg : ∀ b o, (ghost s cells).get? b = some o → s'.heap.get? b = some o := by
    obtain ⟨_, _, _, F', _, _⟩ := hl
    exact F'.keep
  obtain ⟨hv, ⟨h', tk', rfl⟩, hc⟩ := lv _ _ hl
  exact hR _ _ _ hv (grow_of N hg hc)

/-- a def that reads cells and changes nothing that stood -/
abbrev PureFnX (n : Nat) (prog : Program) (w : World) (K : Frag) (p : Program) (loose : List Str) (mean : ExcName → Option Value) (mg mb : Str → Option Value) (f : Addr) (vs : List Value) (cells : List (Addr × Obj)) (V : Heap → Heap → Value → Prop) : Prop :=
  ∀ (dp un : Nat) (gd : Option (List Code)) (cn : Str) (cs : Scope) (a : Addr) (ccd : Value) (cl : List (Str × Addr)) (outer : List Env) (A₀ : Around) (base h₀ : Heap) (L : Addr) (m : Str → Option Value) (s : Shared) (Q E : Value → Shared → Prop),
    Below A₀ base outer h₀ → Fr h₀ L s.heap m → News h₀ L s.heap cells → K.In h₀ → Top p loose mean mg mb h₀ → cs.kind = .function → dp + n < recursionLimit → un + 8 * n < cLine →
      (∀ v h' tk', V (ghost s cells) h' v → Grow s.heap h' → Q v { s with heap := h', toks := tk' }) →
      wpAny (model prog w) (ktrTop dp un gd cn cs L a ccd cl outer) (call (.ref f) vs) Q E s

end

section
variable {prog : Program} {w : World} {A : Around} {h₀ : Heap} {L : Addr} {m : Str → Option Value} {env : Env} {ct elt : Expr} {x : Str} {scope : Scope} {cl : List (Str × Addr)} {s : Shared} {S : List (Addr × Obj) → Prop} {Fin : List Value → List (Addr × Obj) → Prop} {news : List (Addr × Obj)}
open LCg LCt
end
end Mine
end

section
open PySem.Calls
namespace Mine
/-- several new objects: what is said of them -/
def NewsX (cells : List (Addr × Obj)) (O : Value → List (Addr × Obj) → Prop) (g h' : Heap) (v : Value) : Prop :=
  ∃ more, O v more ∧ ∀ p ∈ more, g.get? p.1 = none ∧ (∀ q ∈ cells, q.1 ≠ p.1) ∧ h'.get? p.1 = some p.2
section
variable {prog : Program} {w : World} {A A₀ : Around} {E : Value → Shared → Prop} {s : Shared} {K : Frag} {L : Addr} {h₀ base : Heap} {m mg mb : Str → Option Value} {p : Program} {loose : List Str} {mean : ExcName → Option Value}
theorem use_newsX {k : Nat} {f : Addr} {vs : List Value} {O : Value → List (Addr × Obj) → Prop} {Q : Value → Shared → Prop} {dp un : Nat} {gd : Option (List Code)} {cn : Str} {cs : Scope} {a : Addr} {ccd : Value} {cl : List (Str × Addr)} {outer : List Env} {news cells : List (Addr × Obj)}
    (P : PureFnX k prog w K p loose mean mg mb f vs cells (NewsX cells O))
    (B : Below A₀ base outer h₀) (F : Fr h₀ L s.heap m) (N : News h₀ L s.heap news) (X : K.In h₀) (Tp : Top p loose mean mg mb h₀) (hck : cs.kind = .function) (hd : dp + k < recursionLimit) (hu : un + 8 * k < cLine) (hc : ∀ q ∈ cells, q ∈ news)
    (h : ∀ v more h' tk', O v more → Fr h₀ L h' m → News h₀ L h' (more ++ news) → (∀ q ∈ news, ∀ z ∈ more, q.1 ≠ z.1) → Q v { s with heap := h', toks := tk' }) :
    wpAny (model prog w) (ktrTop dp un gd cn cs L a ccd cl outer) (call (.ref f) vs) Q E s :=
  P dp un gd cn cs a ccd cl outer A₀ base h₀ L m s Q E B F (fun q hq => N q (hc q hq)) X Tp hck hd hu fun v h' tk' hv hg => by
    obtain ⟨more, hO, hm⟩ := hv
    obtain ⟨oL, _, _, hL, _⟩ := F.ns
    have h4 : ∀ z ∈ more, s.heap.get? z.1 = none := fun z hz => ghost_none (hm z hz).1 (hm z hz).2.1
    refine h v more h' tk' hO (Fr.grow F hg) (fun q hq => ?_) (fun q hq z hz e => ?_)
    · rcases List.mem_append.mp hq with hq | hq
      · refine ⟨(hm q hq).2.2, ?_, ?_⟩
        · intro e; have := h4 q hq; rw [e, hL] at this; cases this
        · cases e : h₀.get? q.1 with
          | none => rfl
          | some o' => have := h4 q hq; rw [F.keep _ _ e] at this; cases this
      · exact ⟨hg _ _ (N q hq).1, (N q hq).2⟩
    · have := h4 z hz; rw [← e, (N q hq).1] at this; cases this
end
end Mine
end

section
namespace Mine
section
variable {prog : Program} {w : World} {A : Around} {E : Value → Shared → Prop} {s : Shared} {h₀ : Heap} {L : Addr} {m : Str → Option Value} {news : List (Addr × Obj)}
theorem range_texts (ag : List (Str × Tok)) : (List.range ag.length).map (fun i => ((ag[i]?).map (·.1)).getD (Str.ofString "")) = ag.map (·.1) := by
  apply List.ext_getElem (by simp)
  intro i h1 h2
  simp at h1
  simp [h1]
theorem newSetT_L {l : Addr} {nl : Nat} {ag : List (Str × Tok)} {Q : Value → Shared → Prop} (F : Fr h₀ L s.heap m) (N : News h₀ L s.heap news)
    (hh : A.handled = none) (hm : (l, listOf (strValues ag).toArray nl) ∈ news) (hb : ag.length + 1 < scanBound)
    (h : ∀ h' (tk : Nat) o c, Fr h₀ L h' m → News h₀ L h' ((s.heap.objs.size, o) :: news) → c < scanBound →
      o.SetObjOf (strKind prog w) (fun k' => decide (k' ∈ ag.map (·.1))) c →
      Q (.ref s.heap.objs.size) { s with heap := h', toks := tk }) :
    wpAny (model prog w) A (call (.type "set") [.ref l]) Q E s := by
  have hlen : (strValues ag).length = ag.length := by simp [strValues]
  refine newSetK_L (knd := strKind prog w) (val := fun i => ((ag[i]?).map (·.1)).getD (Str.ofString "")) F N hh hm ?_ (by rw [hlen]; exact hb) fun h' tk o c F' N' hc ho => ?_
  · intro i v hv
    rw [List.getElem?_toArray] at hv
    simp only [strValues, List.getElem?_map] at hv
    obtain ⟨y, hy, rfl⟩ := Option.map_eq_some_iff.mp hv
    rw [hy]
    exact ⟨strKind_is _ _ _ _, rfl⟩
  · rw [hlen] at hc ho
    rw [range_texts] at ho
    exact h h' tk o c F' N' (by omega) ho
theorem list_filterT_L {M I l X S : Addr} {oS : Obj} {c : Nat} {ys zs : List (Str × Tok)} {n : Nat} {Q : Value → Shared → Prop} (hh : A.handled = none) (F : Fr h₀ L s.heap m)
    (N : News h₀ L s.heap ((M, filObj (.ref X) I) :: (I, lisObj l) :: news)) (hl : (l, listOf (strValues ys).toArray c) ∈ news) (hX : (X, boundC S) ∈ news) (hS : (S, oS) ∈ news) (hso : oS.SetObjOf (strKind prog w) (fun k' => decide (k' ∈ zs.map (·.1))) n) (hn : n < scanBound)
    (hI : ∀ p ∈ news, p.1 ≠ I) (hys : ys.length < sizeLine)
    (h : ∀ h' tk c', Fr h₀ L h' m → News h₀ L h' ((s.heap.objs.size, listOf (strValues (ys.filter (fun y => decide (y.1 ∈ zs.map (·.1))))).toArray c') :: news) → Q (.ref s.heap.objs.size) { s with heap := h', toks := tk }) :
    wpAny (model prog w) A (call (.type "list") [.ref M]) Q E s :=
  list_filter_L (knd := strKind prog w) (f := fun y : Str × Tok => .str y.1 y.2) (key := fun y => y.1) hh F N hl hX hS hso hn hI hys (fun _ _ => ⟨strKind_is _ _ _ _, rfl⟩) h
end
end Mine
end

section
namespace Mine
section
variable {prog : Program} {w : World} {A : Around} {E : Value → Shared → Prop} {s : Shared}
section
variable {h₀ : Heap} {L : Addr} {m : Str → Option Value} {news rest : List (Addr × Obj)}
end
end
end Mine
end

section
namespace Mine
section
variable {prog : Program} {w : World} {A : Around} {E : Value → Shared → Prop} {s : Shared} {h₀ : Heap} {L : Addr} {m : Str → Option Value} {news : List (Addr × Obj)}
theorem newSetT_G {l : Addr} {nl : Nat} {ag : List (Str × Tok)} {Q : Value → Shared → Prop} (F : Fr h₀ L s.heap m) (N : News h₀ L s.heap news)
    (hh : A.handled = none) (hm : (l, listOf (strValues ag).toArray nl) ∈ news) (hb : ag.length + 1 < scanBound)
    (h : ∀ h' (tk : Nat) (D : Addr) o c, Fr h₀ L h' m → News h₀ L h' ((D, o) :: news) → (∀ p ∈ news, p.1 < D) → c < scanBound → o.SetObjOf (strKind prog w) (fun k' => decide (k' ∈ ag.map (·.1))) c →
      Q (.ref D) { s with heap := h', toks := tk }) :
    wpAny (model prog w) A (call (.type "set") [.ref l]) Q E s :=
  newSetT_L F N hh hm hb fun h' tk o c F' N' hc ho => h h' tk _ o c F' N' (fun p hp => Heap.lt_size (N p hp).1) hc ho
theorem attr_contains_G {S : Addr} {oS : Obj} {T : Str → Bool} {n : Nat} {Q : Value → Shared → Prop} (F : Fr h₀ L s.heap m) (N : News h₀ L s.heap news) (hm : (S, oS) ∈ news) (hso : oS.SetObjOf (strKind prog w) T n) (hn : n < scanBound)
    (h : ∀ h' tk (D : Addr), Fr h₀ L h' m → News h₀ L h' ((D, boundC S) :: news) → (∀ p ∈ news, p.1 < D) → Q (.ref D) { s with heap := h', toks := tk }) :
    wpAny (model prog w) A (getAttr (.ref S) (Str.ofString "__contains__") true) Q E s :=
  attr_contains_L F N hm hso hn fun h' tk F' N' => h h' tk _ F' N' (fun p hp => Heap.lt_size (N p hp).1)
theorem call_filter_G {f : Value} {l : Addr} {c : Nat} {vs : List Value} {Q : Value → Shared → Prop} (F : Fr h₀ L s.heap m) (N : News h₀ L s.heap news) (hm : (l, listOf vs.toArray c) ∈ news)
    (h : ∀ h' (M I : Addr), Fr h₀ L h' m → News h₀ L h' ((M, filObj f I) :: (I, lisObj l) :: news) → (∀ p ∈ news, p.1 < I) → (∀ p ∈ (I, lisObj l) :: news, p.1 < M) → Q (.ref M) { s with heap := h' }) :
    wpAny (model prog w) A (call (.type "filter") [f, .ref l]) Q E s :=
  call_filter_L F N hm fun h' F' N' => h h' _ _ F' N' (fun p hp => Heap.lt_size (N p hp).1) (fun p hp => by
    rcases List.mem_cons.mp hp with rfl | hp
    · exact Nat.lt_succ_self _
    · exact Nat.lt_succ_of_lt (Heap.lt_size (N p hp).1))
theorem list_filterT_G {M I l X S : Addr} {oS : Obj} {c : Nat} {ys zs : List (Str × Tok)} {n : Nat} {Q : Value → Shared → Prop} (hh : A.handled = none) (F : Fr h₀ L s.heap m)
    (N : News h₀ L s.heap ((M, filObj (.ref X) I) :: (I, lisObj l) :: news)) (hl : (l, listOf (strValues ys).toArray c) ∈ news) (hX : (X, boundC S) ∈ news) (hS : (S, oS) ∈ news) (hso : oS.SetObjOf (strKind prog w) (fun k' => decide (k' ∈ zs.map (·.1))) n) (hn : n < scanBound)
    (hI : ∀ p ∈ news, p.1 < I) (hys : ys.length < sizeLine)
    (h : ∀ h' tk (D : Addr) c', Fr h₀ L h' m → News h₀ L h' ((D, listOf (strValues (ys.filter (fun y => decide (y.1 ∈ zs.map (·.1))))).toArray c') :: news) → (∀ p ∈ news, p.1 < D) → Q (.ref D) { s with heap := h', toks := tk }) :
    wpAny (model prog w) A (call (.type "list") [.ref M]) Q E s :=
  list_filterT_L hh F N hl hX hS hso hn (fun p hp => Nat.ne_of_lt (hI p hp)) hys fun h' tk c' F' N' => h h' tk _ c' F' N' (fun p hp => Heap.lt_size (N p (.tail _ (.tail _ hp))).1)
end
end Mine
end

section
namespace Mine
section
variable {prog : Program} {w : World} {A : Around} {E : Value → Shared → Prop} {s : Shared} {h₀ : Heap} {L : Addr} {m : Str → Option Value} {news : List (Addr × Obj)}
end
end Mine
end

section
namespace Mine
section
variable {prog : Program} {w : World} {A : Around} {E : Value → Shared → Prop} {s : Shared} {h₀ : Heap} {L D : Addr} {news : List (Addr × Obj)}
end
end Mine
end

section
namespace Mine
section
variable {prog : Program} {w : World} {A : Around} {E : Value → Shared → Prop} {s : Shared} {a b : Addr} {xs : List Value} {Q : Value → Shared → Prop}
end
section
variable {x y : Str} {us vs ls ts tsb rs : List (Str × Tok)}
end
section
variable {prog : Program} {w : World} {A : Around} {E : Value → Shared → Prop} {s : Shared} {h₀ : Heap} {L D : Addr} {news : List (Addr × Obj)}
end
end Mine
end

section
namespace Mine
theorem ne_of_cls {h₀ h : Heap} {L : Addr} {news : List (Addr × Obj)} {a b : Addr} {o o' : Obj} (N : News h₀ L h news) (h1 : (a, o) ∈ news) (h2 : (b, o') ∈ news) (hc : o.cls ≠ o'.cls) : a ≠ b := by
  rintro rfl
  have e1 := (N _ h1).1
  have e2 := (N _ h2).1
  rw [e1] at e2
  cases e2
  exact hc rfl
theorem sv_size {ys : List (Str × Tok)} (h : ys.length ≤ 100000) : (strValues ys).toArray.size ≤ sizeLine := by
  simp only [List.size_toArray, strValues_length, sizeLine]; omega
theorem push_str (ys : List (Str × Tok)) (a : Str) (t : Tok) : (strValues ys).toArray.push (.str a t) = (strValues (ys ++ [(a, t)])).toArray := push_texts ys (a, t)
section
variable {prog : Program} {w : World} {A : Around} {E : Value → Shared → Prop} {s : Shared} {h₀ : Heap} {L D : Addr} {m : Str → Option Value} {news news' : List (Addr × Obj)}
theorem append_T {ys : List (Str × Tok)} {n : Nat} {a : Str} {t : Tok} {Q : Value → Shared → Prop} (F : Fr h₀ L s.heap m) (N : News h₀ L s.heap news) (U : Upd D (listOf (strValues ys).toArray n) (listOf (strValues (ys ++ [(a, t)])).toArray (n + 1)) news news')
    (hz : ys.length ≤ 100000) (h : ∀ h', Fr h₀ L h' m → News h₀ L h' news' → Q .none { s with heap := h' }) : wpAny (model prog w) A (call (.builtin "list.append") [.ref D, .str a t]) Q E s := by
  rw [← push_str] at U
  exact append_K F N U h (sv_size hz)
end
section
variable {prog : Program} {w : World} {A : Around} {E : Value → Shared → Prop} {s : Shared} {h₀ : Heap} {L D b : Addr} {m : Str → Option Value} {news news' : List (Addr × Obj)}
end
def pickV (a b : Value) : Value := match b with | .none => a | b => b
@[irreducible] def HeldV (V : Value) (s : Shared) (v : Value) (s' : Shared) : Prop := v = V ∧ ∃ tk, s' = { s with toks := tk }
theorem heldV_intro {V : Value} {s : Shared} {v : Value} {tk : Nat} (h : v = V) : HeldV V s v { s with toks := tk } := by unfold HeldV; exact ⟨h, tk, rfl⟩
theorem heldV_elim {V : Value} {s : Shared} {v : Value} {s' : Shared} (h : HeldV V s v s') : v = V ∧ ∃ tk, s' = { s with toks := tk } := by unfold HeldV at h; exact h
theorem held_at {M : Model} {A : Around} {t : Sem Value} {Q E : Value → Shared → Prop} {s : Shared} (V : Value) (ev : wpAny M A t (HeldV V s) E s) (go : ∀ tk, Q V { s with toks := tk }) : wpAny M A t Q E s :=
  wpAny_mono ev (fun v s' h => by obtain ⟨rfl, tk, rfl⟩ := heldV_elim h; exact go tk) fun _ _ e => e
section
variable {prog : Program} {w : World} {A : Around} {E : Value → Shared → Prop} {s : Shared} {h₀ : Heap} {L : Addr} {m : Str → Option Value} {news : List (Addr × Obj)}
/-- the sum of two lists -/
theorem add_vals_G {a b : Addr} {ca cb : Nat} {xs ys : List Value} {Q : Value → Shared → Prop} (F : Fr h₀ L s.heap m) (N : News h₀ L s.heap news)
    (ha : (a, listOf xs.toArray ca) ∈ news) (hb : (b, listOf ys.toArray cb) ∈ news) (hz : xs.length + ys.length ≤ sizeLine)
    (h : ∀ h' (D : Addr), Fr h₀ L h' m → News h₀ L h' ((D, listOf (xs ++ ys).toArray 0) :: news) → (∀ p ∈ news, p.1 < D) → Q (.ref D) { s with heap := h' }) :
    wpAny (model prog w) A (binaryOp .Add (.ref a) (.ref b)) Q E s :=
  kmk_add_lit F N ⟨_, (N _ ha).1, rfl, ca, rfl⟩ ⟨_, (N _ hb).1, rfl, cb, rfl⟩ (by simp) (fun D h' F' N' l => h h' D F' N' l) (by simpa using hz)
end
end Mine
end

section
open PySem.Calls
namespace Mine
section
variable {prog : Program} {w : World} {A : Around} {h₀ : Heap} {L : Addr} {m : Str → Option Value} {env : Env} {ct elt : Expr} {x : Str} {scope : Scope} {cl : List (Str × Addr)} {s : Shared} {S : List (Addr × Obj) → Prop} {Fin : List Value → List (Addr × Obj) → Prop} {news : List (Addr × Obj)}
open LCg LCt
/-- a comprehension with a test that keeps items of a list as they are, the ledger as it is -/
theorem filter_items {α : Type} (val : α → Value) (xs : List α) (b : α → Bool)
    (turn : ∀ a I oI C oC D m₂ ys h tk (E' : Value → Shared → Prop), a ∈ xs → NsObj oC m₂ → m₂ x = some (val a) → Fr h₀ L h m → News h₀ L h ((I, oI) :: (C, oC) :: (D, lst ys) :: news) → Off3 I C D news → ((@Ne Nat I C) ∧ (@Ne Nat I D) ∧ (@Ne Nat C D)) →
      wpAny (model prog w) A (isTrue ct (compEnvC scope cl C env) (eval ct (compEnvC scope cl C env))) (fun ok s' => if ok = true then
        wpAny (model prog w) A (eval elt (compEnvC scope cl C env)) (CompEnd h₀ L m { s with heap := h, toks := tk } I oI C oC D (lst ys) S (fun y news' => b a = true ∧ news' = news ∧ y = val a)) E' s'
        else CompEnd h₀ L m { s with heap := h, toks := tk } I oI C oC D (lst ys) S (fun _ news' => b a = false ∧ news' = news) Value.none s') E' { s with heap := h, toks := tk })
    (fin : Fin ((xs.filter b).map val) news) : CompRestT prog w A h₀ L m env ct elt x scope cl s S (fun i v => (xs.map val).toArray[i]? = some v) Fin (xs.map val).toArray.size 0 [] news := by
  have key : ∀ (j i : Nat) (ys : List Value), i + j = xs.length → ys = ((xs.take i).filter b).map val → CompRestT prog w A h₀ L m env ct elt x scope cl s S (fun i v => (xs.map val).toArray[i]? = some v) Fin j i ys news := by
    intro j
    induction j with
    | zero =>
      intro i ys hi' hy
      have e : i = xs.length := by omega
      subst e
      rw [List.take_length] at hy
      subst hy
      exact CompRestT.zero fin
    | succ j ih =>
      intro i ys hi' hy
      refine CompRestT.succ ?_
      intro v I oI C oC D m₂ h tk E' hv hC hx F N off ne
      have hv' : (xs.map val)[i]? = some v := by simpa using hv
      rw [List.getElem?_map] at hv'
      obtain ⟨a, ha, e⟩ := Option.map_eq_some_iff.mp hv'
      rw [← e] at hx
      refine wpAny_mono (turn a I oI C oC D m₂ ys h tk E' (List.mem_of_getElem? ha) hC hx F N off ne) (fun ok s₂ hq => ?_) fun _ _ e => e
      cases ok with
      | true =>
        simp only [if_true] at hq ⊢
        refine wpAny_mono hq (fun y s₃ h3 => ?_) fun _ _ e => e
        obtain ⟨h', tk', nw, e, F', N', off', hS, hb, hn, hy'⟩ := h3
        rw [hn] at N' off' hS
        refine ⟨h', tk', news, e, F', N', off', hS, ?_⟩
        rw [hy']
        refine ih (i + 1) _ (by omega) ?_
        rw [List.take_add_one, ha, hy]
        simp [List.filter_append, hb]
      | false =>
        simp only [Bool.false_eq_true, if_false] at hq ⊢
        obtain ⟨h', tk', nw, e, F', N', off', hS, hb, hn⟩ := hq
        rw [hn] at N' off' hS
        refine ⟨h', tk', news, e, F', N', off', hS, ?_⟩
        refine ih (i + 1) _ (by omega) ?_
        rw [List.take_add_one, ha, hy]
        simp [List.filter_append, hb]
  have := key xs.length 0 [] (by omega) (by simp)
  rw [List.size_toArray, List.length_map]
  exact this
end
end Mine
end

section
open PySem.Calls
namespace Mine
section
variable {prog : Program} {w : World} {A : Around} {E : Value → Shared → Prop} {s : Shared} {env : Env} {h₀ : Heap} {target : Expr} {body : List Stmt} {Q : Flow → Shared → Prop}
/-- as iter_led, for a target of any kind: what is set stands in the turn -/
theorem iter_ledT {l : Addr} {vs : List Value} {c : Nat} {m₀ : Str → Option Value} {news news₀ : List (Addr × Obj)} (J : Nat → (Str → Option Value) → List (Addr × Obj) → Prop)
    (hh : A.handled = none) (hl : (l, listOf vs.toArray c) ∈ news) (hs : ∀ p ∈ news₀, p ∈ news ∧ p.1 ≠ l) (F : Fr h₀ env.locals s.heap m₀) (N : News h₀ env.locals s.heap news) (hj : J 0 m₀ news₀)
    (turn : ∀ i v m₁ news₁ h tk own, vs[i]? = some v → (l, listOf vs.toArray c) ∈ own → OwnOff own (news₁.map (·.1)) → J i m₁ news₁ → Fr h₀ env.locals h m₁ → News h₀ env.locals h (news₁ ++ own) →
      wpAny (model prog w) A (assign target env v) (fun _ s₃ => wpAny (model prog w) A (execs body env) (GrowPost h₀ env.locals (J (i + 1)) own { s with heap := h, toks := tk } Q) E s₃) E { s with heap := h, toks := tk })
    (done : ∀ m₁ news₁ h tk, J vs.length m₁ news₁ → (∀ p ∈ news₁, p.1 ≠ l) → Fr h₀ env.locals h m₁ → News h₀ env.locals h ((l, listOf vs.toArray c) :: news₁) → Q .next { s with heap := h, toks := tk }) :
    wpAny (model prog w) A (pyIter (.ref l)) (fun it s₂ => TurnsAt prog w A h₀ env target body Q E it s₂) E s := by
  have hls : s.heap.IsList l vs.toArray := ⟨_, (N _ hl).1, rfl, c, rfl⟩
  have hol := (N _ hl).1
  have hlt : l < s.heap.objs.size := Heap.lt_size hol
  have hne : l ≠ s.heap.objs.size := Nat.ne_of_lt hlt
  have hlL : l ≠ env.locals := (N _ hl).2.1
  refine wpAny_pyIter_list hls ?_
  have W := KTurns.ofWalks (target := target) (Walks.list (prog := prog) (w := w) hh s.heap.objs.size l hne vs.toArray) fun i v s Q E st q => letGo_listiter st.1 q
  have hlen : vs.toArray.size = vs.length := by simp
  rw [hlen] at W
  have hI₀ : h₀.get? s.heap.objs.size = none := next_is_new F
  have hst0 : (s.heap.push (((({ cls := .type "list_iterator", data := .fields #[.ref l, .int 0 0] } : Obj))))).get? l = some (listOf vs.toArray c) := Heap.get?_push_of_some _ hol
  refine ⟨_, _, _, vs.length, _, _, _, m₀, (l, listOf vs.toArray c) :: news₀, fun i m nx => ∃ n₁, nx = (l, listOf vs.toArray c) :: n₁ ∧ (∀ p ∈ n₁, p.1 ≠ l) ∧ J i m n₁, rfl, W, ?_, ?_, ?_, ⟨⟨_, Heap.get?_push_size _ rfl, rfl, rfl⟩, hls.at fun o e => Heap.get?_push_of_some _ e⟩, F.push _, ?_, ⟨_, rfl, fun p hp => (hs p hp).2, hj⟩, ?_, ?_⟩
  · intro hm
    rcases List.mem_cons.mp hm with e | hm
    · exact absurd F.ns.lt (e ▸ Nat.lt_irrefl _)
    · exact hlL (List.mem_singleton.mp hm).symm
  · intro b hb
    rw [List.mem_singleton.mp hb]
    exact hI₀
  · intro p hp hI
    have hI' := List.mem_singleton.mp hI
    rcases List.mem_cons.mp hp with rfl | hp
    · exact hne hI'
    · exact absurd (Heap.lt_size (N p (hs p hp).1).1) (hI' ▸ Nat.lt_irrefl _)
  · intro p hp
    rcases List.mem_cons.mp hp with rfl | hp
    · exact ⟨Heap.get?_push_of_some _ hol, (N _ hl).2⟩
    · exact ⟨Heap.get?_push_of_some _ (N p (hs p hp).1).1, (N p (hs p hp).1).2⟩
  · rintro i v m₁ news₁ hh' tk' own hin hP ⟨n₁, rfl, hn₁, hJ⟩ hoff hown _ hfull hst F₁ N₁
    have hlown : (l, listOf vs.toArray c) ∈ own := by
      refine hfull l (.tail _ (.head _)) (N _ hl).2.2 _ ?_
      exact (N₁ _ (List.mem_append.mpr (.inr (.head _)))).1
    have hsep : OwnOff own (n₁.map (·.1)) := by
      intro p hp b hb e
      obtain ⟨q, hq, rfl⟩ := List.mem_map.mp hb
      rcases List.mem_cons.mp (hown p hp) with h1 | h1
      · exact hoff q (.tail _ hq) (List.mem_singleton.mpr (by rw [← e, h1]))
      · exact hn₁ q hq (e.symm.trans (List.mem_singleton.mp h1))
    have hv : vs[i]? = some v := by
      have hP' : vs.toArray[i]? = some v := hP
      simpa using hP'
    have N₂ : News h₀ env.locals hh' (n₁ ++ own) := fun p hp => N₁ p ((List.mem_append.mp hp).elim (fun h => List.mem_append.mpr (.inr (.tail _ h))) fun h => List.mem_append.mpr (.inl h))
    obtain ⟨oI, heI, _⟩ := hst.1
    have hIown := hfull s.heap.objs.size (List.mem_cons_self ..) hI₀ oI heI
    refine wpAny_mono (turn i v m₁ n₁ hh' tk' own hv hlown hsep hJ F₁ N₂) (fun _ s₃ p₃ => wpAny_mono p₃ (fun f s₂ p => ?_) fun _ _ e => e) fun _ _ e => e
    have fin : GrowEnd h₀ env.locals (J (i + 1)) own { s with heap := hh', toks := tk' } s₂ → LoopStepU h₀ env.locals [s.heap.objs.size] own (fun m nx => ∃ n₁, nx = (l, listOf vs.toArray c) :: n₁ ∧ (∀ p ∈ n₁, p.1 ≠ l) ∧ J (i + 1) m n₁) { s with heap := hh', toks := tk' } .next s₂ := by
      rintro ⟨h', tk, m', news', nx, e, F', N', hn, ho, ha, hm⟩
      have hxl : ∀ p ∈ nx, p.1 ≠ l := fun p hp e' => ha _ hlown p.1 (List.mem_map.mpr ⟨p, hp, rfl⟩) e'.symm
      refine ⟨rfl, h', tk, m', (l, listOf vs.toArray c) :: nx, e, F', fun p hp => N' p ((List.mem_append.mp hp).elim (ho p) fun h => ?_), fun p hp hq => ?_, nx, rfl, hxl, hm⟩
      · rcases List.mem_cons.mp h with rfl | h
        · exact ho _ hlown
        · exact hn p h
      · have hq' := List.mem_singleton.mp hq
        rcases List.mem_cons.mp hp with rfl | hp
        · exact hne hq'
        · exact ha _ hIown p.1 (List.mem_map.mpr ⟨p, hp, rfl⟩) hq'.symm
    cases f with
    | ret v => exact .ret p
    | brk => exact .brk p
    | next => exact .next (fin p)
    | cont => exact .cont (fin p)
  · rintro h' tk m' news' F' N' _ ⟨n₁, rfl, hn₁, hJ⟩
    exact done m' n₁ h' tk hJ hn₁ F' N'
theorem grow_itemsT {α σ : Type} {l : Addr} {c : Nat} {xs : List α} (val : α → Value) {m₀ : Str → Option Value} {news : List (Addr × Obj)} (x : Str) (Led : σ → List (Addr × Obj)) (ps : σ → List (Str × Value)) (Facts : σ → Prop) (stored : List Str) (P : List α → σ → Prop) (c₀ : σ)
    (hh : A.handled = none) (hl : (l, listOf (xs.map val).toArray c) ∈ news) (hs : ∀ p ∈ Led c₀, p ∈ news ∧ p.1 ≠ l) (F : Fr h₀ env.locals s.heap m₀) (N : News h₀ env.locals s.heap news) (hf : Facts c₀) (hk : ∀ p ∈ ps c₀, m₀ p.1 = some p.2) (hp : P [] c₀)
    (turn : ∀ (c' : σ) pre post a (u : Str → Option Value) h tk own, xs = pre ++ a :: post → (l, listOf (xs.map val).toArray c) ∈ own → OwnOff own ((Led c').map (·.1)) → Facts c' → P pre c' →
      Fr h₀ env.locals h (fun y => if y = x then u y else kstB (fun z => if stored.contains z then u z else m₀ z) (ps c') y) → News h₀ env.locals h (Led c' ++ own) →
      wpAny (model prog w) A (assign target env (val a)) (fun _ s₃ => wpAny (model prog w) A (execs body env) (GrowPost h₀ env.locals (KstS Led ps Facts x stored m₀ (fun (_ : List Int) c'' => P (pre ++ [a]) c'') []) own { s with heap := h, toks := tk } Q) E s₃) E { s with heap := h, toks := tk })
    (done : ∀ (c' : σ) (u : Str → Option Value) h tk, Facts c' → P xs c' → (∀ p ∈ Led c', p.1 ≠ l) → Fr h₀ env.locals h (fun y => if y = x then u y else kstB (fun z => if stored.contains z then u z else m₀ z) (ps c') y) → News h₀ env.locals h ((l, listOf (xs.map val).toArray c) :: Led c') → Q .next { s with heap := h, toks := tk }) :
    wpAny (model prog w) A (pyIter (.ref l)) (fun it s₂ => TurnsAt prog w A h₀ env target body Q E it s₂) E s := by
  refine iter_ledT (fun i m nx => KstS Led ps Facts x stored m₀ (fun (_ : List Int) c'' => P (xs.take i) c'') [] m nx) hh hl hs F N ⟨c₀, rfl, hf, hk, fun _ _ _ _ => rfl, by simpa using hp⟩ ?_ ?_
  · rintro i v m₁ nx h tk own hn hown hoff ⟨c', rfl, hf', h1, h2, hp'⟩ F₁ N₁
    rw [List.getElem?_map] at hn
    obtain ⟨a, ha, rfl⟩ := Option.map_eq_some_iff.mp hn
    have hs : xs.take (i + 1) = xs.take i ++ [a] := by simp [List.take_add_one, ha]
    have e : xs = xs.take i ++ a :: xs.drop (i + 1) := by
      have ht := List.take_append_drop (i + 1) xs
      rw [hs, List.append_assoc] at ht
      exact ht.symm
    rw [hs]
    exact turn c' _ _ a m₁ h tk own e hown hoff hf' hp' (kst_frOut h1 h2 F₁) N₁
  · rintro m₁ nx h tk ⟨c', rfl, hf', h1, h2, hp'⟩ hnl F₁ N₁
    rw [List.length_map, List.take_length] at hp'
    exact done c' m₁ h tk hf' hp' hnl (kst_frOut h1 h2 F₁) N₁
end
section
variable {prog : Program} {w : World} {A : Around} {E : Value → Shared → Prop} {s : Shared} {env : Env} {h₀ : Heap} {x : Str} {body : List Stmt} {Q : Flow → Shared → Prop}
/-- over a range, with a ledger that grows -/
theorem grow_range {σ : Type} {r : Addr} {a₀ b₀ : Int} {t₀ u₀ v₀ : Tok} {n : Nat} {m₀ : Str → Option Value} {news : List (Addr × Obj)} (Led : σ → List (Addr × Obj)) (ps : σ → List (Str × Value)) (Facts : σ → Prop) (stored : List Str) (P : Nat → σ → Prop) (c₀ : σ)
    (hh : A.handled = none) (hr : IsRange s.heap r a₀ b₀ 1 t₀ u₀ v₀) (hsmall : Builtin.Range.small a₀ b₀ 1 = true) (hn : Builtin.Range.rangeSize a₀ b₀ 1 = (n : Int)) (F : Fr h₀ env.locals s.heap m₀) (N : News h₀ env.locals s.heap news) (hs : ∀ p ∈ Led c₀, p ∈ news)
    (hf : Facts c₀) (hk : ∀ p ∈ ps c₀, m₀ p.1 = some p.2) (hp : P 0 c₀)
    (turn : ∀ (c : σ) (i : Nat) t (u : Str → Option Value) h tk own, i < n → OwnOff own ((Led c).map (·.1)) → Facts c → P i c →
      Fr h₀ env.locals h (fun y => if y = x then some (.int (a₀ + (i : Int)) t) else kstB (fun z => if stored.contains z then u z else m₀ z) (ps c) y) → News h₀ env.locals h (Led c ++ own) →
      wpAny (model prog w) A (execs body env) (GrowPost h₀ env.locals (KstS Led ps Facts x stored m₀ (fun (_ : List Int) c' => P (i + 1) c') []) own { s with heap := h, toks := tk } Q) E { s with heap := h, toks := tk })
    (done : ∀ (c : σ) (u : Str → Option Value) h tk, Facts c → P n c → Fr h₀ env.locals h (fun y => if y = x then u y else kstB (fun z => if stored.contains z then u z else m₀ z) (ps c) y) → News h₀ env.locals h (Led c) → Q .next { s with heap := h, toks := tk }) :
    wpAny (model prog w) A (pyIter (.ref r)) (fun it s₂ => LoopAtV prog w A h₀ env x body Q E it s₂) E s := by
  refine wpAny_pyIter_range hr hsmall ?_
  have W : Walks prog w A s.heap.objs.size [s.heap.objs.size] [s.heap.objs.size] n (fun i v => i < n ∧ ∃ t, v = .int (a₀ + i * 1) t)
      (fun i h => IsRangeIter h s.heap.objs.size (a₀ + (i : Nat) * 1) ((n : Int) - (i : Nat)) 1) := (Walks.range hh _ a₀ 1 n).bound
  have hI₀ : h₀.get? s.heap.objs.size = none := next_is_new F
  refine ⟨_, _, _, n, _, _, m₀, Led c₀, fun i m nx => KstS Led ps Facts x stored m₀ (fun (_ : List Int) c' => P i c') [] m nx, rfl, W, ?_, ?_, ?_, (by show IsRangeIter _ _ _ _ _; rw [hn]; simpa using Heap.get?_push_size _ rfl), F.push _, (fun p hp => ⟨Heap.get?_push_of_some _ (N p (hs p hp)).1, (N p (hs p hp)).2⟩), ⟨c₀, rfl, hf, hk, fun _ _ _ _ => rfl, hp⟩, ?_, ?_⟩
  · intro hm
    exact absurd F.ns.lt ((List.mem_singleton.mp hm) ▸ Nat.lt_irrefl _)
  · intro b hb
    rw [List.mem_singleton.mp hb]
    exact hI₀
  · intro p hp hI
    exact absurd (Heap.lt_size (N p (hs p hp)).1) ((List.mem_singleton.mp hI) ▸ Nat.lt_irrefl _)
  · rintro i v m₁ news₁ s₁ own ⟨hh', tk', rfl⟩ hin ⟨_, t, rfl⟩ ⟨c, rfl, hf', h1, h2, hp'⟩ hoff hown _ hfull hst F₁ N₁
    have hsep : OwnOff own ((Led c).map (·.1)) := by
      intro p hp b hb e
      obtain ⟨q, hq, rfl⟩ := List.mem_map.mp hb
      have h1 := List.mem_singleton.mp (hown p hp)
      exact hoff q hq (List.mem_singleton.mpr (by rw [← e, h1]))
    have N₂ : News h₀ env.locals hh' (Led c ++ own) := fun p hp => N₁ p ((List.mem_append.mp hp).elim (fun h => List.mem_append.mpr (.inr h)) fun h => List.mem_append.mpr (.inl h))
    have heI : hh'.get? s.heap.objs.size = some _ := hst
    have hIown := hfull s.heap.objs.size (List.mem_cons_self ..) hI₀ _ heI
    rw [Int.mul_one] at F₁
    refine wpAny_mono (turn c i t m₁ hh' tk' own hin hsep hf' hp' (kst_fr h1 h2 F₁) N₂) (fun f s₂ p => ?_) fun _ _ e => e
    have fin : GrowEnd h₀ env.locals (KstS Led ps Facts x stored m₀ (fun (_ : List Int) c' => P (i + 1) c') []) own { s with heap := hh', toks := tk' } s₂ → LoopStepU h₀ env.locals [s.heap.objs.size] own (KstS Led ps Facts x stored m₀ (fun (_ : List Int) c' => P (i + 1) c') []) { s with heap := hh', toks := tk' } .next s₂ := by
      rintro ⟨h', tk, m', news', nx, e, F', N', hn, ho, ha, hm⟩
      refine ⟨rfl, h', tk, m', nx, e, F', fun p hp => N' p ((List.mem_append.mp hp).elim (ho p) (hn p)), fun p hp hq => ?_, hm⟩
      exact ha _ hIown p.1 (List.mem_map.mpr ⟨p, hp, rfl⟩) (List.mem_singleton.mp hq).symm
    cases f with
    | ret v => exact .ret p
    | brk => exact .brk p
    | next => exact .next (fin p)
    | cont => exact .cont (fin p)
  · rintro h' tk m' news' F' N' _ ⟨c, rfl, hf', h1, h2, hp'⟩
    exact done c m' h' tk hf' hp' (kst_frOut h1 h2 F') N'
end
end Mine
end

section
open PySem.Calls
namespace Mine
/-- a bag of things that stay, handed through a loop with what the loop owns -/
theorem growPost_keep {σ : Type} {Led : σ → List (Addr × Obj)} {ps : σ → List (Str × Value)} {Facts : σ → Prop} {x : Str} {stored : List Str} {m₀ : Str → Option Value} {P : List Int → σ → Prop} {pre : List Int} {h₀ : Heap} {L : Addr} {K Kl own : List (Addr × Obj)} {s₁ s₂ : Shared} {Q : Flow → Shared → Prop} {f : Flow}
    (hkl : ∀ p ∈ Kl, p ∈ K) (ho : OwnOff own (Kl.map (·.1))) (h : GrowPost h₀ L (KstS Led ps Facts x stored m₀ P pre) (K ++ own) s₁ Q f s₂) :
    GrowPost h₀ L (KstS (fun c => Led c ++ Kl) ps (fun c => Facts c ∧ OwnOff K ((Led c).map (·.1))) x stored m₀ P pre) own s₁ Q f s₂ := by
  have fin : GrowEnd h₀ L (KstS Led ps Facts x stored m₀ P pre) (K ++ own) s₁ s₂ → GrowEnd h₀ L (KstS (fun c => Led c ++ Kl) ps (fun c => Facts c ∧ OwnOff K ((Led c).map (·.1))) x stored m₀ P pre) own s₁ s₂ := by
    rintro ⟨h', tk, m', news', nx, e, F', N', hn, hk, ha, c, rfl, hf, h1, h2, hp⟩
    refine ⟨h', tk, m', news', Led c ++ Kl, e, F', N', ?_, fun p hp => hk p (List.mem_append_right _ hp), ?_, c, rfl, ⟨hf, fun p hp => ha p (List.mem_append_left _ hp)⟩, h1, h2, hp⟩
    · intro p hp
      rcases List.mem_append.mp hp with hp | hp
      · exact hn p hp
      · exact hk p (List.mem_append_left _ (hkl p hp))
    · intro p hp b hb
      rw [List.map_append] at hb
      rcases List.mem_append.mp hb with hb | hb
      · exact ha p (List.mem_append_right _ hp) b hb
      · exact ho p hp b hb
  cases f with
  | ret v => exact h
  | brk => exact h
  | next => exact fin h
  | cont => exact fin h
section
variable {h₀ h h' : Heap} {L l : Addr} {o : Obj} {K own news Ld : List (Addr × Obj)}
def offL (l : Addr) (K : List (Addr × Obj)) : List (Addr × Obj) := K.filter fun p => decide (p.1 ≠ l)
theorem offL_sub : ∀ p ∈ offL l K, p ∈ K := fun p hp => (List.mem_filter.mp hp).1
theorem offL_ne : ∀ p ∈ offL l K, p.1 ≠ l := fun p hp => of_decide_eq_true (List.mem_filter.mp hp).2
theorem offL_back (N : News h₀ L h news) (hK : ∀ p ∈ K, p ∈ news) (hl : (l, o) ∈ K) (hown : (l, o) ∈ own) (N' : News h₀ L h' ((Ld ++ offL l K) ++ own)) : News h₀ L h' (Ld ++ (K ++ own)) := by
  intro p hp
  rcases List.mem_append.mp hp with hp | hp
  · exact N' p (List.mem_append_left _ (List.mem_append_left _ hp))
  rcases List.mem_append.mp hp with hp | hp
  · by_cases e : p.1 = l
    · have e1 := (N p (hK p hp)).1
      have e2 := (N _ (hK _ hl)).1
      rw [e] at e1
      have e3 : o = p.2 := Option.some.inj (e2.symm.trans e1)
      have e4 : p = (l, o) := by rw [← e, e3]
      rw [e4]
      exact N' _ (List.mem_append_right _ hown)
    · exact N' p (List.mem_append_left _ (List.mem_append_right _ (List.mem_filter.mpr ⟨hp, decide_eq_true e⟩)))
  · exact N' p (List.mem_append_right _ hp)
end
section
variable {prog : Program} {w : World} {A : Around} {E : Value → Shared → Prop} {s : Shared} {env : Env} {h₀ : Heap} {target : Expr} {body : List Stmt} {Q : Flow → Shared → Prop}
theorem keep_itemsT {α σ : Type} {l : Addr} {c : Nat} {xs : List α} (val : α → Value) {m₀ : Str → Option Value} {news : List (Addr × Obj)} (x : Str) (K : List (Addr × Obj)) (Led : σ → List (Addr × Obj)) (ps : σ → List (Str × Value)) (Facts : σ → Prop) (stored : List Str) (P : List α → σ → Prop) (c₀ : σ)
    (hh : A.handled = none) (hl : (l, listOf (xs.map val).toArray c) ∈ K) (hK : ∀ p ∈ K, p ∈ news) (hs : ∀ p ∈ Led c₀, p ∈ news) (hoff : OwnOff K ((Led c₀).map (·.1))) (F : Fr h₀ env.locals s.heap m₀) (N : News h₀ env.locals s.heap news) (hf : Facts c₀) (hk : ∀ p ∈ ps c₀, m₀ p.1 = some p.2) (hp : P [] c₀)
    (turn : ∀ (c' : σ) pre post a (u : Str → Option Value) h tk own, xs = pre ++ a :: post → (∀ p ∈ K, p ∈ own) → OwnOff own ((Led c').map (·.1)) → Facts c' → P pre c' →
      Fr h₀ env.locals h (fun y => if y = x then u y else kstB (fun z => if stored.contains z then u z else m₀ z) (ps c') y) → News h₀ env.locals h (Led c' ++ own) →
      wpAny (model prog w) A (assign target env (val a)) (fun _ s₃ => wpAny (model prog w) A (execs body env) (GrowPost h₀ env.locals (KstS Led ps Facts x stored m₀ (fun (_ : List Int) c'' => P (pre ++ [a]) c'') []) own { s with heap := h, toks := tk } Q) E s₃) E { s with heap := h, toks := tk })
    (done : ∀ (c' : σ) (u : Str → Option Value) h tk, Facts c' → P xs c' → OwnOff K ((Led c').map (·.1)) → Fr h₀ env.locals h (fun y => if y = x then u y else kstB (fun z => if stored.contains z then u z else m₀ z) (ps c') y) → News h₀ env.locals h (Led c' ++ K) → Q .next { s with heap := h, toks := tk }) :
    wpAny (model prog w) A (pyIter (.ref l)) (fun it s₂ => TurnsAt prog w A h₀ env target body Q E it s₂) E s := by
  refine grow_itemsT val x (fun c => Led c ++ offL l K) ps (fun c => Facts c ∧ OwnOff K ((Led c).map (·.1))) stored P c₀ hh (hK _ hl) ?_ F N ⟨hf, hoff⟩ hk hp ?_ ?_
  · intro p hp
    rcases List.mem_append.mp hp with hp | hp
    · exact ⟨hs p hp, fun e => hoff _ hl _ (List.mem_map_of_mem hp) e.symm⟩
    · exact ⟨hK p (offL_sub p hp), offL_ne p hp⟩
  · rintro c' pre post a u h tk own e hown ho ⟨hf', hko⟩ hp' F' N'
    refine wpAny_mono (turn c' pre post a u h tk (K ++ own) e (fun p hp => List.mem_append_left _ hp) ?_ hf' hp' F' (offL_back N hK hl hown N')) (fun _ s₃ h3 => wpAny_mono h3 (fun f s₂ hq => growPost_keep offL_sub (fun p hp b hb => ho p hp b (by rw [List.map_append]; exact List.mem_append_right _ hb)) hq) fun _ _ e => e) fun _ _ e => e
    intro p hp b hb
    rcases List.mem_append.mp hp with hp | hp
    · exact hko p hp b hb
    · exact ho p hp b (by rw [List.map_append]; exact List.mem_append_left _ hb)
  · rintro c' u h tk ⟨hf', hko⟩ hp' _ F' N'
    refine done c' u h tk hf' hp' hko F' fun p hp => ?_
    have N2 : News h₀ env.locals h ((Led c' ++ offL l K) ++ [(l, listOf (xs.map val).toArray c)]) := fun p hp => N' p (by
      rcases List.mem_append.mp hp with hp | hp
      · exact .tail _ hp
      · rw [List.mem_singleton.mp hp]; exact .head _)
    have N3 := offL_back N hK hl (.head _) N2
    rw [← List.append_assoc] at N3
    exact N3 p (List.mem_append_left _ hp)
end
section
variable {prog : Program} {w : World} {A : Around} {E : Value → Shared → Prop} {s : Shared} {env : Env} {h₀ : Heap} {x : Str} {body : List Stmt} {Q : Flow → Shared → Prop}
theorem keep_items {α σ : Type} {l : Addr} {c : Nat} {xs : List α} (val : α → Value) {m₀ : Str → Option Value} {news : List (Addr × Obj)} (K : List (Addr × Obj)) (Led : σ → List (Addr × Obj)) (ps : σ → List (Str × Value)) (Facts : σ → Prop) (stored : List Str) (P : List α → σ → Prop) (c₀ : σ)
    (hh : A.handled = none) (hl : (l, listOf (xs.map val).toArray c) ∈ K) (hK : ∀ p ∈ K, p ∈ news) (hs : ∀ p ∈ Led c₀, p ∈ news) (hoff : OwnOff K ((Led c₀).map (·.1))) (F : Fr h₀ env.locals s.heap m₀) (N : News h₀ env.locals s.heap news) (hf : Facts c₀) (hk : ∀ p ∈ ps c₀, m₀ p.1 = some p.2) (hp : P [] c₀)
    (turn : ∀ (c' : σ) pre post a (u : Str → Option Value) h tk own, xs = pre ++ a :: post → (∀ p ∈ K, p ∈ own) → OwnOff own ((Led c').map (·.1)) → Facts c' → P pre c' →
      Fr h₀ env.locals h (fun y => if y = x then some (val a) else kstB (fun z => if stored.contains z then u z else m₀ z) (ps c') y) → News h₀ env.locals h (Led c' ++ own) →
      wpAny (model prog w) A (execs body env) (GrowPost h₀ env.locals (KstS Led ps Facts x stored m₀ (fun (_ : List Int) c'' => P (pre ++ [a]) c'') []) own { s with heap := h, toks := tk } Q) E { s with heap := h, toks := tk })
    (done : ∀ (c' : σ) (u : Str → Option Value) h tk, Facts c' → P xs c' → OwnOff K ((Led c').map (·.1)) → Fr h₀ env.locals h (fun y => if y = x then u y else kstB (fun z => if stored.contains z then u z else m₀ z) (ps c') y) → News h₀ env.locals h (Led c' ++ K) → Q .next { s with heap := h, toks := tk }) :
    wpAny (model prog w) A (pyIter (.ref l)) (fun it s₂ => LoopAtV prog w A h₀ env x body Q E it s₂) E s := by
  refine grow_items val (fun c => Led c ++ offL l K) ps (fun c => Facts c ∧ OwnOff K ((Led c).map (·.1))) stored P c₀ hh (hK _ hl) ?_ F N ⟨hf, hoff⟩ hk hp ?_ ?_
  · intro p hp
    rcases List.mem_append.mp hp with hp | hp
    · exact ⟨hs p hp, fun e => hoff _ hl _ (List.mem_map_of_mem hp) e.symm⟩
    · exact ⟨hK p (offL_sub p hp), offL_ne p hp⟩
  · rintro c' pre post a u h tk own e hown ho ⟨hf', hko⟩ hp' F' N'
    refine wpAny_mono (turn c' pre post a u h tk (K ++ own) e (fun p hp => List.mem_append_left _ hp) ?_ hf' hp' F' (offL_back N hK hl hown N')) (fun f s₂ hq => growPost_keep offL_sub (fun p hp b hb => ho p hp b (by rw [List.map_append]; exact List.mem_append_right _ hb)) hq) fun _ _ e => e
    intro p hp b hb
    rcases List.mem_append.mp hp with hp | hp
    · exact hko p hp b hb
    · exact ho p hp b (by rw [List.map_append]; exact List.mem_append_left _ hb)
  · rintro c' u h tk ⟨hf', hko⟩ hp' _ F' N'
    refine done c' u h tk hf' hp' hko F' fun p hp => ?_
    have N2 : News h₀ env.locals h ((Led c' ++ offL l K) ++ [(l, listOf (xs.map val).toArray c)]) := fun p hp => N' p (by
      rcases List.mem_append.mp hp with hp | hp
      · exact .tail _ hp
      · rw [List.mem_singleton.mp hp]; exact .head _)
    have N3 := offL_back N hK hl (.head _) N2
    rw [← List.append_assoc] at N3
    exact N3 p (List.mem_append_left _ hp)
theorem keep_range {σ : Type} {r : Addr} {a₀ b₀ : Int} {t₀ u₀ v₀ : Tok} {n : Nat} {m₀ : Str → Option Value} {news : List (Addr × Obj)} (K : List (Addr × Obj)) (Led : σ → List (Addr × Obj)) (ps : σ → List (Str × Value)) (Facts : σ → Prop) (stored : List Str) (P : Nat → σ → Prop) (c₀ : σ)
    (hh : A.handled = none) (hr : IsRange s.heap r a₀ b₀ 1 t₀ u₀ v₀) (hsmall : Builtin.Range.small a₀ b₀ 1 = true) (hn : Builtin.Range.rangeSize a₀ b₀ 1 = (n : Int)) (F : Fr h₀ env.locals s.heap m₀) (N : News h₀ env.locals s.heap news) (hK : ∀ p ∈ K, p ∈ news) (hs : ∀ p ∈ Led c₀, p ∈ news) (hoff : OwnOff K ((Led c₀).map (·.1)))
    (hf : Facts c₀) (hk : ∀ p ∈ ps c₀, m₀ p.1 = some p.2) (hp : P 0 c₀)
    (turn : ∀ (c : σ) (i : Nat) t (u : Str → Option Value) h tk own, i < n → (∀ p ∈ K, p ∈ own) → OwnOff own ((Led c).map (·.1)) → Facts c → P i c →
      Fr h₀ env.locals h (fun y => if y = x then some (.int (a₀ + (i : Int)) t) else kstB (fun z => if stored.contains z then u z else m₀ z) (ps c) y) → News h₀ env.locals h (Led c ++ own) →
      wpAny (model prog w) A (execs body env) (GrowPost h₀ env.locals (KstS Led ps Facts x stored m₀ (fun (_ : List Int) c' => P (i + 1) c') []) own { s with heap := h, toks := tk } Q) E { s with heap := h, toks := tk })
    (done : ∀ (c : σ) (u : Str → Option Value) h tk, Facts c → P n c → OwnOff K ((Led c).map (·.1)) → Fr h₀ env.locals h (fun y => if y = x then u y else kstB (fun z => if stored.contains z then u z else m₀ z) (ps c) y) → News h₀ env.locals h (Led c ++ K) → Q .next { s with heap := h, toks := tk }) :
    wpAny (model prog w) A (pyIter (.ref r)) (fun it s₂ => LoopAtV prog w A h₀ env x body Q E it s₂) E s := by
  refine grow_range (fun c => Led c ++ K) ps (fun c => Facts c ∧ OwnOff K ((Led c).map (·.1))) stored P c₀ hh hr hsmall hn F N ?_ ⟨hf, hoff⟩ hk hp ?_ ?_
  · intro p hp
    exact (List.mem_append.mp hp).elim (hs p) (hK p)
  · rintro c' i t u h tk own hi ho ⟨hf', hko⟩ hp' F' N'
    rw [List.append_assoc] at N'
    refine wpAny_mono (turn c' i t u h tk (K ++ own) hi (fun p hp => List.mem_append_left _ hp) ?_ hf' hp' F' N') (fun f s₂ hq => growPost_keep (fun _ h => h) (fun p hp b hb => ho p hp b (by rw [List.map_append]; exact List.mem_append_right _ hb)) hq) fun _ _ e => e
    intro p hp b hb
    rcases List.mem_append.mp hp with hp | hp
    · exact hko p hp b hb
    · exact ho p hp b (by rw [List.map_append]; exact List.mem_append_left _ hb)
  · rintro c' u h tk ⟨hf', hko⟩ hp' F' N'
    exact done c' u h tk hf' hp' hko F' N'
end
end Mine
end

section
open PySem.Calls
namespace Mine
section
variable {prog : Program} {w : World} {A : Around} {E : Value → Shared → Prop} {s : Shared} {env : Env} {h₀ : Heap} {target : Expr} {body : List Stmt} {Q : Flow → Shared → Prop}
/-- as iter_ledT, over a tuple: what is set stands in the turn -/
theorem iter_tupT {l : Addr} {lo : Obj} {vs : List Value} {c : Nat} {m₀ : Str → Option Value} {news news₀ : List (Addr × Obj)} (J : Nat → (Str → Option Value) → List (Addr × Obj) → Prop)
    (hh : A.handled = none) (hc : lo.cls = .type "tuple") (hd : lo.data = .seq vs.toArray c) (hl : (l, lo) ∈ news) (hs : ∀ p ∈ news₀, p ∈ news ∧ p.1 ≠ l) (F : Fr h₀ env.locals s.heap m₀) (N : News h₀ env.locals s.heap news) (hj : J 0 m₀ news₀)
    (turn : ∀ i v m₁ news₁ h tk own, vs[i]? = some v → (l, lo) ∈ own → OwnOff own (news₁.map (·.1)) → J i m₁ news₁ → Fr h₀ env.locals h m₁ → News h₀ env.locals h (news₁ ++ own) →
      wpAny (model prog w) A (assign target env v) (fun _ s₃ => wpAny (model prog w) A (execs body env) (GrowPost h₀ env.locals (J (i + 1)) own { s with heap := h, toks := tk } Q) E s₃) E { s with heap := h, toks := tk })
    (done : ∀ m₁ news₁ h tk, J vs.length m₁ news₁ → (∀ p ∈ news₁, p.1 ≠ l) → Fr h₀ env.locals h m₁ → News h₀ env.locals h ((l, lo) :: news₁) → Q .next { s with heap := h, toks := tk }) :
    wpAny (model prog w) A (pyIter (.ref l)) (fun it s₂ => TurnsAt prog w A h₀ env target body Q E it s₂) E s := by
  have hls : s.heap.IsTuple l vs.toArray := ⟨_, (N _ hl).1, hc, c, hd⟩
  have hol := (N _ hl).1
  have hlt : l < s.heap.objs.size := Heap.lt_size hol
  have hne : l ≠ s.heap.objs.size := Nat.ne_of_lt hlt
  have hlL : l ≠ env.locals := (N _ hl).2.1
  refine wpAny_pyIter_tuple hls ?_
  have W := KTurns.ofWalks (target := target) (Walks.tuple (prog := prog) (w := w) hh s.heap.objs.size l hne vs.toArray) fun i v s Q E st q => letGo_tupleiter st.1 q
  have hlen : vs.toArray.size = vs.length := by simp
  rw [hlen] at W
  have hI₀ : h₀.get? s.heap.objs.size = none := next_is_new F
  have hst0 : (s.heap.push (((({ cls := .type "tuple_iterator", data := .fields #[.ref l, .int 0 0] } : Obj))))).get? l = some (lo) := Heap.get?_push_of_some _ hol
  refine ⟨_, _, _, vs.length, _, _, _, m₀, (l, lo) :: news₀, fun i m nx => ∃ n₁, nx = (l, lo) :: n₁ ∧ (∀ p ∈ n₁, p.1 ≠ l) ∧ J i m n₁, rfl, W, ?_, ?_, ?_, ⟨⟨_, Heap.get?_push_size _ rfl, rfl, rfl⟩, hls.at fun o e => Heap.get?_push_of_some _ e⟩, F.push _, ?_, ⟨_, rfl, fun p hp => (hs p hp).2, hj⟩, ?_, ?_⟩
  · intro hm
    rcases List.mem_cons.mp hm with e | hm
    · exact absurd F.ns.lt (e ▸ Nat.lt_irrefl _)
    · exact hlL (List.mem_singleton.mp hm).symm
  · intro b hb
    rw [List.mem_singleton.mp hb]
    exact hI₀
  · intro p hp hI
    have hI' := List.mem_singleton.mp hI
    rcases List.mem_cons.mp hp with rfl | hp
    · exact hne hI'
    · exact absurd (Heap.lt_size (N p (hs p hp).1).1) (hI' ▸ Nat.lt_irrefl _)
  · intro p hp
    rcases List.mem_cons.mp hp with rfl | hp
    · exact ⟨Heap.get?_push_of_some _ hol, (N _ hl).2⟩
    · exact ⟨Heap.get?_push_of_some _ (N p (hs p hp).1).1, (N p (hs p hp).1).2⟩
  · rintro i v m₁ news₁ hh' tk' own hin hP ⟨n₁, rfl, hn₁, hJ⟩ hoff hown _ hfull hst F₁ N₁
    have hlown : (l, lo) ∈ own := by
      refine hfull l (.tail _ (.head _)) (N _ hl).2.2 _ ?_
      exact (N₁ _ (List.mem_append.mpr (.inr (.head _)))).1
    have hsep : OwnOff own (n₁.map (·.1)) := by
      intro p hp b hb e
      obtain ⟨q, hq, rfl⟩ := List.mem_map.mp hb
      rcases List.mem_cons.mp (hown p hp) with h1 | h1
      · exact hoff q (.tail _ hq) (List.mem_singleton.mpr (by rw [← e, h1]))
      · exact hn₁ q hq (e.symm.trans (List.mem_singleton.mp h1))
    have hv : vs[i]? = some v := by
      have hP' : vs.toArray[i]? = some v := hP
      simpa using hP'
    have N₂ : News h₀ env.locals hh' (n₁ ++ own) := fun p hp => N₁ p ((List.mem_append.mp hp).elim (fun h => List.mem_append.mpr (.inr (.tail _ h))) fun h => List.mem_append.mpr (.inl h))
    obtain ⟨oI, heI, _⟩ := hst.1
    have hIown := hfull s.heap.objs.size (List.mem_cons_self ..) hI₀ oI heI
    refine wpAny_mono (turn i v m₁ n₁ hh' tk' own hv hlown hsep hJ F₁ N₂) (fun _ s₃ p₃ => wpAny_mono p₃ (fun f s₂ p => ?_) fun _ _ e => e) fun _ _ e => e
    have fin : GrowEnd h₀ env.locals (J (i + 1)) own { s with heap := hh', toks := tk' } s₂ → LoopStepU h₀ env.locals [s.heap.objs.size] own (fun m nx => ∃ n₁, nx = (l, lo) :: n₁ ∧ (∀ p ∈ n₁, p.1 ≠ l) ∧ J (i + 1) m n₁) { s with heap := hh', toks := tk' } .next s₂ := by
      rintro ⟨h', tk, m', news', nx, e, F', N', hn, ho, ha, hm⟩
      have hxl : ∀ p ∈ nx, p.1 ≠ l := fun p hp e' => ha _ hlown p.1 (List.mem_map.mpr ⟨p, hp, rfl⟩) e'.symm
      refine ⟨rfl, h', tk, m', (l, lo) :: nx, e, F', fun p hp => N' p ((List.mem_append.mp hp).elim (ho p) fun h => ?_), fun p hp hq => ?_, nx, rfl, hxl, hm⟩
      · rcases List.mem_cons.mp h with rfl | h
        · exact ho _ hlown
        · exact hn p h
      · have hq' := List.mem_singleton.mp hq
        rcases List.mem_cons.mp hp with rfl | hp
        · exact hne hq'
        · exact ha _ hIown p.1 (List.mem_map.mpr ⟨p, hp, rfl⟩) hq'.symm
    cases f with
    | ret v => exact .ret p
    | brk => exact .brk p
    | next => exact .next (fin p)
    | cont => exact .cont (fin p)
  · rintro h' tk m' news' F' N' _ ⟨n₁, rfl, hn₁, hJ⟩
    exact done m' n₁ h' tk hJ hn₁ F' N'
theorem grow_tupT {α σ : Type} {l : Addr} {lo : Obj} {c : Nat} {xs : List α} (val : α → Value) {m₀ : Str → Option Value} {news : List (Addr × Obj)} (x : Str) (Led : σ → List (Addr × Obj)) (ps : σ → List (Str × Value)) (Facts : σ → Prop) (stored : List Str) (P : List α → σ → Prop) (c₀ : σ)
    (hh : A.handled = none) (hc : lo.cls = .type "tuple") (hd : lo.data = .seq (xs.map val).toArray c) (hl : (l, lo) ∈ news) (hs : ∀ p ∈ Led c₀, p ∈ news ∧ p.1 ≠ l) (F : Fr h₀ env.locals s.heap m₀) (N : News h₀ env.locals s.heap news) (hf : Facts c₀) (hk : ∀ p ∈ ps c₀, m₀ p.1 = some p.2) (hp : P [] c₀)
    (turn : ∀ (c' : σ) pre post a (u : Str → Option Value) h tk own, xs = pre ++ a :: post → (l, lo) ∈ own → OwnOff own ((Led c').map (·.1)) → Facts c' → P pre c' →
      Fr h₀ env.locals h (fun y => if y = x then u y else kstB (fun z => if stored.contains z then u z else m₀ z) (ps c') y) → News h₀ env.locals h (Led c' ++ own) →
      wpAny (model prog w) A (assign target env (val a)) (fun _ s₃ => wpAny (model prog w) A (execs body env) (GrowPost h₀ env.locals (KstS Led ps Facts x stored m₀ (fun (_ : List Int) c'' => P (pre ++ [a]) c'') []) own { s with heap := h, toks := tk } Q) E s₃) E { s with heap := h, toks := tk })
    (done : ∀ (c' : σ) (u : Str → Option Value) h tk, Facts c' → P xs c' → (∀ p ∈ Led c', p.1 ≠ l) → Fr h₀ env.locals h (fun y => if y = x then u y else kstB (fun z => if stored.contains z then u z else m₀ z) (ps c') y) → News h₀ env.locals h ((l, lo) :: Led c') → Q .next { s with heap := h, toks := tk }) :
    wpAny (model prog w) A (pyIter (.ref l)) (fun it s₂ => TurnsAt prog w A h₀ env target body Q E it s₂) E s := by
  refine iter_tupT (c := c) (fun i m nx => KstS Led ps Facts x stored m₀ (fun (_ : List Int) c'' => P (xs.take i) c'') [] m nx) hh hc hd hl hs F N ⟨c₀, rfl, hf, hk, fun _ _ _ _ => rfl, by simpa using hp⟩ ?_ ?_
  · rintro i v m₁ nx h tk own hn hown hoff ⟨c', rfl, hf', h1, h2, hp'⟩ F₁ N₁
    rw [List.getElem?_map] at hn
    obtain ⟨a, ha, rfl⟩ := Option.map_eq_some_iff.mp hn
    have hs : xs.take (i + 1) = xs.take i ++ [a] := by simp [List.take_add_one, ha]
    have e : xs = xs.take i ++ a :: xs.drop (i + 1) := by
      have ht := List.take_append_drop (i + 1) xs
      rw [hs, List.append_assoc] at ht
      exact ht.symm
    rw [hs]
    exact turn c' _ _ a m₁ h tk own e hown hoff hf' hp' (kst_frOut h1 h2 F₁) N₁
  · rintro m₁ nx h tk ⟨c', rfl, hf', h1, h2, hp'⟩ hnl F₁ N₁
    rw [List.length_map, List.take_length] at hp'
    exact done c' m₁ h tk hf' hp' hnl (kst_frOut h1 h2 F₁) N₁
theorem keep_tupT {α σ : Type} {l : Addr} {lo : Obj} {c : Nat} {xs : List α} (val : α → Value) {m₀ : Str → Option Value} {news : List (Addr × Obj)} (x : Str) (K : List (Addr × Obj)) (Led : σ → List (Addr × Obj)) (ps : σ → List (Str × Value)) (Facts : σ → Prop) (stored : List Str) (P : List α → σ → Prop) (c₀ : σ)
    (hh : A.handled = none) (hc : lo.cls = .type "tuple") (hd : lo.data = .seq (xs.map val).toArray c) (hl : (l, lo) ∈ K) (hK : ∀ p ∈ K, p ∈ news) (hs : ∀ p ∈ Led c₀, p ∈ news) (hoff : OwnOff K ((Led c₀).map (·.1))) (F : Fr h₀ env.locals s.heap m₀) (N : News h₀ env.locals s.heap news) (hf : Facts c₀) (hk : ∀ p ∈ ps c₀, m₀ p.1 = some p.2) (hp : P [] c₀)
    (turn : ∀ (c' : σ) pre post a (u : Str → Option Value) h tk own, xs = pre ++ a :: post → (∀ p ∈ K, p ∈ own) → OwnOff own ((Led c').map (·.1)) → Facts c' → P pre c' →
      Fr h₀ env.locals h (fun y => if y = x then u y else kstB (fun z => if stored.contains z then u z else m₀ z) (ps c') y) → News h₀ env.locals h (Led c' ++ own) →
      wpAny (model prog w) A (assign target env (val a)) (fun _ s₃ => wpAny (model prog w) A (execs body env) (GrowPost h₀ env.locals (KstS Led ps Facts x stored m₀ (fun (_ : List Int) c'' => P (pre ++ [a]) c'') []) own { s with heap := h, toks := tk } Q) E s₃) E { s with heap := h, toks := tk })
    (done : ∀ (c' : σ) (u : Str → Option Value) h tk, Facts c' → P xs c' → OwnOff K ((Led c').map (·.1)) → Fr h₀ env.locals h (fun y => if y = x then u y else kstB (fun z => if stored.contains z then u z else m₀ z) (ps c') y) → News h₀ env.locals h (Led c' ++ K) → Q .next { s with heap := h, toks := tk }) :
    wpAny (model prog w) A (pyIter (.ref l)) (fun it s₂ => TurnsAt prog w A h₀ env target body Q E it s₂) E s := by
  refine grow_tupT val x (fun c => Led c ++ offL l K) ps (fun c => Facts c ∧ OwnOff K ((Led c).map (·.1))) stored P c₀ hh hc hd (hK _ hl) ?_ F N ⟨hf, hoff⟩ hk hp ?_ ?_
  · intro p hp
    rcases List.mem_append.mp hp with hp | hp
    · exact ⟨hs p hp, fun e => hoff _ hl _ (List.mem_map_of_mem hp) e.symm⟩
    · exact ⟨hK p (offL_sub p hp), offL_ne p hp⟩
  · rintro c' pre post a u h tk own e hown ho ⟨hf', hko⟩ hp' F' N'
    refine wpAny_mono (turn c' pre post a u h tk (K ++ own) e (fun p hp => List.mem_append_left _ hp) ?_ hf' hp' F' (offL_back N hK hl hown N')) (fun _ s₃ h3 => wpAny_mono h3 (fun f s₂ hq => growPost_keep offL_sub (fun p hp b hb => ho p hp b (by rw [List.map_append]; exact List.mem_append_right _ hb)) hq) fun _ _ e => e) fun _ _ e => e
    intro p hp b hb
    rcases List.mem_append.mp hp with hp | hp
    · exact hko p hp b hb
    · exact ho p hp b (by rw [List.map_append]; exact List.mem_append_left _ hb)
  · rintro c' u h tk ⟨hf', hko⟩ hp' _ F' N'
    refine done c' u h tk hf' hp' hko F' fun p hp => ?_
    have N2 : News h₀ env.locals h ((Led c' ++ offL l K) ++ [(l, lo)]) := fun p hp => N' p (by
      rcases List.mem_append.mp hp with hp | hp
      · exact .tail _ hp
      · rw [List.mem_singleton.mp hp]; exact .head _)
    have N3 := offL_back N hK hl (.head _) N2
    rw [← List.append_assoc] at N3
    exact N3 p (List.mem_append_left _ hp)
/-- as keep_tupT, the tuple at the head of the ledger -/
theorem keep_tupH {α σ : Type} {l : Addr} {lo : Obj} {c : Nat} {xs : List α} (val : α → Value) {m₀ : Str → Option Value} {news : List (Addr × Obj)} (x : Str) (K : List (Addr × Obj)) (Led : σ → List (Addr × Obj)) (ps : σ → List (Str × Value)) (Facts : σ → Prop) (stored : List Str) (P : List α → σ → Prop) (c₀ : σ)
    (hh : A.handled = none) (F : Fr h₀ env.locals s.heap m₀) (N : News h₀ env.locals s.heap ((l, lo) :: news)) (hc : lo.cls = .type "tuple") (hd : lo.data = .seq (xs.map val).toArray c) (hK : ∀ p ∈ K, p ∈ news) (hs : ∀ p ∈ Led c₀, p ∈ news) (hoff : OwnOff ((l, lo) :: K) ((Led c₀).map (·.1))) (hf : Facts c₀) (hk : ∀ p ∈ ps c₀, m₀ p.1 = some p.2) (hp : P [] c₀)
    (turn : ∀ (c' : σ) pre post a (u : Str → Option Value) h tk own, xs = pre ++ a :: post → (∀ p ∈ K, p ∈ own) → OwnOff own ((Led c').map (·.1)) → Facts c' → P pre c' →
      Fr h₀ env.locals h (fun y => if y = x then u y else kstB (fun z => if stored.contains z then u z else m₀ z) (ps c') y) → News h₀ env.locals h (Led c' ++ own) →
      wpAny (model prog w) A (assign target env (val a)) (fun _ s₃ => wpAny (model prog w) A (execs body env) (GrowPost h₀ env.locals (KstS Led ps Facts x stored m₀ (fun (_ : List Int) c'' => P (pre ++ [a]) c'') []) own { s with heap := h, toks := tk } Q) E s₃) E { s with heap := h, toks := tk })
    (done : ∀ (c' : σ) (u : Str → Option Value) h tk, Facts c' → P xs c' → OwnOff K ((Led c').map (·.1)) → Fr h₀ env.locals h (fun y => if y = x then u y else kstB (fun z => if stored.contains z then u z else m₀ z) (ps c') y) → News h₀ env.locals h (Led c' ++ K) → Q .next { s with heap := h, toks := tk }) :
    wpAny (model prog w) A (pyIter (.ref l)) (fun it s₂ => TurnsAt prog w A h₀ env target body Q E it s₂) E s := by
  refine keep_tupT val x ((l, lo) :: K) Led ps Facts stored P c₀ hh hc hd (.head _) ?_ (fun p hp => .tail _ (hs p hp)) hoff F N hf hk hp ?_ ?_
  · exact fun p hp => by
      rcases List.mem_cons.mp hp with rfl | hp
      · exact .head _
      · exact .tail _ (hK p hp)
  · exact fun c' pre post a u h tk own e hKo ho hf' hp' F' N' => turn c' pre post a u h tk own e (fun p hp => hKo p (.tail _ hp)) ho hf' hp' F' N'
  · refine fun c' u h tk hf' hp' hko F' N' => done c' u h tk hf' hp' (fun p hp => hko p (.tail _ hp)) F' fun p hp => N' p ?_
    rcases List.mem_append.mp hp with hp | hp
    · exact List.mem_append_left _ hp
    · exact List.mem_append_right _ (.tail _ hp)
end
end Mine
end

section
namespace Mine
end Mine
end

section
namespace Mine
section
variable {q : Params} {R O : Addr} {oR oO : Obj} {h₀ h : Heap} {L : Addr} {own : List (Addr × Obj)} {p1 p2 : List Ent9} {e e' : Ent9}
end
theorem news_sub {h₀ h : Heap} {L : Addr} {news news' : List (Addr × Obj)} (N : News h₀ L h news) (hs : ∀ p ∈ news', p ∈ news) : News h₀ L h news' := fun p hp => N p (hs p hp)
section
variable {prog : Program} {w : World} {A : Around} {E : Value → Shared → Prop} {s : Shared} {h₀ : Heap} {L D : Addr} {news : List (Addr × Obj)}
/-- a text of a table of texts -/
theorem sub_table {value slice : Expr} {k : Int} {u : Tok} {n : Nat} {ys : List (Str × Tok)} {Q : Value → Shared → Prop} (N : News h₀ L s.heap news) (hm : (D, listOf (strValues ys).toArray n) ∈ news)
    (h0 : 0 ≤ k) (h1 : k < ys.length) (hl : ys.length ≤ 100) (h : ∀ v : Str × Tok, v ∈ ys → Q (.str v.1 v.2) s)
    (hs : subscripted slice false (.ref D) (.int k u) = operate [.ref D, .int k u] (getItem (.ref D) (.int k u)) := by with_unfolding_all rfl) :
    wpAny (model prog w) A (subscriptTail value slice (.ref D) (.int k u)) Q E s := by
  have hlt : k.toNat < ys.length := by omega
  refine sub_T (x := ys[k.toNat]) N hm (by omega) h1 (by omega) ?_ (h _ (List.getElem_mem hlt)) hs
  unfold place
  rw [if_neg (by omega)]
  exact List.getElem?_eq_getElem hlt
end
section
variable {e : Ent9} {k : Nat}
end
section
variable {q : Params} {R O : Addr} {oR oO : Obj} {own news' T : List (Addr × Obj)} {p1 p2 : List Ent9} {e e' : Ent9} {k : Nat} {V : List Value}
end
theorem mem_of {h₀ h : Heap} {L : Addr} {news : List (Addr × Obj)} {p : Addr × Obj} (_N : News h₀ L h news) (hp : p ∈ news) : p ∈ news := hp
section
variable {R O : Addr} {own : List (Addr × Obj)} {p1 p2 : List Ent9} {e : Ent9}
end
section
variable {prog : Program} {w : World} {A : Around} {E : Value → Shared → Prop} {s : Shared} {h₀ : Heap} {L D : Addr} {news : List (Addr × Obj)}
end
end Mine
end

section
namespace Mine
/-- what one book holds -/
structure Bk where
  (b bu br : Addr) (n n1 n2 : Nat) (ag : List (Str × Tok)) (rl : List (Int × Tok)) (dl rt : Value)
def intValues (l : List (Int × Tok)) : List Value := l.map fun p => .int p.1 p.2
def inAll (z : Str) (l : List Bk) : Bool := l.all fun k => decide (z ∈ k.ag.map (·.1))
theorem no_name {ag ls : List (Str × Tok)} {z : Str} (h : ag.filter (fun p => p.1 == z) = ls) (hl : (ls.length : Int) = 0) : (!decide (z ∈ ag.map (·.1))) = true := by
  have : ls = [] := List.length_eq_zero_iff.mp (by omega)
  rw [this, List.filter_eq_nil_iff] at h
  simp only [Bool.not_eq_true', decide_eq_false_iff_not]
  intro hz
  obtain ⟨p, hp, e⟩ := List.mem_map.mp hz
  exact h p hp (by simpa using e)
theorem has_name {ag ls : List (Str × Tok)} {z : Str} (h : ag.filter (fun p => p.1 == z) = ls) (hl : (ls.length : Int) ≠ 0) : (!decide (z ∈ ag.map (·.1))) = false := by
  cases ls with
  | nil => exact absurd rfl hl
  | cons p r =>
    have hp : p ∈ ag.filter (fun p => p.1 == z) := h ▸ .head _
    obtain ⟨h1, h2⟩ := List.mem_filter.mp hp
    have e : p.1 = z := by simpa using h2
    have : z ∈ ag.map (·.1) := e ▸ List.mem_map_of_mem h1
    rw [decide_eq_true this]; rfl
theorem intValues_snoc (ys : List (Int × Tok)) (p : Int × Tok) : intValues (ys ++ [p]) = intValues ys ++ [.int p.1 p.2] := by simp [intValues]
theorem intValues_length (ys : List (Int × Tok)) : (intValues ys).length = ys.length := by simp [intValues]
section
variable {prog : Program} {w : World} {A : Around} {E : Value → Shared → Prop} {s : Shared} {h₀ : Heap} {L D : Addr} {m : Str → Option Value} {news news' : List (Addr × Obj)}
theorem append_I {ys : List (Int × Tok)} {n : Nat} {a : Int} {t : Tok} {Q : Value → Shared → Prop} (F : Fr h₀ L s.heap m) (N : News h₀ L s.heap news) (U : Upd D (listOf (intValues ys).toArray n) (listOf (intValues (ys ++ [(a, t)])).toArray (n + 1)) news news')
    (hz : ys.length ≤ 100000) (h : ∀ h', Fr h₀ L h' m → News h₀ L h' news' → Q .none { s with heap := h' }) : wpAny (model prog w) A (call (.builtin "list.append") [.ref D, .int a t]) Q E s := by
  rw [intValues_snoc, ← List.push_toArray] at U
  exact append_K F N U h (by rw [List.size_toArray, intValues_length]; simp only [sizeLine]; omega)
end
/-- what the two slots hold after so many turns -/
def stK (d r kd kr : Value) : Nat → Value × Value | 0 => (d, r) | 1 => (pickV d kd, r) | _ => (pickV d kd, pickV r kr)
section
variable {prog : Program} {w : World} {A : Around} {E : Value → Shared → Prop} {s : Shared} {h₀ : Heap} {L D : Addr} {m : Str → Option Value} {news news' : List (Addr × Obj)}
theorem set4_2 {a b c d v : Value} {n : Nat} {u : Tok} {Q : Unit → Shared → Prop} (F : Fr h₀ L s.heap m) (N : News h₀ L s.heap news) (U : Upd D (listOf #[a, b, c, d] n) (listOf #[a, b, v, d] n) news news')
    (hQ : ∀ h', Fr h₀ L h' m → News h₀ L h' news' → Q () { s with heap := h' }) : wpAny (model prog w) A (setItem (.ref D) (.int 2 u) v) Q E s :=
  set_L (vs := [a, b, c, d]) F N U (by simp) (by simp) (by simp) hQ
theorem set4_3 {a b c d v : Value} {n : Nat} {u : Tok} {Q : Unit → Shared → Prop} (F : Fr h₀ L s.heap m) (N : News h₀ L s.heap news) (U : Upd D (listOf #[a, b, c, d] n) (listOf #[a, b, c, v] n) news news')
    (hQ : ∀ h', Fr h₀ L h' m → News h₀ L h' news' → Q () { s with heap := h' }) : wpAny (model prog w) A (setItem (.ref D) (.int 3 u) v) Q E s :=
  set_L (vs := [a, b, c, d]) F N U (by simp) (by simp) (by simp) hQ
end
theorem same_x {x : Str} {v : Option Value} {u m₀ : Str → Option Value} : ∀ z, z ≠ x → (∀ p ∈ ([] : List (Str × Value)), z ≠ p.1) → ([] : List Str).contains z = false → (fun y => if y = x then v else if y = x then u y else kstB (fun z => if ([] : List Str).contains z = true then u z else m₀ z) [] y) z = m₀ z := by
  intro z h1 _ _
  show (if z = x then v else if z = x then u z else _) = _
  rw [if_neg h1, if_neg h1]
  rfl
theorem flat_len {l : List Bk} (h : ∀ k ∈ l, k.rl.length ≤ 1000) : (l.flatMap Bk.rl).length ≤ 1000 * l.length := by
  induction l with
  | nil => exact Nat.le_refl _
  | cons k r ih =>
    have h1 := h k (.head _)
    have h2 := ih fun k hk => h k (.tail _ hk)
    rw [List.flatMap_cons, List.length_append, List.length_cons]
    omega
theorem all_in {l ls : List Bk} {z : Str} (h : l.filter (fun k => !decide (z ∈ k.ag.map (·.1))) = ls) (hl : ls = []) : inAll z l = true := by
  rw [hl, List.filter_eq_nil_iff] at h
  unfold inAll
  rw [List.all_eq_true]
  intro k hk
  have := h k hk
  simpa using this
theorem not_in {l ls : List Bk} {z : Str} (h : l.filter (fun k => !decide (z ∈ k.ag.map (·.1))) = ls) (hl : ¬ ls = []) : inAll z l = false := by
  cases ls with
  | nil => exact absurd rfl hl
  | cons p r =>
    have hp : p ∈ l.filter (fun k => !decide (z ∈ k.ag.map (·.1))) := h ▸ .head _
    obtain ⟨h1, h2⟩ := List.mem_filter.mp hp
    unfold inAll
    rw [List.all_eq_false]
    exact ⟨p, h1, by simpa using h2⟩
/-- none or an int -/
def NI (v : Value) : Prop := v = .none ∨ ∃ i t, v = .int i t
/-- the last that is not none -/
def lastV (l : List Value) : Value := l.foldl (fun a b => pickV a b) .none
theorem NI.pick {a b : Value} (ha : NI a) (hb : NI b) : NI (pickV a b) := by
  rcases hb with rfl | ⟨i, t, rfl⟩
  · exact ha
  · exact .inr ⟨i, t, rfl⟩
theorem lastV_snoc {l : List Value} {v : Value} : lastV (l ++ [v]) = pickV (lastV l) v := by unfold lastV; rw [List.foldl_append]; rfl
theorem off_two {K : List (Addr × Obj)} {a b : Addr} {oa ob : Obj} (h : ∀ p ∈ K, p.1 ≠ a ∧ p.1 ≠ b) : OwnOff K ([(a, oa), (b, ob)].map (·.1)) := by
  intro p hp c hc
  have hc : c ∈ [a, b] := hc
  rcases List.mem_cons.mp hc with rfl | hc
  · exact (h p hp).1
  · rw [List.mem_singleton.mp hc]; exact (h p hp).2
def Bk.cells (k : Bk) : List (Addr × Obj) := [(k.b, listOf #[.ref k.bu, .ref k.br, k.dl, k.rt] k.n), (k.bu, listOf (strValues k.ag).toArray k.n1), (k.br, listOf (intValues k.rl).toArray k.n2)]
end Mine
end

section
namespace Mine
set_option maxRecDepth 100000 in
set_option maxHeartbeats 8000000 in
open_top hd for PySem.Challenge.rw_kn0090_08
end Mine
end

section
namespace Mine
local macro_rules | `(tactic| walk_at "exec For Name Subscript cons nil") => `(tactic| (k_here; refine Mine.stop ?_))
local macro_rules | `(tactic| walk_at "subscriptTail Name Const ref int") => `(tactic| (refine Mine.stop ?_))
local macro_rules | `(tactic| walk_at "subscriptTail Subscript Const ref int") => `(tactic| (refine Mine.stop ?_))
inductive Deep8 : Prop | mk
local macro_rules | `(tactic| walk_at "pyIter ref") => `(tactic| ((with_reducible rename Deep8 => hDeep0); refine Mine.stop ?_))
local macro_rules | `(tactic| walk_at "eval ListComp") => `(tactic| (refine Mine.stop ?_))
local macro_rules | `(tactic| walk_at "CompSrcT") => `(tactic| (refine Mine.stop ?_))
local macro_rules | `(tactic| walk_at "CompEnd") => `(tactic| (refine Mine.stop ?_))
local macro_rules | `(tactic| walk_at "compareOp Eq ref ref") => `(tactic| (refine Mine.stop ?_))
local macro_rules | `(tactic| walk_at "GrowPost") => `(tactic| (dsimp only [Mine.GrowPost]))
local macro_rules | `(tactic| walk_at "call builtin:list.append") => `(tactic| (k_here; k_dflt (refine' Mine.append_T ?k1 ?k2 ?k3 ?z ?_; (case k1 => k_asm); (case k2 => k_asm); (case k3 => k_upd); (case z => ((try simp only [List.length_append, List.length_cons, List.length_nil]); omega)); k_whole); intro h' F' N'; (try k_sweep)))
local macro_rules | `(tactic| walk_at "call builtin:list.append") => `(tactic| (k_here; k_dflt (refine' Mine.append_I ?k1 ?k2 ?k3 ?z ?_; (case k1 => k_asm); (case k2 => k_asm); (case k3 => k_upd); (case z => omega); k_whole); intro h' F' N'; (try k_sweep)))
local macro_rules | `(tactic| walk_at "subscriptTail Name Name ref int") => `(tactic| (k_here; (with_reducible rename (∀ p ∈ Mine.Bk.cells _, p ∈ _) => hkX); (rename News _ _ _ _ => NX); refine Mine.sub_L (vs := [_, _, _, _]) NX (by repeat (first | exact hkX _ (.head _) | refine List.Mem.tail _ ?_)) (by simp) (by simp) (by simp) (by rfl) ?_))
local macro_rules | `(tactic| walk_at "setItem ref int int") => `(tactic| (k_here; first
  | ((with_reducible show wpAny _ _ (setItem (Value.ref _) (Value.int 2 _) _) _ _ _); k_dflt (refine' Mine.set4_2 ?k1 ?k2 ?k3 ?_; (case k1 => k_asm); (case k2 => k_asm); (case k3 => k_upd); k_whole); intro h' F' N'; (try k_sweep))
  | ((with_reducible show wpAny _ _ (setItem (Value.ref _) (Value.int 3 _) _) _ _ _); k_dflt (refine' Mine.set4_3 ?k1 ?k2 ?k3 ?_; (case k1 => k_asm); (case k2 => k_asm); (case k3 => k_upd); k_whole); intro h' F' N'; (try k_sweep))))
local macro_rules | `(tactic| walk_at "GrowEnd") => `(tactic| (refine Mine.stop ?_))
local macro_rules | `(tactic| walk_at "exec For Name Name cons nil") => `(tactic| (k_here; refine Mine.stop ?_))
set_option maxHeartbeats 1000000 in
theorem due_walk (w : World) (mean : ExcName → Option Value) (mg mb : Str → Option Value) (B0 : Addr) (nB : Nat) (k0 : Mine.Bk) (bks : List Mine.Bk) (Tl cells : List (Addr × Obj))
   (hT : ∀ k ∈ k0 :: bks, ∀ p ∈ k.cells, p ∈ Tl) (hlen : bks.length ≤ 10) (hag : ∀ k ∈ k0 :: bks, k.ag.length ≤ 200 ∧ k.rl.length ≤ 1000) (hdr : ∀ k ∈ k0 :: bks, Mine.NI k.dl ∧ Mine.NI k.rt)
   (hcells : cells = (B0, listOf (Value.ref k0.b :: bks.map fun k => Value.ref k.b).toArray nB) :: Tl) :
   Mine.PureFnX 2 Challenge.rw_kn0090_08.row.prog w (hd.heap_39 w.params) hd.view_39 (looseW hd.view_39 []) mean mg mb 82 [.ref B0] cells (Mine.NewsX cells (fun V more => ∃ (b bu br : Addr) (n1 n2 : Nat), V = .ref b ∧ more = [(b, listOf #[.ref bu, .ref br, Mine.lastV ((k0 :: bks).map Mine.Bk.dl), Mine.lastV ((k0 :: bks).map Mine.Bk.rt)] 0), (bu, listOf (strValues (k0.ag.filter (fun p => Mine.inAll p.1 (k0 :: bks)))).toArray n1), (br, listOf (Mine.intValues ((k0 :: bks).flatMap Mine.Bk.rl)).toArray n2)] ∧ @Ne Nat bu br ∧ @Ne Nat b bu ∧ @Ne Nat b br)) := by
  intro dp un gd cn cs a ccd cl outer A₀ base h₀ L m s Q E B F N X T hk hd hu hret
  w_top off
  refine wpAny_call ?_
  k_dflt (refine' Mine.code_pureX (Mine.NewsX cells (fun V more => ∃ (b bu br : Addr) (n1 n2 : Nat), V = .ref b ∧ more = [(b, listOf #[.ref bu, .ref br, Mine.lastV ((k0 :: bks).map Mine.Bk.dl), Mine.lastV ((k0 :: bks).map Mine.Bk.rt)] 0), (bu, listOf (strValues (k0.ag.filter (fun p => Mine.inAll p.1 (k0 :: bks)))).toArray n1), (br, listOf (Mine.intValues ((k0 :: bks).flatMap Mine.Bk.rl)).toArray n2)] ∧ @Ne Nat bu br ∧ @Ne Nat b bu ∧ @Ne Nat b br)) (fun v h' tk' hv hg => hret v h' tk' hv hg) B F X N T ?kA ?kF ?kK ?k6 ?k7 ?k8 ?k9 ?kB ?kD ?_ ?c2 ?c3 ?c4; (case kA => exact rfl); (case kF => exact rfl); (case kK => assumption);  (case k6 => k_is); (case k7 => k_is); (case k8 => ktr_room); (case k9 => exact BindsTo.of_eq rfl); (case kB => exact rfl); (case kD => decide +kernel); (case c2 => exact rfl); (case c3 => exact rfl); (case c4 => exact rfl); k_whole; intro g' L' h' tk' cells' FG' F' N' Y' B' X' T' l1)
  subst hcells
  obtain ⟨oA, rfl, hoA⟩ : ∃ o : Obj, cells' = [(L' + 1, o)] ∧ o.data = .cell none := by
    with_unfolding_all exact CellsAre.one Y'
  clear Y'
  (try simp only [List.cons_append, List.nil_append] at N')
  (try dsimp only)
  (try k_fold)
  have lB := l1 _ (.head _)
  have hDeep : Deep8 := .mk
  dsimp only at lB
  k_steps
  unfold Mine.Stop
  rename_i lA hA1 ltA hA F2 N2
  have hT0 : ∀ p ∈ k0.cells, p ∈ Tl := hT k0 (.head _)
  refine For_turns F2 ?_
  k_steps
  rename News _ _ _ _ => N3
  have hin0 : ∀ p ∈ k0.cells, p ∈ (lA, listOf #[] 0) :: (L' + 1, oA) :: (B0, listOf (Value.ref k0.b :: bks.map fun k => Value.ref k.b).toArray nB) :: Tl := fun p hp => .tail _ (.tail _ (.tail _ (hT0 p hp)))
  refine Mine.sub_L (vs := [.ref k0.bu, .ref k0.br, k0.dl, k0.rt]) N3 (hin0 _ (.head _)) (by simp) (by simp) (by simp) (x := .ref k0.bu) rfl ?_
  k_steps
  rename Fr _ _ _ _ => F4
  rename News _ _ _ _ => N4
  unfold Mine.Stop
  with_unfolding_all refine' Mine.keep_itemsT (fun p : Str × Tok => Value.str p.1 p.2) (xs := k0.ag) (l := k0.bu) (c := k0.n1) (Str.ofString "agent") ((B0, listOf (Value.ref k0.b :: bks.map fun k => Value.ref k.b).toArray nB) :: Tl) (fun st : Obj × List (Str × Tok) × Nat => [(lA, listOf (strValues st.2.1).toArray st.2.2), (L' + 1, st.1)]) (fun _ => []) (fun st => ∃ v, st.1.data = .cell v) [] (fun pre st => st.2.1 = pre.filter (fun p => Mine.inAll p.1 (k0 :: bks)) ∧ st.2.2 = st.2.1.length) (oA, [], 0) (by rfl) ?hl ?hK ?hs ?hoff F4 N4 ⟨_, hoA⟩ (fun _ h => nomatch h) ⟨rfl, rfl⟩ ?turn ?done
  case hl => exact .tail _ (hT0 _ (.tail _ (.head _)))
  case hK => exact fun p hp => .tail _ (.tail _ hp)
  case hs => exact List.forall_mem_cons.mpr ⟨by k_mem, List.forall_mem_cons.mpr ⟨by k_mem, fun _ h => nomatch h⟩⟩
  case hoff =>
    refine Mine.off_two (fun p hp => ?_)
    have h1 : @LT.lt Nat _ p.1 L' := l1 p hp
    have h2 : @LT.lt Nat _ (L' + 1) lA := ltA.1
    constructor <;> (show @Ne Nat _ _; omega)
  case turn =>
    rintro ⟨oC, ks, nC⟩ pre post ⟨z, tz⟩ u h tk1 own e hKo hoff ⟨v0, hv0⟩ ⟨he, hn⟩ Ft Nt
    (try dsimp only at Ft Nt hv0 he hn)
    (try simp only [List.cons_append, List.nil_append] at Nt)
    (try k_fold)
    k_steps
    unfold Mine.Stop
    rename Fr _ _ _ _ => F5
    rename News _ _ _ _ => N5
    rename_i hC1 oC1 hoC1
    dsimp only at hoC1
    refine LCt.ListComp_T (F₀ := F5) (by with_unfolding_all rfl) (by decide) (by rfl) (by decide) (by rfl) ?_
    k_steps
    unfold Mine.Stop
    have hbin : (B0, listOf (Value.ref k0.b :: bks.map fun k => Value.ref k.b).toArray nB) ∈ own := hKo _ (.head _)
    rename Fr _ _ _ _ => F6
    rename News _ _ _ _ => N6
    refine LCt.CompSrcT.ledger (by rfl) F6 N6 (.tail _ (.tail _ hbin)) (by rw [List.size_toArray, List.length_cons, List.length_map]; simp only [sizeLine]; omega) ?_
    intro g6
    refine Mine.filter_items (fun k : Mine.Bk => Value.ref k.b) (k0 :: bks) (fun k => !decide (z ∈ k.ag.map (·.1))) ?tu ?fi
    case tu =>
      rintro kb I oI C oC D3 m2 ys1 h1 tk2 E1 hkb hC1 hx1 F' N' off' ne'
      have off0 := off'
      (try simp only [LCg.Off3, and_true] at off')
      (try dsimp only at hx1)
      (try k_fold)
      k_steps
      unfold Mine.Stop
      have hkin : ∀ p ∈ kb.cells, p ∈ (I, oI) :: (C, oC) :: (D3, LCg.lst ys1) :: (lA, listOf (strValues ks).toArray nC) :: (L' + 1, oC1) :: own := fun p hp => .tail _ (.tail _ (.tail _ (.tail _ (.tail _ (hKo _ (.tail _ (hT kb hkb p hp)))))))
      refine LCt.ListComp_T (F₀ := F') (by with_unfolding_all rfl) (by decide) (by rfl) (by decide) (by rfl) ?_
      k_steps
      refine Mine.sub_L (vs := [.ref kb.bu, .ref kb.br, kb.dl, kb.rt]) N' (hkin _ (.head _)) (by simp) (by simp) (by simp) (x := .ref kb.bu) rfl ?_
      k_steps
      unfold Mine.Stop
      refine LCt.CompSrcT.ledger (by rfl) F' N' (hkin _ (.tail _ (.head _))) (by rw [List.size_toArray, Mine.strValues_length]; simp only [sizeLine]; have := hag kb hkb; omega) ?_
      intro g7
      refine Mine.filter_items (fun p : Str × Tok => Value.str p.1 p.2) kb.ag (fun p => p.1 == z) ?tu2 ?fi2
      case tu2 =>
        rintro ⟨y, ty⟩ I5 oI5 C5 oC5 D5 m5 ys5 h5 tk5 E5 hy hC5 hx5 F5 N5 off5 ne5
        have off50 := off5
        (try simp only [LCg.Off3, and_true] at off5)
        (try dsimp only at hx5)
        (try k_fold)
        k_steps
        all_goals
          unfold Mine.Stop
          rename Fr _ _ _ _ => F8
          rename News _ _ _ _ => N8
          first
            | exact LCg.CompEnd.intro F8 N8 _ (fun p hp => hp) off50 (.inr ⟨_, hkin _ (.tail _ (.head _)), rfl, _, rfl⟩) ⟨by assumption, rfl, rfl⟩
            | exact LCg.CompEnd.intro F8 N8 _ (fun p hp => hp) off50 (.inr ⟨_, hkin _ (.tail _ (.head _)), rfl, _, rfl⟩) ⟨by assumption, rfl⟩
      case fi2 =>
        intro D5 h5 tk5 F5 N5 off5
        (try simp only [LCg.Off1, and_true] at off5)
        change News _ _ h5 ((D5, listOf (strValues (kb.ag.filter (fun p => p.1 == z))).toArray _) :: _) at N5
        generalize hls : kb.ag.filter (fun p => p.1 == z) = ls at N5
        have hll : ls.length ≤ 200 := by rw [← hls]; exact Nat.le_trans (List.length_filter_le _ _) (hag kb hkb).1
        generalize List.length _ = nl at N5
        (try k_fold)
        k_steps
        refine Mine.len_T N5 (.head _) (by omega) ?_
        k_steps
        · unfold Mine.Stop
          rename Fr _ _ _ _ => F8
          rename News _ _ _ _ => N8
          exact LCg.CompEnd.intro F8 N8 _ (fun p hp => .tail _ hp) off0 (.inr ⟨_, .tail _ (.tail _ hbin), rfl, _, rfl⟩) ⟨Mine.no_name hls (by assumption), rfl, rfl⟩
        · unfold Mine.Stop
          rename Fr _ _ _ _ => F8
          rename News _ _ _ _ => N8
          exact LCg.CompEnd.intro F8 N8 _ (fun p hp => .tail _ hp) off0 (.inr ⟨_, .tail _ (.tail _ hbin), rfl, _, rfl⟩) ⟨Mine.has_name hls (by assumption), rfl⟩
    case fi =>
      intro D5 h5 tk5 F5 N5 off5
      (try simp only [LCg.Off1, and_true] at off5)
      change News _ _ h5 ((D5, listOf (((k0 :: bks).filter (fun k => !decide (z ∈ k.ag.map (·.1)))).map fun k : Mine.Bk => Value.ref k.b).toArray _) :: _) at N5
      generalize hls : (k0 :: bks).filter (fun k => !decide (z ∈ k.ag.map (·.1))) = ls at N5
      generalize List.length _ = nl at N5
      (try k_fold)
      k_steps
      unfold Mine.Stop
      by_cases hl0 : ls = []
      · refine Mine.eq_none (xs := ls.map fun k : Mine.Bk => Value.ref k.b) (by is_list) (by is_list) (by ke_room) (by rw [hl0]; rfl) ?_
        have hks : ks.length ≤ 200 := by
          rw [he]
          have h1 := List.length_filter_le (fun p : Str × Tok => Mine.inAll p.1 (k0 :: bks)) pre
          have h2 := congrArg List.length e
          rw [List.length_append] at h2
          have := (hag k0 (.head _)).1
          omega
        k_steps
        unfold Mine.Stop
        rename Fr _ _ _ _ => F9
        rename News _ _ _ _ => N9
        refine' Mine.grow_end (oC1, ks ++ [(z, tz)], nC + 1) F9 N9 (List.forall_mem_cons.mpr ⟨by k_mem, List.forall_mem_cons.mpr ⟨by k_mem, fun _ h => nomatch h⟩⟩) (fun p hp => .tail _ (.tail _ (.tail _ (.tail _ hp)))) hoff ⟨_, hoC1⟩ (fun _ h => nomatch h) ?hr ⟨?p1, ?p2⟩
        case hr => (intro z1 h1 h2 h3; (try dsimp only); rw [if_neg h1]; rfl)
        case p1 => show ks ++ [(z, tz)] = _; rw [List.filter_append, ← he, List.filter_cons, Mine.all_in hls hl0]; rfl
        case p2 => show nC + 1 = (ks ++ [(z, tz)]).length; rw [List.length_append, hn]; rfl
      · refine Mine.eq_some (xs := ls.map fun k : Mine.Bk => Value.ref k.b) (by is_list) (by is_list) (by ke_room) (by intro h; exact hl0 (List.map_eq_nil_iff.mp h)) ?_
        k_steps
        unfold Mine.Stop
        rename Fr _ _ _ _ => F9
        rename News _ _ _ _ => N9
        refine' Mine.grow_end (oC1, ks, nC) F9 N9 (List.forall_mem_cons.mpr ⟨by k_mem, List.forall_mem_cons.mpr ⟨by k_mem, fun _ h => nomatch h⟩⟩) (fun p hp => .tail _ (.tail _ (.tail _ (.tail _ hp)))) hoff ⟨_, hoC1⟩ (fun _ h => nomatch h) ?hr ⟨?p1, hn⟩
        case hr => (intro z1 h1 h2 h3; (try dsimp only); rw [if_neg h1]; rfl)
        case p1 => show ks = _; rw [List.filter_append, ← he, List.filter_cons, Mine.not_in hls hl0]; exact (List.append_nil _).symm
  case done =>
    rintro ⟨oC, ks, nC⟩ u h tk1 ⟨v0, hv0⟩ ⟨he, hn⟩ hko Ft Nt
    (try dsimp only at Ft Nt hv0 he hn)
    (try simp only [List.cons_append, List.nil_append] at Nt)
    (try k_fold)
    k_steps
    unfold Mine.Stop
    with_unfolding_all refine' For_invVF (by assumption) ?k1 ?k2 ?_; (case k1 => exact rfl); (case k2 => exact rfl)
    k_steps
    unfold Mine.Stop
    rename Fr _ _ _ _ => F4
    rename News _ _ _ _ => N4
    rename_i lR hR1 ltR lD hD1 FD1 ND1 ltD hD2
    with_unfolding_all refine' Mine.keep_items (fun k : Mine.Bk => Value.ref k.b) (xs := k0 :: bks) (l := B0) (c := nB) ((lA, listOf (strValues ks).toArray nC) :: (B0, listOf (Value.ref k0.b :: bks.map fun k => Value.ref k.b).toArray nB) :: Tl) (fun st : List (Int × Tok) × Nat × Value × Value => [(lD, listOf #[.ref lA, .ref lR, st.2.2.1, st.2.2.2] 0), (lR, listOf (Mine.intValues st.1).toArray st.2.1)]) (fun _ => []) (fun st => Mine.NI st.2.2.1 ∧ Mine.NI st.2.2.2) [Str.ofString "rule", Str.ofString "k"] (fun pre st => st.1 = pre.flatMap Mine.Bk.rl ∧ st.2.1 = st.1.length ∧ st.2.2.1 = Mine.lastV (pre.map Mine.Bk.dl) ∧ st.2.2.2 = Mine.lastV (pre.map Mine.Bk.rt)) ([], 0, .none, .none) (by rfl) ?hl ?hK ?hs ?hoff F4 N4 ⟨.inl rfl, .inl rfl⟩ (fun _ h => nomatch h) ⟨rfl, rfl, rfl, rfl⟩ ?turn2 ?done2
    case hl => exact .tail _ (.head _)
    case hK => exact List.forall_mem_cons.mpr ⟨by k_mem, fun p hp => .tail _ (.tail _ (.tail _ (.tail _ hp)))⟩
    case hs => exact List.forall_mem_cons.mpr ⟨by k_mem, List.forall_mem_cons.mpr ⟨by k_mem, fun _ h => nomatch h⟩⟩
    case hoff =>
      refine Mine.off_two (fun p hp => ?_)
      have h2 : @LT.lt Nat _ lA lR := ltR.1
      have h3 : @LT.lt Nat _ lR lD := ltD.1
      have h5 : @LT.lt Nat _ (L' + 1) lA := ltA.1
      rcases List.mem_cons.mp hp with rfl | hp
      · dsimp only; constructor <;> (show @Ne Nat _ _; omega)
      · have h1 : @LT.lt Nat _ p.1 L' := l1 p hp
        constructor <;> (show @Ne Nat _ _; omega)
    case turn2 =>
      rintro ⟨rl2, nR, dl2, rt2⟩ pre post kb u h tk1 own e hKo hoff ⟨hd2, hr2⟩ ⟨hrl, hnR, hdl, hrt⟩ Ft Nt
      (try dsimp only at Ft Nt hd2 hr2 hrl hnR hdl hrt)
      (try simp only [List.cons_append, List.nil_append] at Nt)
      (try k_fold)
      k_steps
      unfold Mine.Stop
      have hkb : kb ∈ k0 :: bks := by rw [e]; simp
      have hkin : ∀ p ∈ kb.cells, p ∈ own := fun p hp => hKo _ (.tail _ (.tail _ (hT kb hkb p hp)))
      have hao : (lA, listOf (strValues ks).toArray nC) ∈ own := hKo _ (.head _)
      have hkbr := (hag kb hkb).2
      with_unfolding_all refine' For_invVF (by assumption) ?k1 ?k2 ?_; (case k1 => exact rfl); (case k2 => exact rfl)
      k_steps
      rename News _ _ _ _ => N5
      refine Mine.sub_L (vs := [.ref kb.bu, .ref kb.br, kb.dl, kb.rt]) N5 (.tail _ (.tail _ (hkin _ (.head _)))) (by simp) (by simp) (by simp) (x := .ref kb.br) rfl ?_
      k_steps
      unfold Mine.Stop
      rename Fr _ _ _ _ => F6
      rename News _ _ _ _ => N6
      with_unfolding_all refine' Mine.keep_items (fun p : Int × Tok => Value.int p.1 p.2) (xs := kb.rl) (l := kb.br) (c := kb.n2) own (fun st : List (Int × Tok) × Nat => [(lD, listOf #[.ref lA, .ref lR, dl2, rt2] 0), (lR, listOf (Mine.intValues st.1).toArray st.2)]) (fun _ => []) (fun st => True) [] (fun pre st => st.1 = rl2 ++ pre ∧ st.2 = st.1.length) (rl2, nR) (by rfl) ?hl ?hK ?hs ?hoff F6 N6 trivial (fun _ h => nomatch h) ⟨(List.append_nil _).symm, hnR⟩ ?turn3 ?done3
      case hl => exact hkin _ (.tail _ (.tail _ (.head _)))
      case hK => exact fun p hp => .tail _ (.tail _ hp)
      case hs => exact List.forall_mem_cons.mpr ⟨by k_mem, List.forall_mem_cons.mpr ⟨by k_mem, fun _ h => nomatch h⟩⟩
      case hoff => exact hoff
      case turn3 =>
        rintro ⟨rl3, nR3⟩ pre3 post3 ⟨i3, t3⟩ u3 h3 tk3 own3 e3 hKo3 hoff3 _ ⟨hrl3, hnR3⟩ Ft3 Nt3
        (try dsimp only at Ft3 Nt3 hrl3 hnR3)
        (try simp only [List.cons_append, List.nil_append] at Nt3)
        (try k_fold)
        have hrl3z : rl3.length ≤ 12000 := by
          have h1 := Mine.flat_len (l := pre) fun k hk => (hag k (by rw [e]; exact List.mem_append_left _ hk)).2
          have h2 := congrArg List.length e
          have h3 := congrArg List.length e3
          rw [List.length_append, List.length_cons, List.length_cons] at h2
          rw [List.length_append] at h3
          rw [hrl3, hrl, List.length_append]
          omega
        k_steps
        unfold Mine.Stop
        rename Fr _ _ _ _ => F9
        rename News _ _ _ _ => N9
        refine' Mine.grow_end (rl3 ++ [(i3, t3)], nR3 + 1) F9 N9 (List.forall_mem_cons.mpr ⟨by k_mem, List.forall_mem_cons.mpr ⟨by k_mem, fun _ h => nomatch h⟩⟩) (fun p hp => .tail _ (.tail _ hp)) hoff3 trivial (fun _ h => nomatch h) ?hr ⟨?p1, ?p2⟩
        case hr => (intro z1 h1 h2 h3; (try dsimp only); rw [if_neg h1]; rfl)
        case p1 => show rl3 ++ [(i3, t3)] = _; rw [hrl3, List.append_assoc]
        case p2 => show nR3 + 1 = (rl3 ++ [(i3, t3)]).length; rw [List.length_append, hnR3]; rfl
      case done3 =>
        rintro ⟨rl3, nR3⟩ u3 h3 tk3 _ ⟨hrl3, hnR3⟩ hko3 Ft3 Nt3
        (try dsimp only at Ft3 Nt3 hrl3 hnR3)
        (try simp only [List.cons_append, List.nil_append] at Nt3)
        (try k_fold)
        have hdlk := hdr kb hkb
        obtain ⟨kb1, kbu, kbr, kn, kn1, kn2, kag, krl, kdl, krt⟩ := kb
        (try dsimp only at hdlk)
        rename Deep8 => hD8
        clear hD8
        k_steps
        rename Fr _ _ _ _ => F7
        rename News _ _ _ _ => N7
        with_unfolding_all refine' Mine.keep_tupH (fun p : Int × Tok => Value.int p.1 p.2) (xs := [(2, _), (3, _)]) (Str.ofString "k") ((lR, listOf (Mine.intValues rl3).toArray nR3) :: own) (fun st : Value × Value => [(lD, listOf #[.ref lA, .ref lR, st.1, st.2] 0)]) (fun _ => []) (fun _ => True) [] (fun pre st => st = Mine.stK dl2 rt2 kdl krt pre.length) (dl2, rt2) (by rfl) F7 N7 (by rfl) (by rfl) ?hK ?hs ?hoff trivial (fun _ h => nomatch h) rfl ?turn4 ?done4
        case hK => exact fun p hp => .tail _ hp
        case hs => exact List.forall_mem_cons.mpr ⟨.head _, fun _ h => nomatch h⟩
        case hoff =>
          intro p hp b hb
          rw [List.mem_singleton.mp hb]
          rcases List.mem_cons.mp hp with rfl | hp
          · exact Mine.ne_of_cls N7 (.head _) (.tail _ (.head _)) (by show (Value.type "tuple") ≠ (Value.type "list"); intro h; injection h with h; exact absurd h (by decide))
          rcases List.mem_cons.mp hp with rfl | hp
          · exact Nat.ne_of_lt ltD.1
          · exact hoff p hp lD (.head _)
        case turn4 =>
          rintro ⟨d4, r4⟩ pre4 post4 ⟨i4, t4⟩ u4 h4 tk4 own4 e4 hKo4 hoff4 _ hst4 Ft4 Nt4
          clear hdl hrt hrl hnR hrl3 hnR3 hd2 hr2
          have hkin4 : ∀ p ∈ Mine.Bk.cells ⟨kb1, kbu, kbr, kn, kn1, kn2, kag, krl, kdl, krt⟩, p ∈ own4 := fun p hp => hKo4 p (.tail _ (hkin p hp))
          (try dsimp only at Ft4 Nt4)
          (try simp only [List.cons_append, List.nil_append] at Nt4)
          (try k_fold)
          rcases pre4 with _ | ⟨p1, _ | ⟨p2, pre4⟩⟩
          · obtain ⟨ea, _⟩ := List.cons.inj e4
            cases ea
            cases hst4
            rcases hdlk.1 with rfl | ⟨idl, tdl, rfl⟩
            · k_steps
              unfold Mine.Stop
              rename Fr _ _ _ _ => F9
              rename News _ _ _ _ => N9
              have hn : ∀ p ∈ [(lD, listOf #[.ref lA, .ref lR, dl2, rt2] 0)], p ∈ (lD, listOf #[.ref lA, .ref lR, dl2, rt2] 0) :: own4 := List.forall_mem_cons.mpr ⟨.head _, fun _ h => nomatch h⟩
              have hp : ((dl2, rt2) : Value × Value) = Mine.stK dl2 rt2 .none krt 1 := rfl
              refine' Mine.grow_end (dl2, rt2) F9 N9 hn (fun p hp => .tail _ hp) hoff4 trivial (fun _ h => nomatch h) ?hr hp
              case hr => exact Mine.same_x
            · k_steps
              unfold Mine.Stop
              rename Fr _ _ _ _ => F9
              rename News _ _ _ _ => N9
              have hn : ∀ p ∈ [(lD, listOf #[.ref lA, .ref lR, Value.int idl tdl, rt2] 0)], p ∈ (lD, listOf #[.ref lA, .ref lR, Value.int idl tdl, rt2] 0) :: own4 := List.forall_mem_cons.mpr ⟨.head _, fun _ h => nomatch h⟩
              have hp : ((Value.int idl tdl, rt2) : Value × Value) = Mine.stK dl2 rt2 (Value.int idl tdl) krt 1 := rfl
              refine' Mine.grow_end (Value.int idl tdl, rt2) F9 N9 hn (fun p hp => .tail _ hp) hoff4 trivial (fun _ h => nomatch h) ?hr hp
              case hr => exact Mine.same_x
          · obtain ⟨_, e5⟩ := List.cons.inj e4
            obtain ⟨ea, _⟩ := List.cons.inj e5
            cases ea
            cases hst4
            rcases hdlk.2 with rfl | ⟨irt, trt, rfl⟩
            · k_steps
              unfold Mine.Stop
              rename Fr _ _ _ _ => F9
              rename News _ _ _ _ => N9
              have hn : ∀ p ∈ [(lD, listOf #[.ref lA, .ref lR, Mine.pickV dl2 kdl, rt2] 0)], p ∈ (lD, listOf #[.ref lA, .ref lR, Mine.pickV dl2 kdl, rt2] 0) :: own4 := List.forall_mem_cons.mpr ⟨.head _, fun _ h => nomatch h⟩
              have hp : ((Mine.pickV dl2 kdl, rt2) : Value × Value) = Mine.stK dl2 rt2 kdl .none 2 := rfl
              refine' Mine.grow_end (Mine.pickV dl2 kdl, rt2) F9 N9 hn (fun p hp => .tail _ hp) hoff4 trivial (fun _ h => nomatch h) ?hr hp
              case hr => exact Mine.same_x
            · k_steps
              unfold Mine.Stop
              rename Fr _ _ _ _ => F9
              rename News _ _ _ _ => N9
              have hn : ∀ p ∈ [(lD, listOf #[.ref lA, .ref lR, Mine.pickV dl2 kdl, Value.int irt trt] 0)], p ∈ (lD, listOf #[.ref lA, .ref lR, Mine.pickV dl2 kdl, Value.int irt trt] 0) :: own4 := List.forall_mem_cons.mpr ⟨.head _, fun _ h => nomatch h⟩
              have hp : ((Mine.pickV dl2 kdl, Value.int irt trt) : Value × Value) = Mine.stK dl2 rt2 kdl (Value.int irt trt) 2 := rfl
              refine' Mine.grow_end (Mine.pickV dl2 kdl, Value.int irt trt) F9 N9 hn (fun p hp => .tail _ hp) hoff4 trivial (fun _ h => nomatch h) ?hr hp
              case hr => exact Mine.same_x
          · exact absurd (congrArg List.length e4) (by simp only [List.length_append, List.length_cons, List.length_nil]; omega)
        case done4 =>
          rintro ⟨d4, r4⟩ u4 h4 tk4 _ hst4 hko4 Ft4 Nt4
          cases hst4
          (try dsimp only at Ft4 Nt4)
          (try simp only [List.cons_append, List.nil_append] at Nt4)
          (try k_fold)
          k_steps
          unfold Mine.Stop
          rename Fr _ _ _ _ => F9
          rename News _ _ _ _ => N9
          refine' Mine.grow_end (rl3, nR3, Mine.pickV dl2 kdl, Mine.pickV rt2 krt) F9 N9 (List.forall_mem_cons.mpr ⟨by k_mem, List.forall_mem_cons.mpr ⟨by k_mem, fun _ h => nomatch h⟩⟩) (fun p hp => .tail _ (.tail _ hp)) hoff ⟨Mine.NI.pick hd2 hdlk.1, Mine.NI.pick hr2 hdlk.2⟩ (fun _ h => nomatch h) ?hr ⟨?p1, hnR3, ?p3, ?p4⟩
          case hr =>
            intro z1 h1 h2 h3
            have h30 := h3
            simp only [List.contains_cons, List.contains_nil, Bool.or_false, Bool.or_eq_false_iff, beq_eq_false_iff_ne, ne_eq] at h3
            simp only [kstB, h30, List.contains_nil, Bool.false_eq_true, if_false, h1, h3.1, h3.2]
          case p1 => show rl3 = _; rw [hrl3, hrl]; simp only [List.flatMap_append, List.flatMap_cons, List.flatMap_nil, List.append_nil]
          case p3 => show Mine.pickV dl2 kdl = _; rw [hdl, List.map_append]; exact Mine.lastV_snoc.symm
          case p4 => show Mine.pickV rt2 krt = _; rw [hrt, List.map_append]; exact Mine.lastV_snoc.symm
    case done2 =>
      rintro ⟨rl2, nR, dl2, rt2⟩ u2 h2 tk2 ⟨hd2, hr2⟩ ⟨hrl, hnR, hdl, hrt⟩ hko2 Ft Nt
      (try dsimp only at Ft Nt hd2 hr2 hrl hnR hdl hrt)
      (try simp only [List.cons_append, List.nil_append] at Nt)
      (try k_fold)
      k_steps
      have h2 : @LT.lt Nat _ lA lR := ltR.1
      have h3 : @LT.lt Nat _ lR lD := ltD.1
      have h5 : @LT.lt Nat _ (L' + 1) lA := ltA.1
      have nD := Nt (lD, _) (.head _)
      have nR := Nt (lR, _) (.tail _ (.head _))
      have nA := Nt (lA, _) (.tail _ (.tail _ (.head _)))
      dsimp only at nD nR nA
      have hcl : ∀ q ∈ (B0, listOf (Value.ref k0.b :: bks.map fun k => Value.ref k.b).toArray nB) :: Tl, @LT.lt Nat _ q.1 L' := l1
      rw [hdl, hrt] at nD
      rw [hrl] at nR
      rw [he] at nA
      with_unfolding_all refine' ⟨⟨_, ⟨lD, lA, lR, _, _, rfl, rfl, ?_, ?_, ?_⟩, List.forall_mem_cons.mpr ⟨⟨nD.2.2, ?_, nD.1⟩, List.forall_mem_cons.mpr ⟨⟨nA.2.2, ?_, nA.1⟩, List.forall_mem_cons.mpr ⟨⟨nR.2.2, ?_, nR.1⟩, fun _ h => nomatch h⟩⟩⟩⟩, ⟨_, _, rfl⟩, ?_⟩
      all_goals (first | (show @Ne Nat _ _; omega) | (intro q hq; have hq1 := hcl q hq; show @Ne Nat _ _; dsimp only; omega) | skip)
      all_goals exact fun q hq => (Nt q (.tail _ (.tail _ (.tail _ hq)))).1
end Mine
end

section
namespace Mine
local macro_rules | `(tactic| walk_at "call ref") => `(tactic| (k_here; k_dflt (refine' call_cls ?k1 ?k2 ?k3 ?k4 ?k5 ?k6 ?_; (case k1 => k_asm); (case k2 => k_asm); (case k3 => k_asm); (case k4 => k_is); (case k5 => k_is); (case k6 => k_is); k_whole; intro x' d' h' F' N' l1 l2; (try k_lt l1); (try k_lt2 l2); (try k_sweep); refine' code_def ?k1 ?k2 ?k3 ?k4 ?k5 ?kA ?kF ?kK ?k6 ?k7 ?k8 ?k9 ?kB ?_ ?c2 ?c3 ?c4 ?c5; (case kA => exact rfl); (case kF => exact rfl); (case kK => first | exact rfl | assumption); (case k1 => k_asm); (case k2 => k_asm); (case k3 => k_asm); (case k4 => k_asm); (case k5 => k_asm); (case k6 => k_is); (case k7 => k_is); (case k8 => ktr_room); (case k9 => exact BindsTo.of_eq rfl); (case c5 => decide); (case kB => exact locs rfl); (case c2 => exact rfl); (case c3 => exact rfl); (case c4 => exact rfl); k_whole; intro g' L' h' FG' F' N' B' X' T'; (try dsimp only); (try k_fold))))
set_option maxHeartbeats 4000000 in
theorem entry_new {w : World} {mean : ExcName → Option Value} {mg mb : Str → Option Value} {A₀ : Around} {base h₀ : Heap} {L : Addr} {m : Str → Option Value} {s : Shared} {Q E : Value → Shared → Prop} {news : List (Addr × Obj)}
    {dp un : Nat} {gd : Option (List Code)} {cn : Str} {cs : Scope} {a : Addr} {ccd : Value} {cl : List (Str × Addr)} {outer : List Env}
    (B : Below A₀ base outer h₀) (F : Fr h₀ L s.heap m) (N : News h₀ L s.heap news) (X : (hd.heap_39 w.params).In h₀) (T : Top hd.view_39 (looseW hd.view_39 []) mean mg mb h₀) (hk : cs.kind = .function) (hd : dp + 2 < recursionLimit) (hu : un + 8 < cLine)
    (h : ∀ (X D u r : Addr) (q1 q2 q3 q4 : Tok) h' tk', Fr h₀ L h' m → News h₀ L h' ((r, listOf #[] 0) :: (u, listOf #[] 0) :: (X, instObj 59 D) :: (D, Mine.entD w.params q1 q2 q3 q4 u r .none .none) :: news) → AllLt D news → @LT.lt Nat _ D X → @LT.lt Nat _ X u → @LT.lt Nat _ u r → Q (.ref X) { s with heap := h', toks := tk' }) :
    wpAny (model Challenge.rw_kn0090_08.row.prog w) (ktrTop dp un gd cn cs L a ccd cl outer) (call (.ref 59) []) Q E s := by
  w_top off
  have hmk := kstMark
  k_steps
  rename Fr h₀ _ _ _ => kF
  rename News h₀ _ _ _ => kN
  exact h _ _ _ _ _ _ _ _ _ _ kF kN (allLt_of (by assumption)) (by omega) (by omega) (by omega)
end Mine
end

section
namespace Mine
local macro_rules | `(tactic| walk_at "call ref") => `(tactic| (k_here; k_dflt (refine' entry_new ?k1 ?k2 ?k3 ?k4 ?k5 ?kK ?kd ?ku ?_; (case k1 => k_asm); (case k2 => k_asm); (case k3 => k_asm); (case k4 => k_asm); (case k5 => k_asm); (case kK => first | exact rfl | assumption); (case kd => ktr_room); (case ku => ktr_units); k_whole); intro X' D' u' r' q1' q2' q3' q4' h' tk' F' N' l1 l2 l3 l4; unfold Mine.entD at N'; (try simp only [AllLt, and_true] at l1); (try k_lt2 l2); (try k_lt2 l3); (try k_lt2 l4); (try k_sweep)))
local macro_rules | `(tactic| walk_at "call type:set") => `(tactic| (k_here; k_dflt (refine' Mine.newSetT_G ?k1 ?k2 ?k3 ?k4 ?k5 ?_; (case k1 => k_asm); (case k2 => k_asm); (case k3 => exact rfl); (case k4 => k_mem); (case k5 => (simp only [scanBound] at *; omega)); k_whole); intro h' t' D' o' c' F' N' l1 lc' so'; (try k_lt l1); (try k_sweep)))
local macro_rules | `(tactic| walk_at "getAttr ref") => `(tactic| (k_here; (with_reducible show wpAny _ _ (getAttr (Value.ref _) (Str.ofString "__contains__") _) _ _ _); k_dflt (refine' Mine.attr_contains_G ?k1 ?k2 ?k3 ?k4 ?k5 ?_; (case k1 => k_asm); (case k2 => k_asm); (case k3 => k_mem); (case k4 => assumption); (case k5 => assumption); k_whole); intro h' t' D' F' N' l1; (try k_lt l1); (try k_sweep)))
local macro_rules | `(tactic| walk_at "call type:filter") => `(tactic| (k_here; k_dflt (refine' Mine.call_filter_G ?k1 ?k2 ?k3 ?_; (case k1 => k_asm); (case k2 => k_asm); (case k3 => k_mem); k_whole); intro h' M' I' F' N' l1 l2; (try k_lt l2); (try k_sweep)))
local macro_rules | `(tactic| walk_at "call type:list") => `(tactic| (k_here; k_dflt (refine' Mine.list_filterT_G ?k1 ?k2 ?k3 ?k4 ?k5 ?k6 ?k7 ?k8 ?k9 ?k10 ?_; (case k1 => exact rfl); (case k2 => k_asm); (case k3 => k_asm); (case k4 => k_mem); (case k5 => k_mem); (case k6 => k_mem); (case k7 => assumption); (case k8 => assumption); (case k9 => assumption); (case k10 => (simp only [sizeLine]; omega)); k_whole); intro h' t' D' c' F' N' l1; (try k_lt l1); (try k_sweep)))
local macro_rules | `(tactic| walk_at "binaryOp Add ref ref") => `(tactic| (k_here; k_dflt (refine' Mine.add_vals_G ?k1 ?k2 ?k3 ?k4 ?k5 ?_; (case k1 => k_asm); (case k2 => k_asm); (case k3 => k_mem); (case k4 => k_mem); (case k5 => (simp only [sizeLine]; omega)); k_whole); intro h' D' F' N' l1; (try k_lt l1); (try k_sweep)))
inductive Late : Prop | mk
local macro_rules | `(tactic| walk_at "eval IfExp") => `(tactic| (k_here; (with_reducible rename Late => hLate0); refine Mine.stop ?_))
set_option maxHeartbeats 4000000 in
theorem merge_walk (w : World) (mean : ExcName → Option Value) (mg mb : Str → Option Value) (x d u r y e v k : Addr) (t1 t2 t3 t4 z1 z2 z3 z4 : Tok) (ag1 ag2 : List (Str × Tok)) (rl1 rl2 : List Value) (c1 c2 c3 c4 : Nat) (dl1 dl2 rt1 rt2 : Value) (hdl1 : dl1 = .none ∨ ∃ i t, dl1 = .int i t) (hdl2 : dl2 = .none ∨ ∃ i t, dl2 = .int i t) (hrt1 : rt1 = .none ∨ ∃ i t, rt1 = .int i t) (hrt2 : rt2 = .none ∨ ∃ i t, rt2 = .int i t) (cells : List (Addr × Obj)) (ha1 : ag1.length ≤ 140) (ha2 : ag2.length ≤ 140) (hr1 : rl1.length ≤ 700) (hr2 : rl2.length ≤ 700) (hcells : cells = [(x, instObj 59 d), (d, Mine.entD w.params t1 t2 t3 t4 u r dl1 rt1), (u, listOf (strValues ag1).toArray c1), (r, listOf rl1.toArray c2), (y, instObj 59 e), (e, Mine.entD w.params z1 z2 z3 z4 v k dl2 rt2), (v, listOf (strValues ag2).toArray c3), (k, listOf rl2.toArray c4)]) :
   Mine.PureFnX 3 Challenge.rw_kn0090_08.row.prog w (hd.heap_39 w.params) hd.view_39 (looseW hd.view_39 []) mean mg mb 70 [.ref x, .ref y] cells (Mine.NewsX cells (fun V more => ∃ (X D u' r' : Addr) (q1 q2 q3 q4 : Tok) (c' : Nat), V = .ref X ∧ more = [(X, instObj 59 D), (D, Mine.entD w.params q1 q2 q3 q4 u' r' (Mine.pickV dl1 dl2) (Mine.pickV rt1 rt2)), (u', listOf (strValues (ag1.filter (fun a => decide (a.1 ∈ ag2.map (·.1))))).toArray c'), (r', listOf (rl1 ++ rl2).toArray 0)] ∧ u' ≠ r')) := by
  intro dp un gd cn cs a ccd cl outer A₀ base h₀ L m s Q E B F N X T hk hd hu hret
  refine wpAny_call ?_
  k_dflt (refine' Mine.code_pureX (Mine.NewsX cells (fun V more => ∃ (X D u' r' : Addr) (q1 q2 q3 q4 : Tok) (c' : Nat), V = .ref X ∧ more = [(X, instObj 59 D), (D, Mine.entD w.params q1 q2 q3 q4 u' r' (Mine.pickV dl1 dl2) (Mine.pickV rt1 rt2)), (u', listOf (strValues (ag1.filter (fun a => decide (a.1 ∈ ag2.map (·.1))))).toArray c'), (r', listOf (rl1 ++ rl2).toArray 0)] ∧ u' ≠ r')) (fun v h' tk' hv hg => hret v h' tk' hv hg) B F X N T ?kA ?kF ?kK ?k6 ?k7 ?k8 ?k9 ?kB ?kD ?_ ?c2 ?c3 ?c4; (case kA => exact rfl); (case kF => exact rfl); (case kK => assumption);  (case k6 => k_is); (case k7 => k_is); (case k8 => ktr_room); (case k9 => exact BindsTo.of_eq rfl); (case kB => exact rfl); (case kD => decide +kernel); (case c2 => exact rfl); (case c3 => exact rfl); (case c4 => exact rfl); k_whole; intro g' L' h' tk' cells' FG' F' N' Y' B' X' T' l1; (try k_lt l1); (with_unfolding_all (replace Y' : CellsAre _ [] _ := Y'; cases Y')); (try simp only [List.cons_append, List.nil_append] at N'); (try dsimp only); (try k_fold))
  subst hcells
  unfold Mine.entD at N'
  (try simp only [List.cons_append, List.nil_append] at N')
  have hLate : Late := .mk
  k_steps
  unfold Mine.Stop
  rename Late => hLate
  clear hLate
  refine Mine.held_at (Mine.pickV dl1 dl2) ?ev ?go
  case ev =>
    rcases hdl2 with rfl | ⟨i2, ti2, rfl⟩
    · rcases hdl1 with rfl | ⟨i1, ti1, rfl⟩ <;> (k_steps; exact Mine.heldV_intro rfl)
    · rcases hdl1 with rfl | ⟨i1, ti1, rfl⟩ <;> (k_steps; exact Mine.heldV_intro rfl)
  case go =>
    intro tk9
    have hLate : Late := .mk
    k_steps
    unfold Mine.Stop
    rename Late => hLate2
    clear hLate2
    refine Mine.held_at (Mine.pickV rt1 rt2) ?ev ?go
    case ev =>
      rcases hrt2 with rfl | ⟨i2, ti2, rfl⟩
      · rcases hrt1 with rfl | ⟨i1, ti1, rfl⟩ <;> (k_steps; exact Mine.heldV_intro rfl)
      · rcases hrt1 with rfl | ⟨i1, ti1, rfl⟩ <;> (k_steps; exact Mine.heldV_intro rfl)
    case go =>
      intro tk10
      k_steps
      rename News g' _ _ _ => NE
      have hr := NE _ (.head _)
      have hu := NE _ (.tail _ (.head _))
      have hX := NE _ (.tail _ (.tail _ (.tail _ (.tail _ (.tail _ (.tail _ (.head _)))))))
      have hD := NE _ (.tail _ (.tail _ (.tail _ (.tail _ (.tail _ (.tail _ (.tail _ (.head _))))))))
      dsimp only at hr hu hX hD
      with_unfolding_all refine' ⟨⟨_, ⟨_, _, _, _, _, _, _, _, _, rfl, rfl, ?_⟩, List.forall_mem_cons.mpr ⟨⟨hX.2.2, ?_, hX.1⟩, List.forall_mem_cons.mpr ⟨⟨hD.2.2, ?_, hD.1⟩, List.forall_mem_cons.mpr ⟨⟨hu.2.2, ?_, hu.1⟩, List.forall_mem_cons.mpr ⟨⟨hr.2.2, ?_, hr.1⟩, fun _ h => nomatch h⟩⟩⟩⟩⟩, ⟨_, _, rfl⟩, ?_⟩
      all_goals (first | exact fun z hz => (NE z (by repeat (first | exact hz | refine List.Mem.tail _ ?_))).1 | (show @Ne Nat _ _; omega) | (intro z hz; simp only [List.mem_cons, List.not_mem_nil, or_false] at hz; rcases hz with rfl | rfl | rfl | rfl | rfl | rfl | rfl | rfl <;> (show @Ne Nat _ _; dsimp only; omega)))
end Mine
end

section
namespace Mine
inductive Late8 : Prop | mk
local macro_rules | `(tactic| walk_at "getAttr ref") => `(tactic| ((with_reducible rename Late8 => hLate0); (first | (with_reducible show wpAny _ _ (getAttr (Value.ref _) (Str.ofString "delay") _) _ _ _) | (with_reducible show wpAny _ _ (getAttr (Value.ref _) (Str.ofString "req_rate") _) _ _ _)); refine Mine.stop ?_))
set_option maxHeartbeats 1000000 in
theorem parts_walk (w : World) (mean : ExcName → Option Value) (mg mb : Str → Option Value) (x d u r : Addr) (t1 t2 t3 t4 : Tok) (ag rl : List Value) (c1 c2 : Nat) (dl rt : Value) (hdl : dl = .none ∨ ∃ i t, dl = .int i t) (hrt : rt = .none ∨ ∃ i t, rt = .int i t) (cells : List (Addr × Obj)) (ha : ag.length ≤ 1000) (hr : rl.length ≤ 1000)
   (hcells : cells = [(x, instObj 59 d), (d, Mine.entD w.params t1 t2 t3 t4 u r dl rt), (u, listOf ag.toArray c1), (r, listOf rl.toArray c2)]) :
   Mine.PureFnX 2 Challenge.rw_kn0090_08.row.prog w (hd.heap_39 w.params) hd.view_39 (looseW hd.view_39 []) mean mg mb 77 [.ref x] cells (Mine.NewsX cells (fun V more => ∃ (b bu br : Addr) (n1 n2 : Nat), V = .ref b ∧ more = [(b, listOf #[.ref bu, .ref br, dl, rt] 0), (bu, listOf ag.toArray n1), (br, listOf rl.toArray n2)] ∧ @Ne Nat bu br ∧ @Ne Nat b bu ∧ @Ne Nat b br)) := by
  intro dp un gd cn cs a ccd cl outer A₀ base h₀ L m s Q E B F N X T hk hd hu hret
  w_top off
  refine wpAny_call ?_
  k_dflt (refine' Mine.code_pureX (Mine.NewsX cells (fun V more => ∃ (b bu br : Addr) (n1 n2 : Nat), V = .ref b ∧ more = [(b, listOf #[.ref bu, .ref br, dl, rt] 0), (bu, listOf ag.toArray n1), (br, listOf rl.toArray n2)] ∧ @Ne Nat bu br ∧ @Ne Nat b bu ∧ @Ne Nat b br)) (fun v h' tk' hv hg => hret v h' tk' hv hg) B F X N T ?kA ?kF ?kK ?k6 ?k7 ?k8 ?k9 ?kB ?kD ?_ ?c2 ?c3 ?c4; (case kA => exact rfl); (case kF => exact rfl); (case kK => assumption);  (case k6 => k_is); (case k7 => k_is); (case k8 => ktr_room); (case k9 => exact BindsTo.of_eq rfl); (case kB => exact rfl); (case kD => decide +kernel); (case c2 => exact rfl); (case c3 => exact rfl); (case c4 => exact rfl); k_whole; intro g' L' h' tk' cells' FG' F' N' Y' B' X' T' l1; (with_unfolding_all (replace Y' : CellsAre _ [] _ := Y'; cases Y')); (try simp only [List.cons_append, List.nil_append] at N'); (try dsimp only); (try k_fold))
  subst hcells
  k_lt l1
  unfold Mine.entD at N'
  have hLate : Late8 := .mk
  k_steps
  unfold Mine.Stop
  refine Mine.held_at dl ?ev ?go
  case ev =>
    rename Late8 => hL
    clear hL
    rcases hdl with rfl | ⟨i1, ti1, rfl⟩ <;> (k_steps; exact Mine.heldV_intro rfl)
  case go =>
    intro tk9
    k_steps
    unfold Mine.Stop
    refine Mine.held_at rt ?ev ?go
    case ev =>
      rename Late8 => hL
      clear hL
      rcases hrt with rfl | ⟨i1, ti1, rfl⟩ <;> (k_steps; exact Mine.heldV_intro rfl)
    case go =>
      intro tk10
      k_steps
      rename News g' _ _ _ => NE
      have hb := NE _ (.head _)
      have hr := NE _ (.tail _ (.head _))
      have hu := NE _ (.tail _ (.tail _ (.head _)))
      dsimp only at hb hr hu
      with_unfolding_all refine' ⟨⟨_, ⟨_, _, _, _, _, rfl, rfl, ?_, ?_, ?_⟩, List.forall_mem_cons.mpr ⟨⟨hb.2.2, ?_, hb.1⟩, List.forall_mem_cons.mpr ⟨⟨hu.2.2, ?_, hu.1⟩, List.forall_mem_cons.mpr ⟨⟨hr.2.2, ?_, hr.1⟩, fun _ h => nomatch h⟩⟩⟩⟩, ⟨_, _, rfl⟩, ?_⟩
      all_goals (first | exact fun z hz => (NE z (by repeat (first | exact hz | refine List.Mem.tail _ ?_))).1 | (show @Ne Nat _ _; omega) | (intro z hz; simp only [List.mem_cons, List.not_mem_nil, or_false] at hz; rcases hz with rfl | rfl | rfl | rfl <;> (show @Ne Nat _ _; dsimp only; omega)))
end Mine
end

section
open PySem.Calls
namespace Mine
section
variable {prog : Program} {w : World} {A : Around} {E : Value → Shared → Prop} {s : Shared} {h₀ : Heap} {env : Env} {Q : Flow → Shared → Prop}
end

theorem eq_texts {A : Around} {s : Shared} {a b : Addr} {xs : Array Value} (ha : s.heap.IsList a xs) (hb : s.heap.IsList b xs) (hne : a ≠ b) (hu : A.units < cLine) : PySem.SeqAt.EqAt A s (.ref a) (.ref b) true := by
  refine PySem.SeqAt.EqAt.of_refs hne ?_
  have := PySem.SeqAt.RcAt.lists (A := A) (e := fun _ => true) ha hb rfl hu (fun j h1 _ => PySem.SeqAt.EqAt.same _)
  have e : (List.range xs.size).all (fun _ => true) = true := by simp
  rw [e] at this
  exact this
section
variable {prog : Program} {w : World} {A : Around} {E : Value → Shared → Prop} {s : Shared}
theorem ne_book {a b u bu r br : Addr} {xs ys : Array Value} {dl rt : Value} {Q : Value → Shared → Prop} (ha : s.heap.IsList a #[.ref u, .ref r, dl, rt]) (hb : s.heap.IsList b #[.ref bu, .ref br, dl, rt])
    (h1 : s.heap.IsList u xs) (h2 : s.heap.IsList bu xs) (h3 : s.heap.IsList r ys) (h4 : s.heap.IsList br ys) (n1 : u ≠ bu) (n2 : r ≠ br) (hu : A.units < cLine) (hu1 : A.in1.units < cLine)
    (h : Q (.bool false) s) : wpAny (model prog w) A (compareOp .NotEq (.ref a) (.ref b)) Q E s := by
  have e4 : (!(List.range 4).all fun _ => true) = false := by decide
  refine PySem.SeqAt.RcNeAt.lists (e := fun _ => true) ha hb rfl hu (fun j h1' h2' => ?_) prog w E Q (by rw [← e4] at h; exact h)
  match j, h1' with
  | 0, _ => exact eq_texts h1 h2 n1 hu1
  | 1, _ => exact eq_texts h3 h4 n2 hu1
  | 2, _ => exact PySem.SeqAt.EqAt.same _
  | 3, _ => exact PySem.SeqAt.EqAt.same _
  | j + 4, h => exact absurd h (by simp)
end

section
variable {prog : Program} {w : World} {A : Around} {E : Value → Shared → Prop} {s : Shared} {h₀ : Heap} {env : Env} {Q : Flow → Shared → Prop}
end
section
variable {prog : Program} {w : World} {A : Around} {E : Value → Shared → Prop} {s : Shared} {h₀ : Heap} {L : Addr} {news : List (Addr × Obj)}
theorem ne_bookN {a b u bu r br : Addr} {xs ys : Array Value} {dl rt : Value} {c0 c1 c2 c3 c4 c5 : Nat} {Q : Value → Shared → Prop} (N : News h₀ L s.heap news) (ha : (a, listOf #[.ref u, .ref r, dl, rt] c0) ∈ news) (hb : (b, listOf #[.ref bu, .ref br, dl, rt] c1) ∈ news)
    (h1 : (u, listOf xs c2) ∈ news) (h2 : (bu, listOf xs c3) ∈ news) (h3 : (r, listOf ys c4) ∈ news) (h4 : (br, listOf ys c5) ∈ news) (n1 : u ≠ bu) (n2 : r ≠ br) (hu : A.units < cLine) (hu1 : A.in1.units < cLine)
    (h : Q (.bool false) s) : wpAny (model prog w) A (compareOp .NotEq (.ref a) (.ref b)) Q E s :=
  ne_book ⟨_, (N _ ha).1, rfl, _, rfl⟩ ⟨_, (N _ hb).1, rfl, _, rfl⟩ ⟨_, (N _ h1).1, rfl, _, rfl⟩ ⟨_, (N _ h2).1, rfl, _, rfl⟩ ⟨_, (N _ h3).1, rfl, _, rfl⟩ ⟨_, (N _ h4).1, rfl, _, rfl⟩ n1 n2 hu hu1 h
end
section
variable {prog : Program} {w : World} {A : Around} {E : Value → Shared → Prop} {s : Shared} {h₀ : Heap} {env : Env} {x : Str} {body : List Stmt} {Q : Flow → Shared → Prop}
end
section
variable {prog : Program} {w : World} {A : Around} {E : Value → Shared → Prop} {s : Shared} {h₀ : Heap} {L : Addr} {news : List (Addr × Obj)}
end
end Mine
end

section
namespace Mine
/-- what a record says -/
structure Dt where
  (ag : List (Str × Tok)) (rl : List (Int × Tok)) (dl rt : Value)
def mergeT (e f : Dt) : Dt := ⟨e.ag.filter (fun a => decide (a.1 ∈ f.ag.map (·.1))), e.rl ++ f.rl, pickV e.dl f.dl, pickV e.rt f.rt⟩
def allIn (z : Str) (l : List Dt) : Bool := l.all fun k => decide (z ∈ k.ag.map (·.1))
def dueT : List Dt → Dt
  | [] => ⟨[], [], .none, .none⟩
  | k :: r => ⟨k.ag.filter (fun p => allIn p.1 (k :: r)), (k :: r).flatMap Dt.rl, lastV ((k :: r).map Dt.dl), lastV ((k :: r).map Dt.rt)⟩
theorem pick_none (a : Value) : pickV .none a = a := by unfold pickV; split <;> rfl
theorem pick_assoc (a b c : Value) : pickV (pickV a b) c = pickV a (pickV b c) := by
  cases c <;> first | rfl | (cases b <;> rfl)
theorem foldl_pick (l : List Value) (a : Value) : l.foldl (fun a b => pickV a b) a = pickV a (lastV l) := by
  unfold lastV
  induction l generalizing a with
  | nil => rfl
  | cons b r ih => rw [List.foldl_cons, List.foldl_cons, ih, ih (pickV .none b), pick_none, pick_assoc]
theorem lastV_append (a b : List Value) : lastV (a ++ b) = pickV (lastV a) (lastV b) := by
  have : lastV (a ++ b) = (a ++ b).foldl (fun a b => pickV a b) .none := rfl
  rw [this, List.foldl_append, foldl_pick b]; rfl
theorem lastV_one (a : Value) : lastV [a] = a := pick_none a
theorem lastV_NI {l : List Value} (h : ∀ v ∈ l, NI v) : NI (lastV l) := by
  induction l with
  | nil => exact .inl rfl
  | cons a r ih =>
    rw [show a :: r = [a] ++ r from rfl, lastV_append, lastV_one]
    exact NI.pick (h a (.head _)) (ih fun v hv => h v (.tail _ hv))
theorem in_due {z : Str} : ∀ {l : List Dt}, l ≠ [] → decide (z ∈ (dueT l).ag.map (·.1)) = allIn z l
  | [], h => absurd rfl h
  | k :: r, _ => by
    rw [Bool.eq_iff_iff, decide_eq_true_iff]
    constructor
    · intro h
      obtain ⟨p, hp, rfl⟩ := List.mem_map.mp h
      exact (List.mem_filter.mp hp).2
    · intro h
      have h1 : z ∈ k.ag.map (·.1) := of_decide_eq_true (List.all_eq_true.mp h k (.head _))
      obtain ⟨p, hp, rfl⟩ := List.mem_map.mp h1
      exact List.mem_map_of_mem (List.mem_filter.mpr ⟨hp, h⟩)
/-- the law of the merges -/
theorem merge_due : ∀ {a b : List Dt}, a ≠ [] → b ≠ [] → mergeT (dueT a) (dueT b) = dueT (a ++ b)
  | [], _, h, _ => absurd rfl h
  | k :: r, [], _, h => absurd rfl h
  | k :: r, k2 :: r2, _, h => by
    have e1 : (fun a : Str × Tok => decide (a.1 ∈ (dueT (k2 :: r2)).ag.map (·.1))) = fun a => allIn a.1 (k2 :: r2) := by funext a; exact in_due h
    unfold mergeT
    rw [e1]
    show Dt.mk ((k.ag.filter (fun p => allIn p.1 (k :: r))).filter (fun a => allIn a.1 (k2 :: r2))) ((k :: r).flatMap Dt.rl ++ (k2 :: r2).flatMap Dt.rl) (pickV (lastV ((k :: r).map Dt.dl)) (lastV ((k2 :: r2).map Dt.dl))) (pickV (lastV ((k :: r).map Dt.rt)) (lastV ((k2 :: r2).map Dt.rt)))
      = Dt.mk (k.ag.filter (fun p => allIn p.1 ((k :: r) ++ (k2 :: r2)))) (((k :: r) ++ (k2 :: r2)).flatMap Dt.rl) (lastV (((k :: r) ++ (k2 :: r2)).map Dt.dl)) (lastV (((k :: r) ++ (k2 :: r2)).map Dt.rt))
    rw [List.filter_filter, List.flatMap_append, List.map_append, List.map_append, lastV_append, lastV_append]
    congr 2
    funext p
    unfold allIn
    rw [List.all_append, Bool.and_comm]
theorem due_one (k : Dt) : dueT [k] = k := by
  have e1 : k.ag.filter (fun p => allIn p.1 [k]) = k.ag := List.filter_eq_self.mpr fun p hp => by
    unfold allIn
    rw [List.all_cons, List.all_nil, Bool.and_true, decide_eq_true_iff]
    exact List.mem_map_of_mem hp
  show Dt.mk _ _ _ _ = _
  rw [e1]
  simp only [List.flatMap_cons, List.flatMap_nil, List.append_nil, List.map_cons, List.map_nil, lastV_one]
/-- a small one -/
structure Dt.Sm (n : Nat) (k : Dt) : Prop where
  (ag : k.ag.length ≤ 63) (rl : k.rl.length ≤ n) (dl : NI k.dl) (rt : NI k.rt)
theorem flat_len2 {l : List Dt} (h : ∀ k ∈ l, k.rl.length ≤ 63) : (l.flatMap Dt.rl).length ≤ 63 * l.length := by
  induction l with
  | nil => exact Nat.le_refl _
  | cons k r ih =>
    have h1 := h k (.head _)
    have h2 := ih fun k hk => h k (.tail _ hk)
    rw [List.flatMap_cons, List.length_append, List.length_cons]
    omega
theorem due_small : ∀ {l : List Dt}, (∀ k ∈ l, k.Sm 63) → l.length ≤ 5 → (dueT l).Sm 315
  | [], _, _ => ⟨Nat.zero_le _, Nat.zero_le _, .inl rfl, .inl rfl⟩
  | k :: r, h, hl => by
    refine ⟨Nat.le_trans (List.length_filter_le _ _) (h k (.head _)).ag, ?_, lastV_NI fun v hv => ?_, lastV_NI fun v hv => ?_⟩
    · have := flat_len2 fun k hk => (h k hk).rl
      exact Nat.le_trans this (by omega)
    · obtain ⟨z, hz, rfl⟩ := List.mem_map.mp hv
      exact (h z hz).dl
    · obtain ⟨z, hz, rfl⟩ := List.mem_map.mp hv
      exact (h z hz).rt
/-- the stretch from i on, j + 1 long -/
def sl (ks : List Dt) (i j : Nat) : List Dt := (ks.drop i).take (j + 1)
theorem sl_ne {ks : List Dt} {i j : Nat} (h : i < ks.length) : sl ks i j ≠ [] := by
  unfold sl
  intro e
  have := congrArg List.length e
  rw [List.length_take, List.length_drop, List.length_nil] at this
  omega
theorem sl_app {ks : List Dt} {i c s : Nat} (h : c < s) : sl ks i c ++ sl ks (i + c + 1) (s - c - 1) = sl ks i s := by
  have e := @List.take_add _ (ks.drop i) (c + 1) (s - c - 1 + 1)
  rw [List.drop_drop] at e
  unfold sl
  rw [show i + c + 1 = i + (c + 1) by omega, ← e, show c + 1 + (s - c - 1 + 1) = s + 1 by omega]
theorem sl_small {ks : List Dt} {i j : Nat} (h : ∀ k ∈ ks, k.Sm 63) (hl : ks.length ≤ 5) : (dueT (sl ks i j)).Sm 315 := by
  refine due_small (fun k hk => h k (List.mem_of_mem_drop (List.mem_of_mem_take hk))) ?_
  unfold sl
  rw [List.length_take, List.length_drop]
  omega
theorem sl_merge {ks : List Dt} {i c s : Nat} (h : c < s) (hi : i + s < ks.length) : mergeT (dueT (sl ks i c)) (dueT (sl ks (i + c + 1) (s - c - 1))) = dueT (sl ks i s) := by
  rw [merge_due (sl_ne (by omega)) (sl_ne (by omega)), sl_app h]
def Bk.dt (k : Bk) : Dt := ⟨k.ag, k.rl, k.dl, k.rt⟩
theorem inAll_is (z : Str) (l : List Bk) : inAll z l = allIn z (l.map Bk.dt) := by
  unfold inAll allIn
  rw [List.all_map]; rfl
/-- a record in the ledger -/
structure Rc where
  (x d u r : Addr) (t1 t2 t3 t4 : Tok) (ag : List (Str × Tok)) (rl : List (Int × Tok)) (nu nr : Nat) (dl rt : Value)
def Rc.dt (e : Rc) : Dt := ⟨e.ag, e.rl, e.dl, e.rt⟩
def Rc.cells (q : Params) (e : Rc) : List (Addr × Obj) :=
  [(e.x, instObj 59 e.d), (e.d, entD q e.t1 e.t2 e.t3 e.t4 e.u e.r e.dl e.rt), (e.u, listOf (strValues e.ag).toArray e.nu), (e.r, listOf (intValues e.rl).toArray e.nr)]
def Rc.adr (e : Rc) : List Addr := [e.x, e.d, e.u, e.r]
theorem Rc.cells_adr (q : Params) (e : Rc) : (e.cells q).map (·.1) = e.adr := rfl
end Mine
end

section
namespace Mine
theorem parts_call {w : World} {mean : ExcName → Option Value} {mg mb : Str → Option Value} {A₀ : Around} {base h₀ : Heap} {L : Addr} {m : Str → Option Value} {s : Shared} {Q E : Value → Shared → Prop} {news : List (Addr × Obj)}
    {dp un : Nat} {gd : Option (List Code)} {cn : Str} {cs : Scope} {a : Addr} {ccd : Value} {cl : List (Str × Addr)} {outer : List Env}
    (e : Rc) (hs : e.dt.Sm 315)
    (B : Below A₀ base outer h₀) (F : Fr h₀ L s.heap m) (N : News h₀ L s.heap news) (X : (hd.heap_39 w.params).In h₀) (Tp : Top hd.view_39 (looseW hd.view_39 []) mean mg mb h₀) (hck : cs.kind = .function) (hdp : dp + 2 < recursionLimit) (hu : un + 8 * 2 < cLine)
    (hc : ∀ q ∈ e.cells w.params, q ∈ news)
    (h : ∀ (k : Bk) h' tk', k.dt = e.dt → Fr h₀ L h' m → News h₀ L h' (k.cells ++ news) → (∀ q ∈ news, ∀ z ∈ k.cells, q.1 ≠ z.1) → @Ne Nat k.bu k.br → Q (.ref k.b) { s with heap := h', toks := tk' }) :
    wpAny (model Challenge.rw_kn0090_08.row.prog w) (ktrTop dp un gd cn cs L a ccd cl outer) (call (.ref 77) [.ref e.x]) Q E s := by
  have h1 := hs.ag
  have h2 := hs.rl
  refine use_newsX (parts_walk w mean mg mb e.x e.d e.u e.r e.t1 e.t2 e.t3 e.t4 (strValues e.ag) (intValues e.rl) e.nu e.nr e.dl e.rt hs.dl hs.rt (e.cells w.params) (by rw [strValues_length]; exact Nat.le_trans h1 (by decide)) (by rw [intValues_length]; exact Nat.le_trans h2 (by decide)) rfl) B F N X Tp hck hdp hu hc ?_
  rintro v more h' tk' ⟨b, bu, br, n1, n2, rfl, rfl, g1, g2, g3⟩ F' N' hoff
  exact h ⟨b, bu, br, 0, n1, n2, e.ag, e.rl, e.dl, e.rt⟩ h' tk' rfl F' N' hoff g1
theorem due_call {w : World} {mean : ExcName → Option Value} {mg mb : Str → Option Value} {A₀ : Around} {base h₀ : Heap} {L : Addr} {m : Str → Option Value} {s : Shared} {Q E : Value → Shared → Prop} {news : List (Addr × Obj)}
    {dp un : Nat} {gd : Option (List Code)} {cn : Str} {cs : Scope} {a : Addr} {ccd : Value} {cl : List (Str × Addr)} {outer : List Env}
    (B0 : Addr) (nB : Nat) (bks : List Bk) (hne : bks ≠ []) (hlen : bks.length ≤ 5) (hs : ∀ k ∈ bks, k.dt.Sm 63)
    (B : Below A₀ base outer h₀) (F : Fr h₀ L s.heap m) (N : News h₀ L s.heap news) (X : (hd.heap_39 w.params).In h₀) (Tp : Top hd.view_39 (looseW hd.view_39 []) mean mg mb h₀) (hck : cs.kind = .function) (hdp : dp + 2 < recursionLimit) (hu : un + 8 * 2 < cLine)
    (hB : (B0, listOf (bks.map fun k => Value.ref k.b).toArray nB) ∈ news) (hc : ∀ k ∈ bks, ∀ q ∈ k.cells, q ∈ news)
    (h : ∀ (k : Bk) h' tk', k.dt = dueT (bks.map Bk.dt) → Fr h₀ L h' m → News h₀ L h' (k.cells ++ news) → (∀ q ∈ news, ∀ z ∈ k.cells, q.1 ≠ z.1) → @Ne Nat k.bu k.br → Q (.ref k.b) { s with heap := h', toks := tk' }) :
    wpAny (model Challenge.rw_kn0090_08.row.prog w) (ktrTop dp un gd cn cs L a ccd cl outer) (call (.ref 82) [.ref B0]) Q E s := by
  obtain ⟨k0, r, rfl⟩ : ∃ k0 r, bks = k0 :: r := by
    cases bks with
    | nil => exact absurd rfl hne
    | cons k0 r => exact ⟨k0, r, rfl⟩
  rw [List.length_cons] at hlen
  refine use_newsX (due_walk w mean mg mb B0 nB k0 r news ((B0, listOf (Value.ref k0.b :: r.map fun k => Value.ref k.b).toArray nB) :: news) hc (by omega) (fun k hk => ?_) (fun k hk => ⟨(hs k hk).dl, (hs k hk).rt⟩) rfl) B F N X Tp hck hdp hu ?_ ?_
  · exact ⟨Nat.le_trans (hs k hk).ag (by decide), Nat.le_trans (hs k hk).rl (by decide)⟩
  · intro q hq
    rcases List.mem_cons.mp hq with rfl | hq
    · exact hB
    · exact hq
  rintro v more h' tk' ⟨b, bu, br, n1, n2, rfl, rfl, g1, g2, g3⟩ F' N' hoff
  refine h ⟨b, bu, br, 0, n1, n2, k0.ag.filter (fun p => inAll p.1 (k0 :: r)), (k0 :: r).flatMap Bk.rl, lastV ((k0 :: r).map Bk.dl), lastV ((k0 :: r).map Bk.rt)⟩ h' tk' ?_ F' N' hoff g1
  have e1 : (fun p : Str × Tok => inAll p.1 (k0 :: r)) = fun p => allIn p.1 (k0.dt :: r.map Bk.dt) := by funext p; exact inAll_is p.1 (k0 :: r)
  have e2 : (k0 :: r).flatMap Bk.rl = (k0.dt :: r.map Bk.dt).flatMap Dt.rl := by
    rw [← List.map_cons, List.flatMap_map]; rfl
  have e3 : (k0 :: r).map Bk.dl = (k0.dt :: r.map Bk.dt).map Dt.dl := by
    rw [← List.map_cons, List.map_map]; rfl
  have e4 : (k0 :: r).map Bk.rt = (k0.dt :: r.map Bk.dt).map Dt.rt := by
    rw [← List.map_cons, List.map_map]; rfl
  show Dt.mk (k0.ag.filter (fun p => inAll p.1 (k0 :: r))) ((k0 :: r).flatMap Bk.rl) (lastV ((k0 :: r).map Bk.dl)) (lastV ((k0 :: r).map Bk.rt)) = Dt.mk (k0.ag.filter (fun p => allIn p.1 (k0.dt :: r.map Bk.dt))) ((k0.dt :: r.map Bk.dt).flatMap Dt.rl) (lastV ((k0.dt :: r.map Bk.dt).map Dt.dl)) (lastV ((k0.dt :: r.map Bk.dt).map Dt.rt))
  rw [e1, e2, e3, e4]
theorem merge_call {w : World} {mean : ExcName → Option Value} {mg mb : Str → Option Value} {A₀ : Around} {base h₀ : Heap} {L : Addr} {m : Str → Option Value} {s : Shared} {Q E : Value → Shared → Prop} {news : List (Addr × Obj)}
    {dp un : Nat} {gd : Option (List Code)} {cn : Str} {cs : Scope} {a : Addr} {ccd : Value} {cl : List (Str × Addr)} {outer : List Env}
    (e f : Rc) (he : e.dt.Sm 315) (hf : f.dt.Sm 315)
    (B : Below A₀ base outer h₀) (F : Fr h₀ L s.heap m) (N : News h₀ L s.heap news) (X : (hd.heap_39 w.params).In h₀) (Tp : Top hd.view_39 (looseW hd.view_39 []) mean mg mb h₀) (hck : cs.kind = .function) (hdp : dp + 3 < recursionLimit) (hu : un + 8 * 3 < cLine)
    (hc1 : ∀ q ∈ e.cells w.params, q ∈ news) (hc2 : ∀ q ∈ f.cells w.params, q ∈ news)
    (h : ∀ (g : Rc) h' tk', g.dt = mergeT e.dt f.dt → Fr h₀ L h' m → News h₀ L h' (g.cells w.params ++ news) → (∀ q ∈ news, ∀ z ∈ g.cells w.params, q.1 ≠ z.1) → @Ne Nat g.u g.r → Q (.ref g.x) { s with heap := h', toks := tk' }) :
    wpAny (model Challenge.rw_kn0090_08.row.prog w) (ktrTop dp un gd cn cs L a ccd cl outer) (call (.ref 70) [.ref e.x, .ref f.x]) Q E s := by
  have a1 : e.ag.length ≤ 63 := he.ag
  have a2 : f.ag.length ≤ 63 := hf.ag
  have a3 : e.rl.length ≤ 315 := he.rl
  have a4 : f.rl.length ≤ 315 := hf.rl
  refine use_newsX (merge_walk w mean mg mb e.x e.d e.u e.r f.x f.d f.u f.r e.t1 e.t2 e.t3 e.t4 f.t1 f.t2 f.t3 f.t4 e.ag f.ag (intValues e.rl) (intValues f.rl) e.nu e.nr f.nu f.nr e.dl f.dl e.rt f.rt he.dl hf.dl he.rt hf.rt (e.cells w.params ++ f.cells w.params) (by omega) (by omega) (by rw [intValues_length]; omega) (by rw [intValues_length]; omega) rfl) B F N X Tp hck hdp hu (fun q hq => ?_) ?_
  · rcases List.mem_append.mp hq with hq | hq
    · exact hc1 q hq
    · exact hc2 q hq
  · rintro v more h' tk' ⟨X', D', u', r', q1, q2, q3, q4, c', rfl, rfl, hne⟩ F' N' hoff
    rw [show intValues e.rl ++ intValues f.rl = intValues (e.rl ++ f.rl) by simp [intValues]] at N' hoff
    exact h ⟨X', D', u', r', q1, q2, q3, q4, e.ag.filter (fun a => decide (a.1 ∈ f.ag.map (·.1))), e.rl ++ f.rl, c', 0, pickV e.dl f.dl, pickV e.rt f.rt⟩ h' tk' rfl F' N' hoff hne
end Mine
end

section
namespace Mine
/-- the script's loop: the records before the last, the last, the count of the list -/
def led8 (q : Params) (O : Addr) (p : List Rc) (e : Rc) (n : Nat) : List (Addr × Obj) := (O, listOf ((p ++ [e]).map fun e => Value.ref e.x).toArray n) :: (e.cells q ++ p.flatMap (Rc.cells q))
def adrs8 (O : Addr) (p : List Rc) (e : Rc) : List Addr := O :: (e.adr ++ p.flatMap Rc.adr)
theorem led8_adr (q : Params) (O : Addr) (p : List Rc) (e : Rc) (n : Nat) : (led8 q O p e n).map (·.1) = adrs8 O p e := by
  unfold led8 adrs8
  rw [List.map_cons, List.map_append (l₁ := e.cells q), List.map_flatMap]
  rfl
structure Rc.Ok (k : Nat) (e : Rc) : Prop where
  (ag : e.ag.length ≤ k) (rl : e.rl.length ≤ k) (dl : NI e.dl) (rt : NI e.rt)
theorem Rc.Ok.up {k : Nat} {e : Rc} (h : e.Ok k) : e.Ok (k + 1) := ⟨Nat.le_succ_of_le h.ag, Nat.le_succ_of_le h.rl, h.dl, h.rt⟩
theorem Rc.Ok.sm {k : Nat} {e : Rc} (h : e.Ok k) (hk : k ≤ 63) : e.dt.Sm 63 := ⟨Nat.le_trans h.ag hk, Nat.le_trans h.rl hk, h.dl, h.rt⟩
section
variable {q : Params} {O : Addr} {own news' T : List (Addr × Obj)} {p : List Rc} {e e' : Rc} {k n : Nat} {h₀ h : Heap} {L : Addr}
theorem open8 (N : News h₀ L h (led8 q O p e n ++ own)) : News h₀ L h ((O, listOf ((p ++ [e]).map fun e => Value.ref e.x).toArray n) :: (e.cells q ++ (p.flatMap (Rc.cells q) ++ own))) := fun z hz => N z (by
  unfold led8
  rw [List.cons_append, List.append_assoc]
  exact hz)
theorem apart8 (hnd : (adrs8 O p e).Nodup) (hoff : OwnOff own (adrs8 O p e)) : ((@Ne Nat e.x e.d ∧ @Ne Nat e.x e.u ∧ @Ne Nat e.x e.r) ∧ (@Ne Nat e.d e.u ∧ @Ne Nat e.d e.r) ∧ @Ne Nat e.u e.r) ∧ (@Ne Nat O e.x ∧ @Ne Nat O e.d ∧ @Ne Nat O e.u ∧ @Ne Nat O e.r) ∧ OwnOff (p.flatMap (Rc.cells q) ++ own) [O, e.x, e.d, e.u, e.r] := by
  unfold adrs8 at hnd
  rw [List.nodup_cons, List.nodup_append] at hnd
  obtain ⟨hO, h1, h2, h3⟩ := hnd
  have hO' : ∀ a ∈ e.adr, O ≠ a := fun a ha => by rintro rfl; exact hO (List.mem_append_left _ ha)
  simp only [Rc.adr, List.nodup_cons, List.mem_cons, List.not_mem_nil, or_false, not_or, not_false_eq_true, List.nodup_nil, and_true] at h1
  refine ⟨⟨⟨h1.1.1, h1.1.2.1, h1.1.2.2⟩, ⟨h1.2.1.1, h1.2.1.2⟩, h1.2.2⟩, ⟨hO' _ (by simp [Rc.adr]), hO' _ (by simp [Rc.adr]), hO' _ (by simp [Rc.adr]), hO' _ (by simp [Rc.adr])⟩, ?_⟩
  intro z hz b hb
  have hb' : b = O ∨ b ∈ e.adr := List.mem_cons.mp hb
  rcases List.mem_append.mp hz with hz | hz
  · obtain ⟨f, hf, hzf⟩ := List.mem_flatMap.mp hz
    have ha : z.1 ∈ p.flatMap Rc.adr := List.mem_flatMap.mpr ⟨f, hf, by rw [← Rc.cells_adr q]; exact List.mem_map_of_mem hzf⟩
    rcases hb' with rfl | hb'
    · rintro rfl; exact hO (List.mem_append_right _ ha)
    · exact Ne.symm (h3 b hb' _ ha)
  · rcases hb' with rfl | hb'
    · exact hoff z hz _ (.head _)
    · exact hoff z hz b (.tail _ (List.mem_append_left _ hb'))
/-- something was put into the last record -/
theorem turn8 (hT : p.flatMap (Rc.cells q) ++ own = T) (hnd : (adrs8 O p e).Nodup) (hoff : OwnOff own (adrs8 O p e)) (hl : p.length ≤ 4) (hE : ∀ x ∈ e :: p, x.Ok k)
    (hO : (O, listOf ((p ++ [e]).map fun e => Value.ref e.x).toArray n) ∈ news') (h4 : ∀ z ∈ e'.cells q, z ∈ news') (hTn : ∀ z ∈ T, z ∈ news') (hadr : e'.adr = e.adr) (hok : e'.Ok (k + 1)) :
    (∀ z ∈ led8 q O p e' n, z ∈ news') ∧ (∀ z ∈ own, z ∈ news') ∧ OwnOff own ((led8 q O p e' n).map (·.1)) ∧ ((adrs8 O p e').Nodup ∧ p.length ≤ 4 ∧ ∀ x ∈ e' :: p, x.Ok (k + 1)) := by
  subst hT
  have ea : adrs8 O p e' = adrs8 O p e := by unfold adrs8; rw [hadr]
  refine ⟨fun z hz => ?_, fun z hz => hTn z (List.mem_append_right _ hz), by rw [led8_adr, ea]; exact hoff, by rw [ea]; exact hnd, hl, fun x hx => ?_⟩
  · rcases List.mem_cons.mp hz with rfl | hz
    · have hx : e'.x = e.x := (List.cons.inj hadr).1
      rw [List.map_append, List.map_cons, List.map_nil] at hO ⊢
      rw [hx]; exact hO
    rcases List.mem_append.mp hz with hz | hz
    · exact h4 z hz
    · exact hTn z (List.mem_append_left _ hz)
  · rcases List.mem_cons.mp hx with rfl | hx
    · exact hok
    · exact (hE x (.tail _ hx)).up
/-- a new record -/
theorem turn8n (hT : p.flatMap (Rc.cells q) ++ own = T) (hnd : (adrs8 O p e).Nodup) (hoff : OwnOff own (adrs8 O p e)) (hl : p.length < 4) (hE : ∀ x ∈ e :: p, x.Ok k)
    (hO : (O, listOf ((p ++ [e] ++ [e']).map fun e => Value.ref e.x).toArray n) ∈ news') (h4 : ∀ z ∈ e'.cells q, z ∈ news') (h5 : ∀ z ∈ e.cells q, z ∈ news') (hTn : ∀ z ∈ T, z ∈ news') (hn' : e'.adr.Nodup) (hlt : ∀ a ∈ e'.adr, (∀ b ∈ O :: e.adr, @LT.lt Nat _ b a) ∧ ∀ z ∈ T, @LT.lt Nat _ z.1 a) (hok : e'.Ok (k + 1)) :
    (∀ z ∈ led8 q O (p ++ [e]) e' n, z ∈ news') ∧ (∀ z ∈ own, z ∈ news') ∧ OwnOff own ((led8 q O (p ++ [e]) e' n).map (·.1)) ∧ ((adrs8 O (p ++ [e]) e').Nodup ∧ (p ++ [e]).length ≤ 4 ∧ ∀ x ∈ e' :: (p ++ [e]), x.Ok (k + 1)) := by
  subst hT
  have ep : (p ++ [e]).flatMap Rc.adr = p.flatMap Rc.adr ++ e.adr := by rw [List.flatMap_append, List.flatMap_cons, List.flatMap_nil, List.append_nil]
  have old : ∀ a ∈ adrs8 O p e, ∀ b ∈ e'.adr, @LT.lt Nat _ a b := fun a ha b hb => by
    rcases List.mem_cons.mp ha with rfl | ha
    · exact (hlt b hb).1 _ (.head _)
    rcases List.mem_append.mp ha with ha | ha
    · exact (hlt b hb).1 _ (.tail _ ha)
    · obtain ⟨f, hf, haf⟩ := List.mem_flatMap.mp ha
      rw [← Rc.cells_adr q] at haf
      obtain ⟨z, hz, rfl⟩ := List.mem_map.mp haf
      exact (hlt b hb).2 z (List.mem_append_left _ (List.mem_flatMap.mpr ⟨f, hf, hz⟩))
  refine ⟨fun z hz => ?_, fun z hz => hTn z (List.mem_append_right _ hz), ?_, ?_, by rw [List.length_append]; exact hl, fun x hx => ?_⟩
  · rcases List.mem_cons.mp hz with rfl | hz
    · exact hO
    rcases List.mem_append.mp hz with hz | hz
    · exact h4 z hz
    · rw [List.flatMap_append, List.flatMap_cons, List.flatMap_nil, List.append_nil] at hz
      rcases List.mem_append.mp hz with hz | hz
      · exact hTn z (List.mem_append_left _ hz)
      · exact h5 z hz
  · rw [led8_adr]
    intro z hz b hb
    rcases List.mem_cons.mp hb with rfl | hb
    · exact hoff z hz _ (.head _)
    rcases List.mem_append.mp hb with hb | hb
    · exact Nat.ne_of_lt ((hlt b hb).2 z (List.mem_append_right _ hz))
    · rw [ep] at hb
      refine hoff z hz b (.tail _ ?_)
      rcases List.mem_append.mp hb with hb | hb
      · exact List.mem_append_right _ hb
      · exact List.mem_append_left _ hb
  · unfold adrs8 at hnd ⊢
    rw [List.nodup_cons, List.nodup_append] at hnd
    obtain ⟨hO1, h1, h2, h3⟩ := hnd
    rw [ep, List.nodup_cons, List.nodup_append, List.nodup_append]
    refine ⟨fun hm => ?_, hn', ⟨h2, h1, fun a ha b hb => Ne.symm (h3 b hb a ha)⟩, fun a ha b hb => ?_⟩
    · rcases List.mem_append.mp hm with hm | hm
      · exact Nat.lt_irrefl _ ((hlt O hm).1 O (.head _))
      · rcases List.mem_append.mp hm with hm | hm
        · exact hO1 (List.mem_append_right _ hm)
        · exact hO1 (List.mem_append_left _ hm)
    · refine Ne.symm (Nat.ne_of_lt (old b (.tail _ ?_) a ha))
      rcases List.mem_append.mp hb with hb | hb
      · exact List.mem_append_right _ hb
      · exact List.mem_append_left _ hb
  · rcases List.mem_cons.mp hx with rfl | hx
    · exact hok
    · refine (hE x ?_).up
      rcases List.mem_append.mp hx with hx | hx
      · exact .tail _ hx
      · rw [List.mem_singleton.mp hx]; exact .head _
end
theorem new8_nd {x d u r : Addr} {t1 t2 t3 t4 : Tok} {ag : List (Str × Tok)} {rl : List (Int × Tok)} {nu nr : Nat} {dl rt : Value} (h1 : @LT.lt Nat _ d x) (h2 : @LT.lt Nat _ x u) (h3 : @LT.lt Nat _ u r) : (Rc.adr ⟨x, d, u, r, t1, t2, t3, t4, ag, rl, nu, nr, dl, rt⟩).Nodup := by
  simp only [Rc.adr, List.nodup_cons, List.mem_cons, List.not_mem_nil, not_false_eq_true, or_false, not_or, List.nodup_nil, and_true]
  refine ⟨⟨?_, ?_, ?_⟩, ⟨?_, ?_⟩, ?_⟩ <;> (show @Ne Nat _ _; omega)
theorem new8_lt {O x d u r : Addr} {e : Rc} {T : List (Addr × Obj)} {t1 t2 t3 t4 : Tok} {ag : List (Str × Tok)} {rl : List (Int × Tok)} {nu nr : Nat} {dl rt : Value} (h1 : @LT.lt Nat _ d x) (h2 : @LT.lt Nat _ x u) (h3 : @LT.lt Nat _ u r)
    (g1 : @LT.lt Nat _ O d) (g2 : @LT.lt Nat _ e.x d) (g3 : @LT.lt Nat _ e.d d) (g4 : @LT.lt Nat _ e.u d) (g5 : @LT.lt Nat _ e.r d) (g6 : ∀ p ∈ T, @LT.lt Nat _ p.1 d) :
    ∀ a ∈ Rc.adr ⟨x, d, u, r, t1, t2, t3, t4, ag, rl, nu, nr, dl, rt⟩, (∀ b ∈ O :: e.adr, @LT.lt Nat _ b a) ∧ ∀ z ∈ T, @LT.lt Nat _ z.1 a := by
  intro a ha
  have hda : @LE.le Nat _ d a := by
    simp only [Rc.adr, List.mem_cons, List.not_mem_nil, or_false] at ha
    rcases ha with rfl | rfl | rfl | rfl <;> omega
  refine ⟨fun b hb => ?_, fun z hz => Nat.lt_of_lt_of_le (g6 z hz) hda⟩
  have : @LT.lt Nat _ b d := by
    simp only [Rc.adr, List.mem_cons, List.not_mem_nil, or_false] at hb
    rcases hb with rfl | rfl | rfl | rfl | rfl <;> assumption
  exact Nat.lt_of_lt_of_le this hda
theorem sm_up {k : Dt} (h : k.Sm 63) : k.Sm 315 := ⟨h.ag, Nat.le_trans h.rl (by decide), h.dl, h.rt⟩
theorem off1_mem {D : Addr} : ∀ {l : List (Addr × Obj)}, LCg.Off1 D l → ∀ p ∈ l, p.1 ≠ D
  | [], _, _, h => nomatch h
  | _ :: _, x, p, h => by
    rcases List.mem_cons.mp h with rfl | h
    · exact x.1
    · exact off1_mem x.2 p h
theorem done8 {q : Params} {O : Addr} {p : List Rc} {e : Rc} {n k : Nat} {h₀ h : Heap} {L : Addr} (N : News h₀ L h (led8 q O p e n)) (hl : p.length ≤ 4) (hE : ∀ x ∈ e :: p, x.Ok k) (hk : k ≤ 63) :
    ∃ (es : List Rc) (T : List (Addr × Obj)), (1 ≤ es.length ∧ es.length ≤ 5) ∧ (∀ e ∈ es, e.dt.Sm 63) ∧ (∀ e ∈ es, ∀ z ∈ e.cells q, z ∈ T) ∧ News h₀ L h ((O, listOf (es.map fun e => Value.ref e.x).toArray n) :: T) := by
  have mem : ∀ {x : Rc}, x ∈ p ++ [e] → x ∈ e :: p := fun {x} hx => by
    rcases List.mem_append.mp hx with hx | hx
    · exact .tail _ hx
    · rw [List.mem_singleton.mp hx]; exact .head _
  refine ⟨p ++ [e], e.cells q ++ p.flatMap (Rc.cells q), ?_, fun x hx => (hE x (mem hx)).sm hk, fun x hx z hz => ?_, N⟩
  · rw [List.length_append, List.length_singleton]; omega
  · rcases List.mem_cons.mp (mem hx) with rfl | hx
    · exact List.mem_append_left _ hz
    · exact List.mem_append_right _ (List.mem_flatMap.mpr ⟨x, hx, hz⟩)
def Rc.pushA (e : Rc) (v : Str × Tok) : Rc := { e with ag := e.ag ++ [v], nu := e.nu + 1 }
def Rc.pushR (e : Rc) (v : Int × Tok) : Rc := { e with rl := e.rl ++ [v], nr := e.nr + 1 }
def Rc.setDR (e : Rc) (d r : Value) : Rc := { e with dl := d, rt := r }
section
variable {e : Rc} {k : Nat}
theorem ok8_pushA {v : Str × Tok} (h : e.Ok k) : (e.pushA v).Ok (k + 1) := ⟨by have := h.ag; show (e.ag ++ [v]).length ≤ _; rw [List.length_append, List.length_singleton]; omega, Nat.le_succ_of_le h.rl, h.dl, h.rt⟩
theorem ok8_pushR {v : Int × Tok} (h : e.Ok k) : (e.pushR v).Ok (k + 1) := ⟨Nat.le_succ_of_le h.ag, by have := h.rl; show (e.rl ++ [v]).length ≤ _; rw [List.length_append, List.length_singleton]; omega, h.dl, h.rt⟩
theorem ok8_setDR {d r : Value} (h : e.Ok k) (hd : NI d) (hr : NI r) : (e.setDR d r).Ok (k + 1) := ⟨Nat.le_succ_of_le h.ag, Nat.le_succ_of_le h.rl, hd, hr⟩
end
section
variable {prog : Program} {w : World} {A : Around} {E : Value → Shared → Prop} {s : Shared} {h₀ : Heap} {L D : Addr} {news : List (Addr × Obj)}
theorem sub_menu {value slice : Expr} {k : Int} {u : Tok} {n : Nat} {a b c : Value} {Q : Value → Shared → Prop} (N : News h₀ L s.heap news) (hm : (D, listOf #[a, b, c] n) ∈ news)
    (h0 : 0 ≤ k) (h1 : k < 3) (ha : NI a) (hb : NI b) (hc : NI c) (h : ∀ v, NI v → Q v s)
    (hs : subscripted slice false (.ref D) (.int k u) = operate [.ref D, .int k u] (getItem (.ref D) (.int k u)) := by with_unfolding_all rfl) :
    wpAny (model prog w) A (subscriptTail value slice (.ref D) (.int k u)) Q E s := by
  have hk : k = 0 ∨ k = 1 ∨ k = 2 := by omega
  rcases hk with rfl | rfl | rfl
  · exact sub_L (vs := [a, b, c]) N hm (by simp) (by simp) (by simp) (x := a) rfl (h _ ha) hs
  · exact sub_L (vs := [a, b, c]) N hm (by simp) (by simp) (by simp) (x := b) rfl (h _ hb) hs
  · exact sub_L (vs := [a, b, c]) N hm (by simp) (by simp) (by simp) (x := c) rfl (h _ hc) hs
theorem len_M {α : Type} {xs : List α} {val : α → Value} {c : Nat} {Q : Value → Shared → Prop} (N : News h₀ L s.heap news) (hm : (D, listOf (xs.map val).toArray c) ∈ news) (hz : xs.length ≤ 100000)
    (h : Q (.int (xs.length : Int) (s.toks + 1)) { s with toks := s.toks + 1 + 1 }) : wpAny (model prog w) A (call (.builtin "len") [.ref D]) Q E s :=
  len_L N hm (by rw [List.length_map]; omega) (by rw [List.length_map]; exact h)
/-- the last of a list -/
theorem sub_last {α : Type} {value slice : Expr} {u : Tok} {n : Nat} {p : List α} {e : α} {val : α → Value} {Q : Value → Shared → Prop} (N : News h₀ L s.heap news) (hm : (D, listOf ((p ++ [e]).map val).toArray n) ∈ news) (hl : p.length ≤ 100000) (h : Q (val e) s)
    (hs : subscripted slice false (.ref D) (.int (-1) u) = operate [.ref D, .int (-1) u] (getItem (.ref D) (.int (-1) u)) := by with_unfolding_all rfl) :
    wpAny (model prog w) A (subscriptTail value slice (.ref D) (.int (-1) u)) Q E s := by
  have e1 : ((p ++ [e]).map val).length = p.length + 1 := by rw [List.length_map, List.length_append, List.length_singleton]
  refine sub_L N hm (by rw [e1]; omega) (by rw [e1]; omega) (by rw [e1]; omega) (x := val e) ?_ h hs
  unfold place
  rw [if_pos (by decide), e1, show ((-1 : Int) + ((p.length + 1 : Nat) : Int)).toNat = p.length by omega, List.map_append]
  rw [List.getElem?_append_right (by simp)]
  simp
end
end Mine
end

section
open PySem.Calls
namespace Mine
section
variable {prog : Program} {w : World} {A : Around} {h₀ : Heap} {L : Addr} {m : Str → Option Value} {env : Env} {elt : Expr} {x : Str} {scope : Scope} {cl : List (Str × Addr)} {s : Shared} {S : List (Addr × Obj) → Prop} {Fin : List Value → List (Addr × Obj) → Prop}
open LCg
/-- a comprehension without a test, by what holds of the values and of the ledger made so far -/
theorem map_inv {α : Type} (val : α → Value) (xs : List α) (J : Nat → List Value → List (Addr × Obj) → Prop) {news₀ : List (Addr × Obj)} (h0 : J 0 [] news₀)
    (turn : ∀ i a I oI C oC D m₂ ys news h tk (E' : Value → Shared → Prop), xs[i]? = some a → J i ys news → NsObj oC m₂ → m₂ x = some (val a) → Fr h₀ L h m → News h₀ L h ((I, oI) :: (C, oC) :: (D, lst ys) :: news) → Off3 I C D news → ((@Ne Nat I C) ∧ (@Ne Nat I D) ∧ (@Ne Nat C D)) →
      wpAny (model prog w) A (eval elt (compEnvC scope cl C env)) (CompEnd h₀ L m { s with heap := h, toks := tk } I oI C oC D (lst ys) S (fun y news' => J (i + 1) (ys ++ [y]) news')) E' { s with heap := h, toks := tk })
    (fin : ∀ ys news, J xs.length ys news → Fin ys news) : CompRest prog w A h₀ L m env elt x scope cl s S (fun i v => (xs.map val).toArray[i]? = some v) Fin (xs.map val).toArray.size 0 [] news₀ := by
  have key : ∀ (j i : Nat) (ys : List Value) (news : List (Addr × Obj)), i + j = xs.length → J i ys news → CompRest prog w A h₀ L m env elt x scope cl s S (fun i v => (xs.map val).toArray[i]? = some v) Fin j i ys news := by
    intro j
    induction j with
    | zero =>
      intro i ys news hi hy
      have e : i = xs.length := by omega
      subst e
      exact CompRest.zero (fin ys news hy)
    | succ j ih =>
      intro i ys news hi hy
      refine CompRest.succ ?_
      intro v I oI C oC D m₂ h tk E' hv hC hx F N off ne
      have hv' : (xs.map val)[i]? = some v := by simpa using hv
      rw [List.getElem?_map] at hv'
      obtain ⟨a, ha, e⟩ := Option.map_eq_some_iff.mp hv'
      rw [← e] at hx
      refine wpAny_mono (turn i a I oI C oC D m₂ _ _ h tk E' ha hy hC hx F N off ne) (fun y s₂ hq => ?_) fun _ _ e => e
      obtain ⟨h', tk', nw, e, F', N', off', hS, hn⟩ := hq
      exact ⟨h', tk', nw, e, F', N', off', hS, ih (i + 1) _ _ (by omega) hn⟩
  have := key xs.length 0 [] _ (by omega) h0
  rw [List.size_toArray, List.length_map]
  exact this
/-- the end of an item: things were made -/
theorem comp_end {I C D : Addr} {oI oC oD : Obj} {s₁ : Shared} {rest : Value → List (Addr × Obj) → Prop} {y : Value} {h' : Heap} {tk : Nat} {more news : List (Addr × Obj)}
    (F : Fr h₀ L h' m) (N : News h₀ L h' (more ++ (I, oI) :: (C, oC) :: (D, oD) :: news)) (off : Off3 I C D news) (sep : ∀ z ∈ more, @Ne Nat I z.1 ∧ @Ne Nat C z.1 ∧ @Ne Nat D z.1) (hS : S (more ++ news)) (r : rest y (more ++ news)) :
    CompEnd h₀ L m s₁ I oI C oC D oD S rest y { s₁ with heap := h', toks := tk } := by
  refine CompEnd.intro F N (more ++ news) (fun p hp => ?_) (Off3.of fun p hp => ?_) hS r
  · rcases List.mem_cons.mp hp with rfl | hp
    · exact List.mem_append_right _ (.head _)
    rcases List.mem_cons.mp hp with rfl | hp
    · exact List.mem_append_right _ (.tail _ (.head _))
    rcases List.mem_cons.mp hp with rfl | hp
    · exact List.mem_append_right _ (.tail _ (.tail _ (.head _)))
    rcases List.mem_append.mp hp with hp | hp
    · exact List.mem_append_left _ hp
    · exact List.mem_append_right _ (.tail _ (.tail _ (.tail _ hp)))
  · rcases List.mem_append.mp hp with hp | hp
    · obtain ⟨a, b, c⟩ := sep p hp
      exact ⟨Ne.symm a, Ne.symm b, Ne.symm c⟩
    · exact off.mem p hp
end
section
variable {prog : Program} {w : World} {A : Around} {E : Value → Shared → Prop} {s : Shared} {h₀ : Heap} {L D : Addr} {m : Str → Option Value} {news : List (Addr × Obj)}
/-- a value is put behind a list of the ledger; all that lies elsewhere stays -/
theorem append_any {vs : List Value} {c : Nat} {v : Value} {Q : Value → Shared → Prop} (F : Fr h₀ L s.heap m) (N : News h₀ L s.heap news) (hm : (D, listOf vs.toArray c) ∈ news) (hz : vs.length ≤ 100000)
    (h : ∀ h', Fr h₀ L h' m → News h₀ L h' ((D, listOf (vs ++ [v]).toArray (c + 1)) :: offL D news) → Q .none { s with heap := h' }) : wpAny (model prog w) A (call (.builtin "list.append") [.ref D, v]) Q E s := by
  have N1 : News h₀ L s.heap ((D, listOf vs.toArray c) :: offL D news) := fun p hp => by
    rcases List.mem_cons.mp hp with rfl | hp
    · exact N _ hm
    · exact N p (offL_sub p hp)
  refine append_K F N1 (.head offL_ne) (fun h' F' N' => h h' F' ?_) (by rw [List.size_toArray]; simp only [sizeLine]; omega)
  rw [List.push_toArray] at N'
  exact N'
theorem append_map {α : Type} {val : α → Value} {xs : List α} {c : Nat} {a : α} {Q : Value → Shared → Prop} (F : Fr h₀ L s.heap m) (N : News h₀ L s.heap news) (hm : (D, listOf (xs.map val).toArray c) ∈ news) (hz : xs.length ≤ 100000)
    (h : ∀ h', Fr h₀ L h' m → News h₀ L h' ((D, listOf ((xs ++ [a]).map val).toArray (c + 1)) :: offL D news) → Q .none { s with heap := h' }) : wpAny (model prog w) A (call (.builtin "list.append") [.ref D, val a]) Q E s := by
  refine append_any F N hm (by rw [List.length_map]; exact hz) (fun h' F' N' => h h' F' ?_)
  rw [List.map_append, List.map_cons, List.map_nil]
  exact N'
/-- an item of a list of things -/
theorem sub_at {α : Type} {val : α → Value} {value slice : Expr} {k : Int} {u : Tok} {n : Nat} {xs : List α} {i : Nat} {a : α} {Q : Value → Shared → Prop} (N : News h₀ L s.heap news) (hm : (D, listOf (xs.map val).toArray n) ∈ news) (hk : k = (i : Int)) (ha : xs[i]? = some a) (hl : xs.length ≤ 100000) (h : Q (val a) s)
    (hs : subscripted slice false (.ref D) (.int k u) = operate [.ref D, .int k u] (getItem (.ref D) (.int k u)) := by with_unfolding_all rfl) :
    wpAny (model prog w) A (subscriptTail value slice (.ref D) (.int k u)) Q E s := by
  have hlt : i < xs.length := (List.getElem?_eq_some_iff.mp ha).1
  refine sub_L N hm (by rw [List.length_map]; omega) (by rw [List.length_map]; omega) (by rw [List.length_map]; omega) (x := val a) ?_ h hs
  unfold place
  rw [if_neg (by omega), hk, Int.toNat_natCast, List.getElem?_map, ha]
  rfl
theorem slice_is {α : Type} {val : α → Value} {xs : List α} {a b : Int} (ha : 0 ≤ a) (hb : 0 ≤ b) : (slicePick (xs.map val).toArray (some a) (some b) none).toList = ((xs.drop a.toNat).take (b.toNat - a.toNat)).map val := by
  have e : sliceBounds (some a) (some b) none (xs.map val).toArray.size = (((min a.toNat (xs.map val).toArray.size : Nat) : Int), ((min b.toNat (xs.map val).toArray.size : Nat) : Int), 1) := by
    simp only [sliceBounds, Option.getD_none, show (1 : Int) > 0 by decide, if_true, if_neg (show ¬ (a < 0) by omega), if_neg (show ¬ (b < 0) by omega)]
    congr 1
    · omega
    · congr 1
      omega
  rw [kmk_pick_nat _ e]
  show ((xs.map val).drop (min a.toNat (xs.map val).toArray.size)).take (min b.toNat (xs.map val).toArray.size - min a.toNat (xs.map val).toArray.size) = _
  rw [List.size_toArray, kmk_drop_min, List.length_map, ← List.map_drop, ← List.map_take]
  congr 1
  by_cases h : b.toNat ≤ xs.length
  · rw [show min b.toNat xs.length - min a.toNat xs.length = b.toNat - a.toNat by omega]
  · by_cases h2 : a.toNat ≤ xs.length
    · rw [List.take_of_length_le (by rw [List.length_drop]; omega), List.take_of_length_le (by rw [List.length_drop]; omega)]
    · rw [List.drop_of_length_le (by omega), List.take_nil, List.take_nil]
theorem slice_M {α : Type} {val : α → Value} {value slice : Expr} {xs : List α} {c : Nat} {a b : Int} {t u : Tok} {Q : Value → Shared → Prop} (F : Fr h₀ L s.heap m) (N : News h₀ L s.heap news) (hm : (D, listOf (xs.map val).toArray c) ∈ news) (hz : xs.length ≤ 100000) (ha : 0 ≤ a) (hb : 0 ≤ b)
    (h : ∀ D' h', Fr h₀ L h' m → News h₀ L h' ((D', listOf (((xs.drop a.toNat).take (b.toNat - a.toNat)).map val).toArray 0) :: news) → (∀ p ∈ news, p.1 < D') → Q (.ref D') { s with heap := h' })
    (hs : subscripted slice false (.ref D) (.ref s.heap.objs.size) = operate [.ref s.heap.objs.size, .ref D] (getItem (.ref D) (.ref s.heap.objs.size))) (ht : ∀ r, letTemporaryGo value (.ref D) r = pure ()) :
    wpAny (model prog w) A (subscriptTail value slice (.ref D) (.ref s.heap.objs.size)) Q E { s with heap := s.heap.push { cls := .type "slice", data := .fields #[.int a t, .int b u, .none] } } :=
  kmk_slice_lit (its := (xs.map val).toArray) (lo := some a) (hi := some b) F N ⟨_, (N _ hm).1, rfl, c, rfl⟩ (IsPart.int _ _) (IsPart.int _ _) (slice_is ha hb) h hs ht (by rw [List.size_toArray, List.length_map]; simp only [sizeLine]; omega)
/-- two books that say the same -/
theorem ne_bk {k1 k2 : Bk} {Q : Value → Shared → Prop} (N : News h₀ L s.heap news) (h1 : ∀ z ∈ k1.cells, z ∈ news) (h2 : ∀ z ∈ k2.cells, z ∈ news) (hd : k1.dt = k2.dt) (n1 : k1.bu ≠ k2.bu) (n2 : k1.br ≠ k2.br) (hu : A.units < cLine) (hu1 : A.in1.units < cLine)
    (h : Q (.bool false) s) : wpAny (model prog w) A (compareOp .NotEq (.ref k1.b) (.ref k2.b)) Q E s := by
  obtain ⟨b, bu, br, n, m1, m2, ag, rl, dl, rt⟩ := k1
  obtain ⟨b', bu', br', n', m1', m2', ag', rl', dl', rt'⟩ := k2
  cases hd
  exact ne_bookN N (h1 _ (.head _)) (h2 _ (.head _)) (h1 _ (.tail _ (.head _))) (h2 _ (.tail _ (.head _))) (h1 _ (.tail _ (.tail _ (.head _)))) (h2 _ (.tail _ (.tail _ (.head _)))) n1 n2 hu hu1 h
theorem eq_bk {A : Around} {k1 k2 : Bk} (N : News h₀ L s.heap news) (h1 : ∀ z ∈ k1.cells, z ∈ news) (h2 : ∀ z ∈ k2.cells, z ∈ news) (hd : k1.dt = k2.dt) (n0 : k1.b ≠ k2.b) (n1 : k1.bu ≠ k2.bu) (n2 : k1.br ≠ k2.br) (hu : A.units < cLine) (hu1 : A.in1.units < cLine) :
    PySem.SeqAt.EqAt A s (.ref k1.b) (.ref k2.b) true := by
  obtain ⟨b, bu, br, n, m1, m2, ag, rl, dl, rt⟩ := k1
  obtain ⟨b', bu', br', n', m1', m2', ag', rl', dl', rt'⟩ := k2
  cases hd
  refine PySem.SeqAt.EqAt.of_refs n0 ?_
  have e4 : ((List.range 4).all fun _ => true) = true := by decide
  have key := PySem.SeqAt.RcAt.lists (A := A) (s := s) (l := b) (b := b') (items := #[.ref bu, .ref br, dl, rt]) (items2 := #[.ref bu', .ref br', dl, rt]) (e := fun _ => true) ⟨_, (N _ (h1 _ (.head _))).1, rfl, _, rfl⟩ ⟨_, (N _ (h2 _ (.head _))).1, rfl, _, rfl⟩ rfl hu (fun j h1' h2' => by
    match j, h1' with
    | 0, _ => exact eq_texts ⟨_, (N _ (h1 _ (.tail _ (.head _)))).1, rfl, _, rfl⟩ ⟨_, (N _ (h2 _ (.tail _ (.head _)))).1, rfl, _, rfl⟩ n1 hu1
    | 1, _ => exact eq_texts ⟨_, (N _ (h1 _ (.tail _ (.tail _ (.head _))))).1, rfl, _, rfl⟩ ⟨_, (N _ (h2 _ (.tail _ (.tail _ (.head _))))).1, rfl, _, rfl⟩ n2 hu1
    | 2, _ => exact PySem.SeqAt.EqAt.same _
    | 3, _ => exact PySem.SeqAt.EqAt.same _
    | j + 4, h => exact absurd h (by simp))
  rw [← e4]
  exact key
/-- two lists of books that say the same -/
theorem eq_bks {a b : Addr} {c d : Nat} {xs ys : List Bk} {Q : Value → Shared → Prop} (N : News h₀ L s.heap news) (ha : (a, listOf (xs.map fun k => Value.ref k.b).toArray c) ∈ news) (hb : (b, listOf (ys.map fun k => Value.ref k.b).toArray d) ∈ news)
    (h1 : ∀ k ∈ xs, ∀ z ∈ k.cells, z ∈ news) (h2 : ∀ k ∈ ys, ∀ z ∈ k.cells, z ∈ news) (hd : xs.map Bk.dt = ys.map Bk.dt) (hne : ∀ k ∈ xs, ∀ k' ∈ ys, k.b ≠ k'.b ∧ k.bu ≠ k'.bu ∧ k.br ≠ k'.br)
    (hu : A.units < cLine) (hu1 : A.in1.units < cLine) (hu2 : A.in1.in1.units < cLine) (h : Q (.bool true) s) : wpAny (model prog w) A (compareOp .Eq (.ref a) (.ref b)) Q E s := by
  have hl : xs.length = ys.length := by have := congrArg List.length hd; simpa using this
  have e1 : (List.range (xs.map fun k => Value.ref k.b).toArray.size).all (fun _ => true) = true := by simp
  refine PySem.SeqAt.RcAt.lists (e := fun _ => true) ⟨_, (N _ ha).1, rfl, _, rfl⟩ ⟨_, (N _ hb).1, rfl, _, rfl⟩ (by simp [hl]) hu (fun j h1' h2' => ?_) prog w E Q (by rw [e1]; exact h)
  have hj : j < xs.length := by simpa using h1'
  have hj2 : j < ys.length := by omega
  have ex : (xs.map fun k => Value.ref k.b).toArray[j]'h1' = .ref (xs[j]).b := by simp
  have ey : (ys.map fun k => Value.ref k.b).toArray[j]'h2' = .ref (ys[j]).b := by simp
  have et : (xs[j]).dt = (ys[j]).dt := by
    have h3 : (xs.map Bk.dt)[j]? = (ys.map Bk.dt)[j]? := by rw [hd]
    rw [List.getElem?_map, List.getElem?_map, List.getElem?_eq_getElem hj, List.getElem?_eq_getElem hj2] at h3
    exact Option.some.inj h3
  rw [ex, ey]
  obtain ⟨n0, n1, n2⟩ := hne _ (List.getElem_mem hj) _ (List.getElem_mem hj2)
  exact eq_bk N (h1 _ (List.getElem_mem hj)) (h2 _ (List.getElem_mem hj2)) et n0 n1 n2 hu1 hu2
end
end Mine
end

section
open PySem.Calls
namespace Mine
/-- a cell of the table: a list of records -/
structure Cel where (a : Addr) (n : Nat) (es : List Rc)
/-- a row of the table -/
structure Rw8 where (a : Addr) (n : Nat) (cs : List Cel)
/-- a merge with what is due of it -/
structure Md8 where (t : Addr) (e : Rc) (k : Bk)
def Cel.cell (c : Cel) : Addr × Obj := (c.a, listOf (c.es.map fun e => Value.ref e.x).toArray c.n)
def Rw8.cell (r : Rw8) : Addr × Obj := (r.a, listOf (r.cs.map fun c => Value.ref c.a).toArray r.n)
abbrev tupO (a b : Addr) : Obj := { cls := .type "tuple", data := .seq [Value.ref a, .ref b].toArray }
structure St8 where (rows : List Rw8) (md : List Md8) (nM : Nat) (Tl : List (Addr × Obj))
def led8S (M : Addr) (st : St8) : List (Addr × Obj) := (M, listOf (st.md.map fun m => Value.ref m.t).toArray st.nM) :: (st.rows.map Rw8.cell ++ st.Tl)
def mu8 (M : Addr) (st : St8) : List Addr := M :: st.rows.map Rw8.a
structure Sep8 (M : Addr) (st : St8) : Prop where
  (nd : (mu8 M st).Nodup) (off : ∀ z ∈ st.Tl, ∀ b ∈ mu8 M st, z.1 ≠ b)
structure CeOk (q : Params) (ks : List Dt) (bag : List (Addr × Obj)) (i j : Nat) (c : Cel) : Prop where
  (cell : c.cell ∈ bag) (ne : c.es ≠ []) (es : ∀ e ∈ c.es, (∀ z ∈ e.cells q, z ∈ bag) ∧ e.dt = dueT (sl ks i j)) (few : c.es.length ≤ 100)
structure MdOk8 (q : Params) (bag : List (Addr × Obj)) (m : Md8) : Prop where
  (cell : (m.t, tupO m.e.x m.k.b) ∈ bag) (e : ∀ z ∈ m.e.cells q, z ∈ bag) (k : ∀ z ∈ m.k.cells, z ∈ bag) (dt : m.e.dt = m.k.dt) (sm : m.e.dt.Sm 315)
structure Gd8 (q : Params) (M : Addr) (K0 : List (Addr × Obj)) (ra : List Addr) (ks : List Dt) (len : Nat → Nat) (b : Nat) (st : St8) : Prop where
  (sep : Sep8 M st) (keep : ∀ z ∈ K0, z ∈ st.Tl) (ra : st.rows.map Rw8.a = ra)
  (rows : ∀ i r, st.rows[i]? = some r → r.cs.length = len i ∧ ∀ j c, r.cs[j]? = some c → CeOk q ks st.Tl i j c)
  (md : ∀ m ∈ st.md, MdOk8 q st.Tl m) (few : st.md.length ≤ b)
section
variable {q : Params} {M : Addr} {K0 K1 bag bag' mr own : List (Addr × Obj)} {ra : List Addr} {ks : List Dt} {len len' : Nat → Nat} {b i j : Nat} {st : St8} {c : Cel} {m : Md8}
theorem CeOk.up (h : CeOk q ks bag i j c) (hb : ∀ z ∈ bag, z ∈ bag') : CeOk q ks bag' i j c :=
  ⟨hb _ h.cell, h.ne, fun e he => ⟨fun z hz => hb z ((h.es e he).1 z hz), (h.es e he).2⟩, h.few⟩
theorem MdOk8.up (h : MdOk8 q bag m) (hb : ∀ z ∈ bag, z ∈ bag') : MdOk8 q bag' m :=
  ⟨hb _ h.cell, fun z hz => hb z (h.e z hz), fun z hz => hb z (h.k z hz), h.dt, h.sm⟩
theorem Gd8.weak (h : Gd8 q M K0 ra ks len b st) (hk : ∀ z ∈ K1, z ∈ K0) {b' : Nat} (hb : b ≤ b') : Gd8 q M K1 ra ks len b' st := ⟨h.sep, fun z hz => h.keep z (hk z hz), h.ra, h.rows, h.md, Nat.le_trans h.few hb⟩
theorem Gd8.relen (h : Gd8 q M K0 ra ks len b st) (hl : ∀ i, i < ra.length → len i = len' i) : Gd8 q M K0 ra ks len' b st := by
  refine ⟨h.sep, h.keep, h.ra, fun i r hr => ?_, h.md, h.few⟩
  have hi : i < ra.length := by rw [← h.ra, List.length_map]; exact (List.getElem?_eq_some_iff.mp hr).1
  rw [← hl i hi]
  exact h.rows i r hr
/-- things were made that stay -/
theorem Gd8.grow (h : Gd8 q M K0 ra ks len b st) (hs : ∀ z ∈ mr, ∀ b ∈ mu8 M st, z.1 ≠ b) : Gd8 q M (mr ++ K0) ra ks len b ⟨st.rows, st.md, st.nM, mr ++ st.Tl⟩ := by
  refine ⟨⟨h.sep.nd, fun z hz => ?_⟩, fun z hz => ?_, h.ra, fun i r hr => ⟨(h.rows i r hr).1, fun j c hc => ((h.rows i r hr).2 j c hc).up fun z hz => List.mem_append_right _ hz⟩, fun m hm => (h.md m hm).up fun z hz => List.mem_append_right _ hz, h.few⟩
  · rcases List.mem_append.mp hz with hz | hz
    · exact hs z hz
    · exact h.sep.off z hz
  · rcases List.mem_append.mp hz with hz | hz
    · exact List.mem_append_left _ hz
    · exact List.mem_append_right _ (h.keep z hz)
/-- a merge is noted -/
theorem Gd8.note (h : Gd8 q M K0 ra ks len b st) (hm : MdOk8 q st.Tl m) : Gd8 q M K0 ra ks len (b + 1) ⟨st.rows, st.md ++ [m], st.nM + 1, st.Tl⟩ := by
  refine ⟨⟨h.sep.nd, h.sep.off⟩, h.keep, h.ra, h.rows, fun x hx => ?_, by rw [List.length_append]; exact Nat.succ_le_succ h.few⟩
  rcases List.mem_append.mp hx with hx | hx
  · exact h.md x hx
  · rw [List.mem_singleton.mp hx]; exact hm
/-- a cell comes to a row -/
theorem Gd8.put {p1 p2 : List Rw8} {r : Rw8} {md : List Md8} {nM : Nat} {Tl : List (Addr × Obj)} (h : Gd8 q M K0 ra ks len b ⟨p1 ++ r :: p2, md, nM, Tl⟩) (hc : CeOk q ks Tl p1.length r.cs.length c) (h1 : len' p1.length = len p1.length + 1) (h2 : ∀ i, i ≠ p1.length → len' i = len i) :
    Gd8 q M K0 ra ks len' b ⟨p1 ++ ⟨r.a, r.n + 1, r.cs ++ [c]⟩ :: p2, md, nM, Tl⟩ := by
  have em : (p1 ++ (⟨r.a, r.n + 1, r.cs ++ [c]⟩ : Rw8) :: p2).map Rw8.a = (p1 ++ r :: p2).map Rw8.a := by simp only [List.map_append, List.map_cons]
  refine ⟨⟨by have := h.sep.nd; unfold mu8 at this ⊢; rw [em]; exact this, by have := h.sep.off; unfold mu8 at this ⊢; rw [em]; exact this⟩, h.keep, em.trans h.ra, fun i r' hr => ?_, h.md, h.few⟩
  have hr : (p1 ++ (⟨r.a, r.n + 1, r.cs ++ [c]⟩ : Rw8) :: p2)[i]? = some r' := hr
  by_cases hi : i = p1.length
  · subst hi
    rw [List.getElem?_append_right (Nat.le_refl _), Nat.sub_self, List.getElem?_cons_zero] at hr
    cases hr
    have h3 := h.rows p1.length r (by show (p1 ++ r :: p2)[p1.length]? = some r; rw [List.getElem?_append_right (Nat.le_refl _), Nat.sub_self]; rfl)
    refine ⟨by rw [h1, ← h3.1]; show (r.cs ++ [c]).length = _; rw [List.length_append]; rfl, fun j c' hc' => ?_⟩
    have hc' : (r.cs ++ [c])[j]? = some c' := hc'
    by_cases hj : j < r.cs.length
    · rw [List.getElem?_append_left hj] at hc'
      exact h3.2 j c' hc'
    · rw [List.getElem?_append_right (by omega)] at hc'
      have h4 : j - r.cs.length = 0 := by
        have := (List.getElem?_eq_some_iff.mp hc').1
        rw [List.length_singleton] at this; omega
      rw [h4] at hc'
      cases hc'
      rw [show j = r.cs.length by omega]
      exact hc
  · have h3 : (p1 ++ r :: p2)[i]? = some r' := by
      by_cases hl : i < p1.length
      · rw [List.getElem?_append_left hl] at hr ⊢; exact hr
      · rw [List.getElem?_append_right (by omega)] at hr ⊢
        obtain ⟨k, hk⟩ : ∃ k, i - p1.length = k + 1 := ⟨i - p1.length - 1, by omega⟩
        rw [hk, List.getElem?_cons_succ] at hr ⊢
        exact hr
    rw [h2 i hi]
    exact h.rows i r' h3
theorem Gd8.init (hk : ∀ z ∈ K0, z.1 ≠ M) : Gd8 q M K0 [] ks len 0 ⟨[], [], 0, K0⟩ :=
  ⟨⟨List.nodup_cons.mpr ⟨List.not_mem_nil, .nil⟩, fun z hz b hb => by rw [List.mem_singleton.mp hb]; exact hk z hz⟩, fun _ h => h, rfl, (fun i r h => nomatch h), (fun _ h => nomatch h), Nat.le_refl _⟩
theorem sl_one {i : Nat} {k : Dt} (h : ks[i]? = some k) : dueT (sl ks i 0) = k := by
  have e : sl ks i 0 = [k] := by
    unfold sl
    obtain ⟨hl, he⟩ := List.getElem?_eq_some_iff.mp h
    rw [List.drop_eq_getElem_cons hl, he]
    rfl
  rw [e, due_one]
/-- a row with one cell is made -/
theorem Gd8.addrow {rs : List Rw8} {Tl : List (Addr × Obj)} {r ca : Addr} {e : Rc} (h : Gd8 q M K0 (rs.map Rw8.a) ks (fun _ => 1) 0 ⟨rs, [], 0, Tl⟩) (he : ∀ z ∈ e.cells q, z ∈ Tl) (hd : ks[rs.length]? = some e.dt)
    (h1 : ∀ b ∈ M :: rs.map Rw8.a, b ≠ r ∧ b ≠ ca) (h2 : ∀ z ∈ Tl, z.1 ≠ r) (h3 : ca ≠ r) :
    Gd8 q M K0 ((rs ++ [(⟨r, 0, [⟨ca, 0, [e]⟩]⟩ : Rw8)]).map Rw8.a) ks (fun _ => 1) 0 ⟨rs ++ [⟨r, 0, [⟨ca, 0, [e]⟩]⟩], [], 0, (ca, listOf #[.ref e.x] 0) :: Tl⟩ := by
  have em : mu8 M ⟨rs ++ [⟨r, 0, [⟨ca, 0, [e]⟩]⟩], [], 0, (ca, listOf #[.ref e.x] 0) :: Tl⟩ = (M :: rs.map Rw8.a) ++ [r] := by
    unfold mu8
    rw [List.map_append]; rfl
  have hnd : (M :: rs.map Rw8.a).Nodup := h.sep.nd
  have hoff : ∀ z ∈ Tl, ∀ b ∈ M :: rs.map Rw8.a, z.1 ≠ b := h.sep.off
  refine ⟨⟨?_, fun z hz b hb => ?_⟩, fun z hz => .tail _ (h.keep z hz), rfl, fun i r' hr => ?_, (fun _ h => nomatch h), Nat.le_refl _⟩
  · rw [em, List.nodup_append]
    refine ⟨hnd, List.nodup_cons.mpr ⟨List.not_mem_nil, .nil⟩, fun a ha b hb => ?_⟩
    rw [List.mem_singleton.mp hb]
    exact (h1 a ha).1
  · rw [em] at hb
    rcases List.mem_cons.mp hz with rfl | hz <;> rcases List.mem_append.mp hb with hb | hb
    · exact Ne.symm (h1 b hb).2
    · rw [List.mem_singleton.mp hb]; exact h3
    · exact hoff z hz b hb
    · rw [List.mem_singleton.mp hb]; exact h2 z hz
  · have hr : (rs ++ [(⟨r, 0, [⟨ca, 0, [e]⟩]⟩ : Rw8)])[i]? = some r' := hr
    by_cases hi : i < rs.length
    · rw [List.getElem?_append_left hi] at hr
      obtain ⟨h4, h5⟩ := h.rows i r' hr
      exact ⟨h4, fun j c hc => (h5 j c hc).up fun z hz => .tail _ hz⟩
    · rw [List.getElem?_append_right (by omega)] at hr
      have hj : i - rs.length = 0 := by
        have := (List.getElem?_eq_some_iff.mp hr).1
        rw [List.length_singleton] at this; omega
      rw [hj] at hr
      cases hr
      refine ⟨rfl, fun j c hc => ?_⟩
      have hc : ([(⟨ca, 0, [e]⟩ : Cel)] : List Cel)[j]? = some c := hc
      cases j with
      | succ j => cases hc
      | zero =>
        cases hc
        rw [show i = rs.length by omega]
        refine ⟨.head _, (fun h => nomatch h), fun e' he' => ?_, by show 1 ≤ 100; decide⟩
        rw [List.mem_singleton.mp he']
        exact ⟨fun z hz => .tail _ (he z hz), (sl_one hd).symm⟩
theorem Gd8.tl (_h : Gd8 q M K0 ra ks len b st) : ∀ z ∈ st.Tl, z ∈ led8S M st := fun _ hz => .tail _ (List.mem_append_right _ hz)
theorem mu_cell {a : Addr} (h : a ∈ mu8 M st) : ∃ o, (a, o) ∈ led8S M st := by
  rcases List.mem_cons.mp h with rfl | h
  · exact ⟨_, .head _⟩
  · obtain ⟨r, hr, rfl⟩ := List.mem_map.mp h
    exact ⟨_, .tail _ (List.mem_append_left _ (List.mem_map_of_mem hr))⟩
theorem led_addrow {rs : List Rw8} {Tl nw : List (Addr × Obj)} {r ca : Addr} {e : Rc} (h : ∀ z ∈ led8S M ⟨rs, [], 0, Tl⟩, z ∈ nw) :
    ∀ z ∈ led8S M ⟨rs ++ [⟨r, 0, [⟨ca, 0, [e]⟩]⟩], [], 0, (ca, listOf #[.ref e.x] 0) :: Tl⟩, z ∈ [(r, listOf #[.ref ca] 0), (ca, listOf #[.ref e.x] 0)] ++ nw := by
  intro z hz
  rcases List.mem_cons.mp hz with rfl | hz
  · exact .tail _ (.tail _ (h _ (.head _)))
  rcases List.mem_append.mp hz with hz | hz
  · rw [List.map_append] at hz
    rcases List.mem_append.mp hz with hz | hz
    · exact .tail _ (.tail _ (h _ (.tail _ (List.mem_append_left _ hz))))
    · rw [List.mem_singleton.mp hz]; exact .head _
  · rcases List.mem_cons.mp hz with rfl | hz
    · exact .tail _ (.head _)
    · exact .tail _ (.tail _ (h _ (.tail _ (List.mem_append_right _ hz))))
theorem Gd8.addrow2 {rs : List Rw8} {Tl nw : List (Addr × Obj)} {r ca : Addr} {e : Rc} (h : Gd8 q M K0 (rs.map Rw8.a) ks (fun _ => 1) 0 ⟨rs, [], 0, Tl⟩) (he : ∀ z ∈ e.cells q, z ∈ K0) (hd : ks[rs.length]? = some e.dt)
    (hl : ∀ z ∈ led8S M ⟨rs, [], 0, Tl⟩, z ∈ nw) (h1 : ∀ z ∈ nw, @LT.lt Nat _ z.1 ca) (h3 : @LT.lt Nat _ ca r) :
    Gd8 q M K0 ((rs ++ [(⟨r, 0, [⟨ca, 0, [e]⟩]⟩ : Rw8)]).map Rw8.a) ks (fun _ => 1) 0 ⟨rs ++ [⟨r, 0, [⟨ca, 0, [e]⟩]⟩], [], 0, (ca, listOf #[.ref e.x] 0) :: Tl⟩ := by
  refine Gd8.addrow h (fun z hz => h.keep z (he z hz)) hd (fun b hb => ?_) (fun z hz => ?_) (Nat.ne_of_lt h3)
  · obtain ⟨o, ho⟩ := mu_cell (st := ⟨rs, [], 0, Tl⟩) hb
    have := h1 _ (hl _ ho)
    exact ⟨Nat.ne_of_lt (Nat.lt_trans this h3), Nat.ne_of_lt this⟩
  · exact Nat.ne_of_lt (Nat.lt_trans (h1 z (hl z (h.tl z hz))) h3)
/-- a cell is found -/
theorem Gd8.at (h : Gd8 q M K0 ra ks len b st) (hi : i < ra.length) (hj : j < len i) : ∃ (r : Rw8) (c : Cel), ra[i]? = some r.a ∧ r.cell ∈ led8S M st ∧ r.cs.length = len i ∧ r.cs[j]? = some c ∧ CeOk q ks st.Tl i j c := by
  have hl : i < st.rows.length := by have := congrArg List.length h.ra; rw [List.length_map] at this; omega
  have hr := List.getElem?_eq_getElem hl
  obtain ⟨h1, h2⟩ := h.rows i _ hr
  have hj2 : j < (st.rows[i]).cs.length := by omega
  have hc := List.getElem?_eq_getElem hj2
  refine ⟨_, _, ?_, ?_, h1, hc, h2 j _ hc⟩
  · rw [← h.ra, List.getElem?_map, hr]; rfl
  · exact .tail _ (List.mem_append_left _ (List.mem_map_of_mem (List.getElem_mem hl)))
end
/-- ahead of the loops over the stretches -/
theorem start8 {q : Params} {M O B Tt : Addr} {nO nB nT : Nat} {es : List Rc} {bs : List Bk} {T news nw : List (Addr × Obj)} {rs : List Rw8} {Tl : List (Addr × Obj)} {h₀ h : Heap} {L : Addr}
    (hTc : ∀ e ∈ es, ∀ z ∈ e.cells q, z ∈ T) (hN0 : ∀ z ∈ (O, listOf (es.map fun e => Value.ref e.x).toArray nO) :: T, z ∈ news) (hbs : ∀ k ∈ bs, ∀ z ∈ k.cells, z ∈ news) (hrl : rs.length = es.length) (hled : ∀ z ∈ led8S M ⟨rs, [], 0, Tl⟩, z ∈ nw)
    (hgd : Gd8 q M ((B, listOf (bs.map fun k => Value.ref k.b).toArray nB) :: news) (rs.map Rw8.a) (es.map Rc.dt) (fun _ => 1) 0 ⟨rs, [], 0, Tl⟩) (off : ∀ z ∈ nw, z.1 ≠ Tt) (N : News h₀ L h ((Tt, listOf (rs.map fun r => Value.ref r.a).toArray nT) :: nw)) :
    ∃ (st : St8) (K0 : List (Addr × Obj)) (ra : List Addr), ra.length = es.length ∧ (Tt, listOf (ra.map Value.ref).toArray nT) ∈ K0 ∧ (B, listOf (bs.map fun k => Value.ref k.b).toArray nB) ∈ K0 ∧ (O, listOf (es.map fun e => Value.ref e.x).toArray nO) ∈ K0 ∧
      (∀ e ∈ es, ∀ z ∈ e.cells q, z ∈ K0) ∧ (∀ k ∈ bs, ∀ z ∈ k.cells, z ∈ K0) ∧ Gd8 q M K0 ra (es.map Rc.dt) (fun i => min (if i < 0 then 1 + 1 else 1) (es.length - i)) 0 st ∧ News h₀ L h (led8S M st) := by
  have em : (rs.map Rw8.a).map Value.ref = rs.map fun r => Value.ref r.a := by rw [List.map_map]; rfl
  refine ⟨⟨rs, [], 0, [(Tt, listOf ((rs.map Rw8.a).map Value.ref).toArray nT)] ++ Tl⟩, _, _, by rw [List.length_map, hrl], List.mem_append_left _ (.head _), List.mem_append_right _ (.head _), List.mem_append_right _ (.tail _ (hN0 _ (.head _))), fun e he z hz => List.mem_append_right _ (.tail _ (hN0 _ (.tail _ (hTc e he z hz)))), fun k hk z hz => List.mem_append_right _ (.tail _ (hbs k hk z hz)), (Gd8.grow hgd fun z hz b hb => ?_).relen fun i hi => ?_, fun z hz => ?_⟩
  · rw [List.mem_singleton.mp hz]
    obtain ⟨o, ho⟩ := mu_cell hb
    exact Ne.symm (off _ (hled _ ho))
  · rw [List.length_map, hrl] at hi
    show 1 = _
    rw [if_neg (Nat.not_lt_zero i)]
    omega
  · rw [em] at hz
    rcases List.mem_cons.mp hz with rfl | hz
    · exact N _ (.tail _ (hled _ (.head _)))
    rcases List.mem_append.mp hz with hz | hz
    · exact N _ (.tail _ (hled _ (.tail _ (List.mem_append_left _ hz))))
    rcases List.mem_append.mp hz with hz | hz
    · rw [List.mem_singleton.mp hz]; exact N _ (.head _)
    · exact N _ (.tail _ (hled _ (.tail _ (List.mem_append_right _ hz))))
/-- how long the rows are: the t first of size s are done -/
def ln (n s t i : Nat) : Nat := min (if i < t then s + 1 else s) (n - i)
theorem ln_at {n s t : Nat} (h : t + s < n) : ln n s t t = s := by
  unfold ln
  rw [if_neg (by omega)]; omega
theorem ln_up {n s t : Nat} (h : t + s < n) : ln n s (t + 1) t = ln n s t t + 1 := by
  rw [ln_at h]
  unfold ln
  rw [if_pos (by omega)]; omega
theorem ln_same {n s t i : Nat} (h : i ≠ t) : ln n s (t + 1) i = ln n s t i := by
  unfold ln
  by_cases h1 : i < t
  · rw [if_pos h1, if_pos (by omega)]
  · rw [if_neg h1, if_neg (by omega)]
theorem ln_next {n s i : Nat} (h : i < n) : ln n s (n - s) i = ln n (s + 1) 0 i := by
  unfold ln
  rw [if_neg (Nat.not_lt_zero i)]
  split <;> omega
theorem ln_left {n s t c : Nat} (h : t + s < n) (hc : c < s) : c < ln n s t t := by rw [ln_at h]; exact hc
theorem ln_right {n s t c : Nat} (h : t + s < n) (hc : c < s) : s - c - 1 < ln n s t (t + c + 1) := by
  unfold ln
  rw [if_neg (by omega)]; omega
theorem ln_le {n s t i : Nat} : ln n s t i ≤ n := by unfold ln; omega
theorem offL_mem {l : Addr} {K : List (Addr × Obj)} {p : Addr × Obj} (h : p ∈ K) (hn : p.1 ≠ l) : p ∈ offL l K := List.mem_filter.mpr ⟨h, decide_eq_true hn⟩
end Mine
end

section
open PySem.Calls
namespace Mine
/-- how many records there are, hidden from the walk (which else goes case by case) -/
structure Lim8 (n : Nat) : Prop where
  (lo : 1 ≤ n) (hi : n ≤ 5)
/-- the ledger of the loop over the cuts: the new cell's records, its count, the rest -/
def ledC (M R : Addr) (c : List Rc × Nat × St8) : List (Addr × Obj) := (R, listOf (c.1.map fun e => Value.ref e.x).toArray c.2.1) :: led8S M c.2.2
structure Cut8 (q : Params) (M R : Addr) (K0 : List (Addr × Obj)) (ra : List Addr) (ks : List Dt) (len : Nat → Nat) (b j s : Nat) (due : Bk) (k : Nat) (c : List Rc × Nat × St8) : Prop where
  (cnt : c.1.length = k) (recs : ∀ e ∈ c.1, (∀ z ∈ e.cells q, z ∈ c.2.2.Tl) ∧ e.dt = dueT (sl ks j s)) (good : Gd8 q M (due.cells ++ K0) ra ks len (b + k) c.2.2) (offm : ∀ a ∈ mu8 M c.2.2, a ≠ R) (offt : ∀ z ∈ c.2.2.Tl, z.1 ≠ R)
def cutN (c : List Rc × Nat × St8) (q : Params) (g : Rc) (t : Addr) (due : Bk) : List Rc × Nat × St8 :=
  (c.1 ++ [g], c.2.1 + 1, ⟨c.2.2.rows, c.2.2.md ++ [⟨t, g, due⟩], c.2.2.nM + 1, ((t, tupO g.x due.b) :: g.cells q) ++ c.2.2.Tl⟩)
section
variable {q : Params} {M R t : Addr} {K0 L1 own N9 Tl : List (Addr × Obj)} {ra : List Addr} {ks : List Dt} {len len' : Nat → Nat} {b j s k n nM : Nat} {due : Bk} {c : List Rc × Nat × St8} {g : Rc} {p1 p2 : List Rw8} {r r' : Rw8} {md : List Md8} {st : St8}
theorem ledC_mu : ∀ a ∈ mu8 M c.2.2, ∃ o, (a, o) ∈ ledC M R c := fun a ha => by
  obtain ⟨o, ho⟩ := mu_cell ha
  exact ⟨o, .tail _ ho⟩
theorem Cut8.start (h : Gd8 q M K0 ra ks len b st) (hs : ∀ z ∈ due.cells, ∀ b ∈ mu8 M st, z.1 ≠ b) (hR : ∀ z ∈ led8S M st, z.1 ≠ R) (hd : ∀ z ∈ due.cells, z.1 ≠ R) :
    Cut8 q M R K0 ra ks len b j s due 0 ([], 0, ⟨st.rows, st.md, st.nM, due.cells ++ st.Tl⟩) := by
  refine ⟨rfl, (fun _ h => nomatch h), Gd8.grow h hs, fun a ha => ?_, fun z hz => ?_⟩
  · obtain ⟨o, ho⟩ := mu_cell (st := st) ha
    exact hR _ ho
  · rcases List.mem_append.mp hz with hz | hz
    · exact hd z hz
    · exact hR z (h.tl z hz)
theorem cut_begin {Sd : Addr} {oS : Obj} (h : Gd8 q M K0 ra ks len b st) (hoff : OwnOff own ((led8S M st).map (·.1))) (ltR : ∀ p ∈ led8S M st ++ own, @LT.lt Nat _ p.1 R) (hsep : ∀ p ∈ (Sd, oS) :: (R, listOf #[] 0) :: (led8S M st ++ own), ∀ z ∈ due.cells, p.1 ≠ z.1) :
    Cut8 q M R K0 ra ks len b j s due 0 ([], 0, ⟨st.rows, st.md, st.nM, due.cells ++ st.Tl⟩) ∧ OwnOff own ((ledC M R ([], 0, ⟨st.rows, st.md, st.nM, due.cells ++ st.Tl⟩)).map (·.1)) ∧
      ∀ z ∈ ledC M R ([], 0, ⟨st.rows, st.md, st.nM, due.cells ++ st.Tl⟩), z ∈ due.cells ++ (Sd, oS) :: (R, listOf #[] 0) :: (led8S M st ++ own) := by
  have old : ∀ p ∈ led8S M st ++ own, ∀ z ∈ due.cells, p.1 ≠ z.1 := fun p hp z hz => hsep p (.tail _ (.tail _ hp)) z hz
  refine ⟨Cut8.start h (fun z hz b hb => ?_) (fun z hz => Nat.ne_of_lt (ltR z (List.mem_append_left _ hz))) (fun z hz => Ne.symm (hsep _ (.tail _ (.head _)) z hz)), fun p hp a ha => ?_, fun z hz => ?_⟩
  · obtain ⟨o, ho⟩ := mu_cell hb
    exact Ne.symm (old _ (List.mem_append_left _ ho) z hz)
  · have ha : a ∈ R :: M :: ((st.rows.map Rw8.cell) ++ (due.cells ++ st.Tl)).map (·.1) := ha
    rcases List.mem_cons.mp ha with rfl | ha
    · exact Nat.ne_of_lt (ltR p (List.mem_append_right _ hp))
    rcases List.mem_cons.mp ha with rfl | ha
    · exact hoff p hp _ (.head _)
    rw [List.map_append] at ha
    rcases List.mem_append.mp ha with ha | ha
    · exact hoff p hp a (.tail _ (by rw [List.map_append]; exact List.mem_append_left _ ha))
    rw [List.map_append] at ha
    rcases List.mem_append.mp ha with ha | ha
    · obtain ⟨z, hz, rfl⟩ := List.mem_map.mp ha
      exact old p (List.mem_append_right _ hp) z hz
    · exact hoff p hp a (.tail _ (by rw [List.map_append]; exact List.mem_append_right _ ha))
  · have tl : ∀ z, z ∈ led8S M st → z ∈ due.cells ++ (Sd, oS) :: (R, listOf #[] 0) :: (led8S M st ++ own) := fun z hz => List.mem_append_right _ (.tail _ (.tail _ (List.mem_append_left _ hz)))
    rcases List.mem_cons.mp hz with rfl | hz
    · exact List.mem_append_right _ (.tail _ (.head _))
    rcases List.mem_cons.mp hz with rfl | hz
    · exact tl _ (.head _)
    rcases List.mem_append.mp hz with hz | hz
    · exact tl _ (.tail _ (List.mem_append_left _ hz))
    rcases List.mem_append.mp hz with hz | hz
    · exact List.mem_append_left _ hz
    · exact tl _ (.tail _ (List.mem_append_right _ hz))
/-- the two sides of a cut -/
theorem cut_sides {n : Nat} (P : Cut8 q M R K0 ra ks (ln n s j) b j s due k c) (hra : ra.length = n) (hn : n ≤ 100) (h : j + s < n) (hk : k < s) :
    ∃ (rl rr : Rw8) (cl cr : Cel) (pl pr : List Rc) (e1 e2 : Rc), (ra[j]? = some rl.a ∧ rl.cell ∈ led8S M c.2.2 ∧ rl.cs[k]? = some cl ∧ rl.cs.length ≤ 100 ∧ (cl.a, listOf ((pl ++ [e1]).map fun e => Value.ref e.x).toArray cl.n) ∈ led8S M c.2.2 ∧ pl.length ≤ 100) ∧
      (ra[j + k + 1]? = some rr.a ∧ rr.cell ∈ led8S M c.2.2 ∧ rr.cs[s - k - 1]? = some cr ∧ rr.cs.length ≤ 100 ∧ (cr.a, listOf ((e2 :: pr).map fun e => Value.ref e.x).toArray cr.n) ∈ led8S M c.2.2 ∧ (e2 :: pr).length ≤ 100) ∧
      ((∀ z ∈ e1.cells q, z ∈ led8S M c.2.2) ∧ e1.dt = dueT (sl ks j k)) ∧ ((∀ z ∈ e2.cells q, z ∈ led8S M c.2.2) ∧ e2.dt = dueT (sl ks (j + k + 1) (s - k - 1))) := by
  obtain ⟨rl, cl, a1, a2, a3, a4, a5⟩ := P.good.at (i := j) (j := k) (by omega) (ln_left h hk)
  obtain ⟨rr, cr, b1, b2, b3, b4, b5⟩ := P.good.at (i := j + k + 1) (j := s - k - 1) (by omega) (ln_right h hk)
  have tl := P.good.tl
  obtain ⟨pl, e1, he1⟩ : ∃ pl e1, cl.es = pl ++ [e1] := ⟨cl.es.dropLast, cl.es.getLast a5.ne, (List.dropLast_concat_getLast a5.ne).symm⟩
  obtain ⟨e2, pr, he2⟩ : ∃ e2 pr, cr.es = e2 :: pr := by
    cases hc : cr.es with
    | nil => exact absurd hc b5.ne
    | cons e2 pr => exact ⟨e2, pr, rfl⟩
  have c1 := a5.es e1 (by rw [he1]; simp)
  have c2 := b5.es e2 (by rw [he2]; simp)
  have d1 := a5.cell
  have d2 := b5.cell
  have f1 := a5.few
  have f2 := b5.few
  unfold Cel.cell at d1 d2
  rw [he1] at d1 f1
  rw [he2] at d2 f2
  rw [List.length_append, List.length_singleton] at f1
  exact ⟨rl, rr, cl, cr, pl, pr, e1, e2, ⟨a1, a2, a4, by rw [a3]; exact Nat.le_trans ln_le hn, tl _ d1, by omega⟩, ⟨b1, b2, b4, by rw [b3]; exact Nat.le_trans ln_le hn, tl _ d2, f2⟩, ⟨fun z hz => tl z (c1.1 z hz), c1.2⟩, ⟨fun z hz => tl z (c2.1 z hz), c2.2⟩⟩
/-- a merge was made -/
theorem cut_step (P : Cut8 q M R K0 ra ks len b j s due k c) (hg : g.dt = dueT (sl ks j s)) (hd : due.dt = dueT (sl ks j s)) (sm : (dueT (sl ks j s)).Sm 315) (hL : ∀ z ∈ ledC M R c ++ own, z ∈ L1)
    (hsep : ∀ p ∈ L1, ∀ z ∈ g.cells q, p.1 ≠ z.1) (ht : ∀ p ∈ L1, p.1 ≠ t) (hoff : OwnOff own ((ledC M R c).map (·.1))) :
    Cut8 q M R K0 ra ks len b j s due (k + 1) (cutN c q g t due) ∧ OwnOff own ((ledC M R (cutN c q g t due)).map (·.1)) := by
  have hC : ∀ z ∈ ledC M R c, z ∈ L1 := fun z hz => hL z (List.mem_append_left _ hz)
  have new : ∀ p ∈ L1, ∀ z ∈ (t, tupO g.x due.b) :: g.cells q, p.1 ≠ z.1 := fun p hp z hz => by
    rcases List.mem_cons.mp hz with rfl | hz
    · exact ht p hp
    · exact hsep p hp z hz
  have newm : ∀ z ∈ (t, tupO g.x due.b) :: g.cells q, ∀ a ∈ mu8 M c.2.2, z.1 ≠ a := fun z hz a ha => by
    obtain ⟨o, ho⟩ := ledC_mu (R := R) a ha
    exact Ne.symm (new _ (hC _ ho) z hz)
  have G1 := Gd8.grow P.good newm
  have G2 : Gd8 q M (due.cells ++ K0) ra ks len (b + k) ⟨c.2.2.rows, c.2.2.md, c.2.2.nM, ((t, tupO g.x due.b) :: g.cells q) ++ c.2.2.Tl⟩ := G1.weak (fun z hz => List.mem_append_right _ hz) (Nat.le_refl _)
  refine ⟨⟨?_, fun e he => ?_, Gd8.note (m := ⟨t, g, due⟩) G2 ⟨?_, fun z hz => ?_, fun z hz => ?_, ?_, ?_⟩, P.offm, fun z hz => ?_⟩, fun p hp a ha => ?_⟩
  · show (c.1 ++ [g]).length = _
    rw [List.length_append, P.cnt]; rfl
  · rcases List.mem_append.mp he with he | he
    · exact ⟨fun z hz => List.mem_append_right _ ((P.recs e he).1 z hz), (P.recs e he).2⟩
    · rw [List.mem_singleton.mp he]
      exact ⟨fun z hz => List.mem_append_left _ (.tail _ hz), hg⟩
  · exact List.mem_append_left _ (.head _)
  · exact List.mem_append_left _ (.tail _ hz)
  · exact List.mem_append_right _ (P.good.keep z (List.mem_append_left _ hz))
  · exact hg.trans hd.symm
  · show g.dt.Sm 315
    rw [hg]; exact sm
  · rcases List.mem_append.mp hz with hz | hz
    · exact Ne.symm (new _ (hC _ (.head _)) z hz)
    · exact P.offt z hz
  · have ha : a ∈ R :: M :: ((c.2.2.rows.map Rw8.cell) ++ (((t, tupO g.x due.b) :: g.cells q) ++ c.2.2.Tl)).map (·.1) := ha
    have old : ∀ a ∈ (ledC M R c).map (·.1), p.1 ≠ a := hoff p hp
    rcases List.mem_cons.mp ha with rfl | ha
    · exact old _ (.head _)
    rcases List.mem_cons.mp ha with rfl | ha
    · exact old _ (.tail _ (.head _))
    rw [List.map_append] at ha
    rcases List.mem_append.mp ha with ha | ha
    · exact old a (.tail _ (.tail _ (by rw [List.map_append]; exact List.mem_append_left _ ha)))
    rw [List.map_append] at ha
    rcases List.mem_append.mp ha with ha | ha
    · obtain ⟨z, hz, rfl⟩ := List.mem_map.mp ha
      exact new p (hL p (List.mem_append_right _ hp)) z hz
    · exact old a (.tail _ (.tail _ (by rw [List.map_append]; exact List.mem_append_right _ ha)))
theorem cut_news (P : Cut8 q M R K0 ra ks len b j s due k c) (hoff : OwnOff own ((ledC M R c).map (·.1))) (hR : (R, listOf ((c.1 ++ [g]).map fun e => Value.ref e.x).toArray (c.2.1 + 1)) ∈ N9) (hM : (M, listOf ((c.2.2.md ++ [(⟨t, g, due⟩ : Md8)]).map fun m => Value.ref m.t).toArray (c.2.2.nM + 1)) ∈ N9)
    (ht : (t, tupO g.x due.b) ∈ N9) (hg : ∀ z ∈ g.cells q, z ∈ N9) (hr : ∀ z ∈ ledC M R c ++ own, z.1 ≠ M → z.1 ≠ R → z ∈ N9) :
    (∀ z ∈ ledC M R (cutN c q g t due), z ∈ N9) ∧ ∀ z ∈ own, z ∈ N9 := by
  have hnd := P.good.sep.nd
  unfold mu8 at hnd
  rw [List.nodup_cons] at hnd
  refine ⟨fun z hz => ?_, fun z hz => hr z (List.mem_append_right _ hz) (hoff z hz M (.tail _ (.head _))) (hoff z hz R (.head _))⟩
  rcases List.mem_cons.mp hz with rfl | hz
  · exact hR
  rcases List.mem_cons.mp hz with rfl | hz
  · exact hM
  rcases List.mem_append.mp hz with hz | hz
  · refine hr z (List.mem_append_left _ (.tail _ (.tail _ (List.mem_append_left _ hz)))) (fun e => ?_) (fun e => ?_)
    · obtain ⟨r, hr, rfl⟩ := List.mem_map.mp hz
      exact hnd.1 (e ▸ List.mem_map_of_mem hr)
    · obtain ⟨r, hr, rfl⟩ := List.mem_map.mp hz
      exact P.offm r.a (.tail _ (List.mem_map_of_mem hr)) e
  rcases List.mem_append.mp hz with hz | hz
  · rcases List.mem_cons.mp hz with rfl | hz
    · exact ht
    · exact hg z hz
  · exact hr z (List.mem_append_left _ (.tail _ (.tail _ (List.mem_append_right _ hz)))) (P.good.sep.off z hz M (.head _)) (P.offt z hz)
/-- the new cell comes to its row -/
theorem put_led (hnd : (mu8 M ⟨p1 ++ r :: p2, md, nM, Tl⟩).Nodup) (hoff : ∀ z ∈ Tl, ∀ b ∈ mu8 M ⟨p1 ++ r :: p2, md, nM, Tl⟩, z.1 ≠ b) : ∀ z ∈ led8S M ⟨p1 ++ r' :: p2, md, nM, Tl⟩, z = r'.cell ∨ (z ∈ led8S M ⟨p1 ++ r :: p2, md, nM, Tl⟩ ∧ z.1 ≠ r.a) := by
  have hra : r.a ∈ mu8 M ⟨p1 ++ r :: p2, md, nM, Tl⟩ := by
    unfold mu8
    rw [List.map_append, List.map_cons]
    exact .tail _ (List.mem_append_right _ (.head _))
  unfold mu8 at hnd
  rw [List.map_append, List.map_cons, List.nodup_cons, List.nodup_append, List.nodup_cons] at hnd
  obtain ⟨hM, h1, ⟨h2, h3⟩, h4⟩ := hnd
  intro z hz
  have row : ∀ x, x ∈ p1 ++ r :: p2 → x.cell ∈ led8S M ⟨p1 ++ r :: p2, md, nM, Tl⟩ := fun x hx => .tail _ (List.mem_append_left _ (List.mem_map_of_mem hx))
  rcases List.mem_cons.mp hz with rfl | hz
  · exact .inr ⟨.head _, fun e => hM (e ▸ List.mem_append_right _ (.head _))⟩
  rcases List.mem_append.mp hz with hz | hz
  · rw [List.map_append, List.map_cons] at hz
    rcases List.mem_append.mp hz with hz | hz
    · obtain ⟨x, hx, rfl⟩ := List.mem_map.mp hz
      exact .inr ⟨row x (List.mem_append_left _ hx), h4 x.a (List.mem_map_of_mem hx) r.a (.head _)⟩
    rcases List.mem_cons.mp hz with rfl | hz
    · exact .inl rfl
    · obtain ⟨x, hx, rfl⟩ := List.mem_map.mp hz
      exact .inr ⟨row x (List.mem_append_right _ (.tail _ hx)), fun e => h2 (e ▸ List.mem_map_of_mem hx)⟩
  · exact .inr ⟨.tail _ (List.mem_append_right _ hz), hoff z hz _ hra⟩
/-- a row is done: what the loop over the starts holds behind it -/
theorem row_end {st : St8} (P : Cut8 q M R K0 ra ks len b j s due s (c.1, c.2.1, st)) (h0 : 0 < s) (hs : s ≤ 100) (hj : j < ra.length) (hlen : len j = s) (h1 : len' j = len j + 1) (h2 : ∀ i, i ≠ j → len' i = len i)
    (hoff : OwnOff own ((ledC M R (c.1, c.2.1, st)).map (·.1))) :
    ∃ r : Rw8, ra[j]? = some r.a ∧ r.cell ∈ led8S M st ∧ r.cs.length = s ∧ ∃ st' : St8, Gd8 q M K0 ra ks len' (b + s) st' ∧ OwnOff own ((led8S M st').map (·.1)) ∧
      ∀ z ∈ led8S M st' ++ own, z = (r.a, listOf ((r.cs ++ [(⟨R, c.2.1, c.1⟩ : Cel)]).map fun c => Value.ref c.a).toArray (r.n + 1)) ∨ (z ∈ ledC M R (c.1, c.2.1, st) ++ own ∧ z.1 ≠ r.a) := by
  obtain ⟨rows, md, nM, Tl⟩ := st
  have G1 : Gd8 q M K0 ra ks len (b + s) ⟨rows, md, nM, [(R, listOf (c.1.map fun e => Value.ref e.x).toArray c.2.1)] ++ Tl⟩ :=
    (Gd8.grow (mr := [(R, listOf (c.1.map fun e => Value.ref e.x).toArray c.2.1)]) P.good fun z hz a ha => by rw [List.mem_singleton.mp hz]; exact Ne.symm (P.offm a ha)).weak (fun z hz => List.mem_append_right _ (List.mem_append_right _ hz)) (Nat.le_refl _)
  have hl : j < rows.length := by have := congrArg List.length G1.ra; rw [List.length_map] at this; exact this ▸ hj
  obtain ⟨p1, r, p2, rfl, rfl⟩ := split_place hl
  have hr : (p1 ++ r :: p2)[p1.length]? = some r := by rw [List.getElem?_append_right (Nat.le_refl _), Nat.sub_self]; rfl
  have hcs := (G1.rows p1.length r hr).1
  have hrm : r.a ∈ mu8 M ⟨p1 ++ r :: p2, md, nM, Tl⟩ := .tail _ (List.mem_map_of_mem (by simp))
  have G2 := Gd8.put (c := ⟨R, c.2.1, c.1⟩) G1 ⟨List.mem_append_left _ (.head _), fun e => ?_, fun e he => ⟨fun z hz => List.mem_append_right _ ((P.recs e he).1 z hz), ?_⟩, ?_⟩ h1 h2
  · refine ⟨r, ?_, .tail _ (List.mem_append_left _ (List.mem_map_of_mem (by simp))), by rw [hcs, hlen], _, G2, fun p hp a ha => ?_, fun z hz => ?_⟩
    · rw [← G1.ra, List.getElem?_map, hr]; rfl
    · obtain ⟨z, hz, rfl⟩ := List.mem_map.mp ha
      rcases put_led (r := r) G1.sep.nd G1.sep.off z hz with rfl | ⟨hz, _⟩
      · exact hoff p hp r.a (.tail _ (.tail _ (by rw [List.map_append]; exact List.mem_append_left _ (List.mem_map.mpr ⟨r.cell, List.mem_map_of_mem (by simp), rfl⟩))))
      · rcases List.mem_cons.mp hz with rfl | hz
        · exact hoff p hp M (.tail _ (.head _))
        rcases List.mem_append.mp hz with hz | hz
        · exact hoff p hp z.1 (.tail _ (.tail _ (by rw [List.map_append]; exact List.mem_append_left _ (List.mem_map_of_mem hz))))
        rcases List.mem_append.mp hz with hz | hz
        · rw [List.mem_singleton.mp hz]; exact hoff p hp R (.head _)
        · exact hoff p hp z.1 (.tail _ (.tail _ (by rw [List.map_append]; exact List.mem_append_right _ (List.mem_map_of_mem hz))))
    · rcases List.mem_append.mp hz with hz | hz
      · rcases put_led (r := r) G1.sep.nd G1.sep.off z hz with rfl | ⟨hz, hne⟩
        · exact .inl rfl
        · refine .inr ⟨List.mem_append_left _ ?_, hne⟩
          rcases List.mem_cons.mp hz with rfl | hz
          · exact .tail _ (.head _)
          rcases List.mem_append.mp hz with hz | hz
          · exact .tail _ (.tail _ (List.mem_append_left _ hz))
          rcases List.mem_append.mp hz with hz | hz
          · rw [List.mem_singleton.mp hz]; exact .head _
          · exact .tail _ (.tail _ (List.mem_append_right _ hz))
      · exact .inr ⟨List.mem_append_right _ hz, hoff z hz r.a (.tail _ (.tail _ (by rw [List.map_append]; exact List.mem_append_left _ (List.mem_map.mpr ⟨r.cell, List.mem_map_of_mem (by simp), rfl⟩))))⟩
  · have := P.cnt
    have e : c.1 = [] := e
    rw [e] at this
    exact absurd this (by simp; omega)
  · rw [(P.recs e he).2, hcs, hlen]
  · show c.1.length ≤ 100
    have := P.cnt
    have e : c.1.length = s := this
    omega
end
section
variable {prog : Program} {w : World} {A : Around} {E : Value → Shared → Prop} {s : Shared} {h₀ : Heap} {L a b : Addr} {news : List (Addr × Obj)}
theorem is_lists {vs : Array Value} {c : Nat} {o : Obj} {Q : Value → Shared → Prop} (N : News h₀ L s.heap news) (ha : (a, listOf vs c) ∈ news) (hb : (b, o) ∈ news) (hne : a ≠ b) (h : Q (.bool false) s) : wpAny (model prog w) A (compareOp .Is (.ref a) (.ref b)) Q E s :=
  wpAny_is_ref_other hne (N _ ha).1 (N _ hb).1 (by show (Value.type "list") ≠ _; decide) h
end
theorem due_is {bs : List Bk} {es : List Rc} {i j : Nat} (h : bs.map Bk.dt = es.map Rc.dt) : dueT (((bs.drop j).take (i + 1 + 1)).map Bk.dt) = dueT (sl (es.map Rc.dt) j (i + 1)) := by
  unfold sl
  rw [List.map_take, List.map_drop, h]
end Mine
end

section
namespace Mine
inductive Deep8w : Prop | mk
local macro_rules | `(tactic| walk_at "exec For Name Name cons nil") => `(tactic| (k_here; refine Mine.stop ?_))
local macro_rules | `(tactic| walk_at "subscriptTail Name UnaryOp ref int") => `(tactic| (refine Mine.stop ?_))
local macro_rules | `(tactic| walk_at "subscriptTail List cons BinOp ref int") => `(tactic| (refine Mine.stop ?_))
local macro_rules | `(tactic| walk_at "call builtin:list.append") => `(tactic| (k_here; k_dflt (refine' Mine.append_T ?k1 ?k2 ?k3 ?z ?_; (case k1 => k_asm); (case k2 => k_asm); (case k3 => k_upd); (case z => ((try simp only [List.length_append, List.length_cons, List.length_nil]); omega)); k_whole); intro h' F' N'; (try k_sweep)))
local macro_rules | `(tactic| walk_at "call builtin:list.append") => `(tactic| (k_here; k_dflt (refine' Mine.append_I ?k1 ?k2 ?k3 ?z ?_; (case k1 => k_asm); (case k2 => k_asm); (case k3 => k_upd); (case z => omega); k_whole); intro h' F' N'; (try k_sweep)))
local macro_rules | `(tactic| walk_at "CompSrc") => `(tactic| ((with_reducible rename Deep8w => hDeep0); refine Mine.stop ?_))
local macro_rules | `(tactic| walk_at "CompEnd") => `(tactic| (refine Mine.stop ?_))
local macro_rules | `(tactic| walk_at "exec For Name Call cons nil") => `(tactic| ((with_reducible rename Deep8w => hDeep0); refine Mine.stop ?_))
local macro_rules | `(tactic| walk_at "exec For Tuple Name cons nil") => `(tactic| ((with_reducible rename Deep8w => hDeep0); refine Mine.stop ?_))
local macro_rules | `(tactic| walk_at "pyIter ref") => `(tactic| ((with_reducible rename Deep8w => hDeep0); refine Mine.stop ?_))
local macro_rules | `(tactic| walk_at "subscriptTail Name Name ref int") => `(tactic| (refine Mine.stop ?_))
local macro_rules | `(tactic| walk_at "subscriptTail Name BinOp ref int") => `(tactic| (refine Mine.stop ?_))
local macro_rules | `(tactic| walk_at "subscriptTail Subscript Name Name Name ref int") => `(tactic| (refine Mine.stop ?_))
local macro_rules | `(tactic| walk_at "subscriptTail Subscript Name BinOp BinOp ref int") => `(tactic| (refine Mine.stop ?_))
local macro_rules | `(tactic| walk_at "subscriptTail Subscript Subscript Name UnaryOp ref int") => `(tactic| (refine Mine.stop ?_))
local macro_rules | `(tactic| walk_at "subscriptTail Subscript Subscript BinOp Constant ref int") => `(tactic| (refine Mine.stop ?_))
local macro_rules | `(tactic| walk_at "subscriptTail Name Constant ref int") => `(tactic| (refine Mine.stop ?_))
local macro_rules | `(tactic| walk_at "subscriptTail Name Slice ref ref") => `(tactic| (refine Mine.stop ?_))
local macro_rules | `(tactic| walk_at "compareOp Eq ref ref") => `(tactic| (refine Mine.stop ?_))
local macro_rules | `(tactic| walk_at "compareOp NotEq ref ref") => `(tactic| (refine Mine.stop ?_))
local macro_rules | `(tactic| walk_at "compareOp Is ref ref") => `(tactic| (refine Mine.stop ?_))
local macro_rules | `(tactic| walk_at "call builtin:list.append") => `(tactic| ((with_reducible rename Deep8w => hDeep0); refine Mine.stop ?_))
local macro_rules | `(tactic| walk_at "call ref") => `(tactic| ((with_reducible rename Deep8w => hDeep0); refine Mine.stop ?_))
local macro_rules | `(tactic| walk_at "call ref") => `(tactic| (k_here; k_dflt (refine' entry_new ?k1 ?k2 ?k3 ?k4 ?k5 ?kK ?kd ?ku ?_; (case k1 => k_asm); (case k2 => k_asm); (case k3 => k_asm); (case k4 => k_asm); (case k5 => k_asm); (case kK => first | exact rfl | assumption); (case kd => ktr_room); (case ku => ktr_units); k_whole); intro X' D' u' r' q1' q2' q3' q4' h' tk' F' N' l1 l2 l3 l4; unfold Mine.entD at N'; (try simp only [AllLt, and_true] at l1); (try k_lt2 l2); (try k_lt2 l3); (try k_lt2 l4); (try k_sweep)))
local macro_rules | `(tactic| walk_at "call builtin:len") => `(tactic| (refine Mine.stop ?_))
local macro_rules | `(tactic| walk_at "GrowPost") => `(tactic| (dsimp only [Mine.GrowPost]))
local macro_rules | `(tactic| walk_at "GrowEnd") => `(tactic| (refine Mine.stop ?_))
set_option maxHeartbeats 4000000 in
theorem law08 : PySem.Challenge.rw_kn0090_08.Holds := by
  refine hd ?_
  k_go0; (all_goals try k_fold); k_steps
  unfold Mine.Stop
  with_unfolding_all refine' For_invVF (by assumption) ?k1 ?k2 ?_; (case k1 => exact rfl); (case k2 => exact rfl)
  walk1
  rename Fr _ _ _ _ => F2
  rename News _ _ _ _ => N2
  rename ¬ (_ < _) => hlen
  rename World => w
  rename_i X0 D0 U0 R0 b14 b13 b12 b11 b10 b9 b8 ltDX ltXu ltur O b3 lt4 b1
  obtain ⟨g1, g2, g3, g4⟩ := lt4
  clear b8
  with_unfolding_all refine' Mine.grow_list (σ := List Rc × Rc × Nat) (fun st => Mine.led8 w.params O st.1 st.2.1 st.2.2) (fun c => []) (fun _ => True) [Str.ofString "step", Str.ofString "rest"] (fun pre st => (Mine.adrs8 O st.1 st.2.1).Nodup ∧ st.1.length ≤ 4 ∧ ∀ x ∈ st.2.1 :: st.1, Rc.Ok pre.length x) ([], ⟨X0, D0, U0, R0, _, _, _, _, [], [], 0, 0, .none, .none⟩, 0) (by rfl) (by assumption) (by assumption) F2 (Mine.news_sub N2 ?hsub) trivial ?hk ?hp ?turn ?done
  case hsub =>
    refine List.forall_mem_cons.mpr ⟨by k_mem, ?_⟩
    repeat (first | exact List.forall_mem_nil _ | refine List.forall_mem_cons.mpr ⟨by k_mem, ?_⟩)
  case hk => kst_all
  case hp =>
    refine ⟨?_, Nat.zero_le _, ?_⟩
    · simp only [adrs8, List.flatMap_nil, Rc.adr, List.append_nil, List.nodup_cons, List.mem_cons, List.not_mem_nil, not_false_eq_true, or_false, not_or, List.nodup_nil, and_true]
      refine ⟨⟨?_, ?_, ?_, ?_⟩, ⟨?_, ?_, ?_⟩, ⟨?_, ?_⟩, ?_⟩ <;> (show @Ne Nat _ _; omega)
    · exact List.forall_mem_cons.mpr ⟨⟨Nat.zero_le _, Nat.zero_le _, .inl rfl, .inl rfl⟩, List.forall_mem_nil _⟩
  case turn =>
    clear b14 b13 b12 b11 b10 b9 b3 g1 g2 g3 g4 N2 F2
    rintro ⟨p, e, nO⟩ pre post n t u h tk own hsc hmem hoff _ hP Ft Nt
    (try dsimp only at hP Ft Nt hoff)
    simp only [kstB] at Ft
    obtain ⟨hnd, hpl, hE⟩ := hP
    rw [Mine.led8_adr] at hoff
    have hmk := kstMark
    obtain ⟨⟨⟨y1, y2, y3⟩, ⟨y4, y5⟩, y6⟩, ⟨z1, z2, z3, z4⟩, hTo⟩ := Mine.apart8 (q := w.params) hnd hoff
    have Nt' := Mine.open8 Nt
    clear Nt
    generalize hT : p.flatMap (Rc.cells w.params) ++ own = T at Nt' hTo
    unfold Rc.cells Mine.entD at Nt'
    simp only [List.cons_append, List.nil_append] at Nt'
    have hOk := hE e (.head _)
    have hag := hOk.ag
    have hrl := hOk.rl
    have hn63 : pre.length ≤ 62 := by
      have := congrArg List.length hsc
      rw [List.length_append, List.length_cons] at this
      omega
    have hk5 := Mine.fmod_lt (x := n.fdiv 4) (m := 5) (by decide)
    have hk3 := Mine.fmod_lt (x := n.fdiv 4) (m := 3) (by decide)
    have hk9 := Mine.fmod_lt (x := (n.fdiv 4).fdiv 3) (m := 3) (by decide)
    (try k_fold)
    k_steps
    · unfold Mine.Stop
      rename News _ _ _ _ => N5
      refine Mine.len_M (val := fun e : Rc => Value.ref e.x) N5 (by k_mem) (by rw [List.length_append, List.length_singleton]; omega) ?_
      have hpe : (p ++ [e]).length = p.length + 1 := by rw [List.length_append, List.length_singleton]
      k_steps
      · unfold Mine.Stop
        rename Fr _ _ _ _ => F9
        rename News _ _ _ _ => N9
        rename_i xN dN uN rN s1 s2 s3 s4 hh1 tkk ltN ltN2 ltN3 ltN4 hh2
        obtain ⟨g1, g2, g3, g4, g5, g6⟩ := ltN
        have g6 := Mine.allLt_mem g6
        have hO9 : (O, listOf ((p ++ [e] ++ [(⟨xN, dN, uN, rN, s1, s2, s3, s4, [], [], 0, 0, .none, .none⟩ : Rc)]).map fun e => Value.ref e.x).toArray (nO + 1)) ∈ _ := mem_of N9 (by rw [List.map_append (l₁ := p ++ [e]), List.map_cons, List.map_nil, ← List.push_toArray]; k_mem)
        have ht := Mine.turn8n (e' := ⟨xN, dN, uN, rN, _, _, _, _, [], [], 0, 0, .none, .none⟩) (n := nO + 1) hT hnd hoff (by omega) hE hO9 (List.forall_mem_cons.mpr ⟨by k_mem, List.forall_mem_cons.mpr ⟨by k_mem, List.forall_mem_cons.mpr ⟨by k_mem, List.forall_mem_cons.mpr ⟨by k_mem, List.forall_mem_nil _⟩⟩⟩⟩) (List.forall_mem_cons.mpr ⟨by k_mem, List.forall_mem_cons.mpr ⟨by k_mem, List.forall_mem_cons.mpr ⟨by k_mem, List.forall_mem_cons.mpr ⟨by k_mem, List.forall_mem_nil _⟩⟩⟩⟩) (fun z hz => by repeat (first | exact hz | refine List.Mem.tail _ ?_)) (Mine.new8_nd ltN2 ltN3 ltN4) (Mine.new8_lt ltN2 ltN3 ltN4 g1 g2 g3 g4 g5 g6) ⟨Nat.zero_le _, Nat.zero_le _, .inl rfl, .inl rfl⟩
        refine' Mine.grow_end (p ++ [e], ⟨xN, dN, uN, rN, s1, s2, s3, s4, [], [], 0, 0, .none, .none⟩, nO + 1) F9 N9 ht.1 ht.2.1 ht.2.2.1 trivial ?hk ?hr (by rw [show (pre ++ [n]).length = pre.length + 1 by rw [List.length_append]; rfl]; exact ht.2.2.2)
        case hk => kst_all
        case hr => kst_same
      · unfold Mine.Stop
        rename News _ _ _ _ => N5
        refine Mine.sub_last (val := fun e : Rc => Value.ref e.x) N5 (by k_mem) (by omega) ?_
        k_steps
        unfold Mine.Stop
        rename News _ _ _ _ => N6
        refine Mine.sub_table (ys := [(Str.ofString "fig", _), (Str.ofString "Fig", _), (Str.ofString "*", _), (Str.ofString "plum", _), (Str.ofString "", _)]) N6 (by k_mem) hk5.1 hk5.2 (by show 5 ≤ 100; decide) fun v hv => ?_
        clear hv
        k_steps
        unfold Mine.Stop
        rename Fr _ _ _ _ => F9
        rename News _ _ _ _ => N9
        have ht := Mine.turn8 (e' := e.pushA v) (n := nO) hT hnd hoff hpl hE (mem_of N9 (by k_mem)) (List.forall_mem_cons.mpr ⟨by k_mem, List.forall_mem_cons.mpr ⟨by k_mem, List.forall_mem_cons.mpr ⟨by k_mem, List.forall_mem_cons.mpr ⟨by k_mem, List.forall_mem_nil _⟩⟩⟩⟩) (fun z hz => by repeat (first | exact hz | refine List.Mem.tail _ ?_)) rfl (Mine.ok8_pushA hOk)
        refine' Mine.grow_end (p, e.pushA v, nO) F9 N9 ht.1 ht.2.1 ht.2.2.1 trivial ?hk ?hr (by rw [List.length_append]; exact ht.2.2.2)
        case hk => kst_all
        case hr => kst_same
    · unfold Mine.Stop
      rename News _ _ _ _ => N5
      refine Mine.sub_last (val := fun e : Rc => Value.ref e.x) N5 (by k_mem) (by omega) ?_
      k_steps
      unfold Mine.Stop
      rename News _ _ _ _ => N6
      refine Mine.sub_table (ys := [(Str.ofString "fig", _), (Str.ofString "Fig", _), (Str.ofString "*", _), (Str.ofString "plum", _), (Str.ofString "", _)]) N6 (by k_mem) hk5.1 hk5.2 (by show 5 ≤ 100; decide) fun v hv => ?_
      clear hv
      k_steps
      unfold Mine.Stop
      rename Fr _ _ _ _ => F9
      rename News _ _ _ _ => N9
      have ht := Mine.turn8 (e' := e.pushA v) (n := nO) hT hnd hoff hpl hE (mem_of N9 (by k_mem)) (List.forall_mem_cons.mpr ⟨by k_mem, List.forall_mem_cons.mpr ⟨by k_mem, List.forall_mem_cons.mpr ⟨by k_mem, List.forall_mem_cons.mpr ⟨by k_mem, List.forall_mem_nil _⟩⟩⟩⟩) (fun z hz => by repeat (first | exact hz | refine List.Mem.tail _ ?_)) rfl (Mine.ok8_pushA hOk)
      refine' Mine.grow_end (p, e.pushA v, nO) F9 N9 ht.1 ht.2.1 ht.2.2.1 trivial ?hk ?hr (by rw [List.length_append]; exact ht.2.2.2)
      case hk => kst_all
      case hr => kst_same
    · unfold Mine.Stop
      rename News _ _ _ _ => N5
      refine Mine.sub_last (val := fun e : Rc => Value.ref e.x) N5 (by k_mem) (by omega) ?_
      k_steps
      unfold Mine.Stop
      rename Fr _ _ _ _ => F9
      rename News _ _ _ _ => N9
      have ht := Mine.turn8 (e' := e.pushR ((n.fdiv 4).fmod 10, _)) (n := nO) hT hnd hoff hpl hE (mem_of N9 (by k_mem)) (List.forall_mem_cons.mpr ⟨by k_mem, List.forall_mem_cons.mpr ⟨by k_mem, List.forall_mem_cons.mpr ⟨by k_mem, List.forall_mem_cons.mpr ⟨by k_mem, List.forall_mem_nil _⟩⟩⟩⟩) (fun z hz => by repeat (first | exact hz | refine List.Mem.tail _ ?_)) rfl (Mine.ok8_pushR hOk)
      refine' Mine.grow_end (p, e.pushR ((n.fdiv 4).fmod 10, _), nO) F9 N9 ht.1 ht.2.1 ht.2.2.1 trivial ?hk ?hr (by rw [List.length_append]; exact ht.2.2.2)
      case hk => kst_all
      case hr => kst_same
    · unfold Mine.Stop
      rename News _ _ _ _ => N5
      refine Mine.sub_menu N5 (by k_mem) hk3.1 hk3.2 (.inr ⟨_, _, rfl⟩) (.inr ⟨_, _, rfl⟩) (.inl rfl) fun v1 hv1 => ?_
      k_steps
      unfold Mine.Stop
      rename News _ _ _ _ => N5
      refine Mine.sub_last (val := fun e : Rc => Value.ref e.x) N5 (by k_mem) (by omega) ?_
      k_steps
      unfold Mine.Stop
      rename News _ _ _ _ => N5
      refine Mine.sub_menu N5 (by k_mem) hk9.1 hk9.2 (.inr ⟨_, _, rfl⟩) (.inl rfl) (.inr ⟨_, _, rfl⟩) fun v2 hv2 => ?_
      k_steps
      unfold Mine.Stop
      rename News _ _ _ _ => N5
      refine Mine.sub_last (val := fun e : Rc => Value.ref e.x) N5 (by k_mem) (by omega) ?_
      k_steps
      unfold Mine.Stop
      rename Fr _ _ _ _ => F9
      rename News _ _ _ _ => N9
      have ht := Mine.turn8 (e' := e.setDR v1 v2) (n := nO) hT hnd hoff hpl hE (mem_of N9 (by k_mem)) (List.forall_mem_cons.mpr ⟨by k_mem, List.forall_mem_cons.mpr ⟨by k_mem, List.forall_mem_cons.mpr ⟨by k_mem, List.forall_mem_cons.mpr ⟨by k_mem, List.forall_mem_nil _⟩⟩⟩⟩) (fun z hz => by repeat (first | exact hz | refine List.Mem.tail _ ?_)) rfl (Mine.ok8_setDR hOk hv1 hv2)
      refine' Mine.grow_end (p, e.setDR v1 v2, nO) F9 N9 ht.1 ht.2.1 ht.2.2.1 trivial ?hk ?hr (by rw [List.length_append]; exact ht.2.2.2)
      case hk => kst_all
      case hr => kst_same
  case done =>
    rintro ⟨p, e, nO⟩ uu h tk _ hP Ft Nt
    (try dsimp only at hP Ft Nt)
    simp only [kstB] at Ft
    obtain ⟨hnd, hpl, hE⟩ := hP
    obtain ⟨es, T, hel, hes, hTc, Nt'⟩ : ∃ (es : List Rc) (T : List (Addr × Obj)), (1 ≤ es.length ∧ es.length ≤ 5) ∧ (∀ e ∈ es, e.dt.Sm 63) ∧ (∀ e ∈ es, ∀ z ∈ e.cells w.params, z ∈ T) ∧ News _ _ h ((O, listOf (es.map fun e => Value.ref e.x).toArray nO) :: T) := Mine.done8 Nt hpl hE (by omega)
    clear Nt hnd hpl hE
    have hDeep : Deep8w := .mk
    (try k_fold)
    k_steps
    unfold Mine.Stop
    rename Fr _ _ _ _ => F5
    rename News _ _ _ _ => N5
    refine LCg.CompSrc.ledger (by rfl) F5 N5 (.head _) (by rw [List.size_toArray, List.length_map]; simp only [sizeLine]; omega) ?_
    intro g5
    refine Mine.map_inv (fun e : Rc => Value.ref e.x) es (fun i ys news => ∃ bs : List Bk, ys = bs.map (fun k => Value.ref k.b) ∧ bs.map Bk.dt = (es.take i).map Rc.dt ∧ (∀ z ∈ (O, listOf (es.map fun e => Value.ref e.x).toArray nO) :: T, z ∈ news) ∧ ∀ k ∈ bs, ∀ z ∈ k.cells, z ∈ news) ⟨[], rfl, by rw [List.take_zero]; rfl, fun _ h => h, fun _ h => nomatch h⟩ ?tu ?fi
    case tu =>
      rintro i a I oI C oC D m2 ys news h1 tk2 E1 ha ⟨bs, rfl, hbd, hN0, hbs⟩ hC1 hx1 F' N' off' ne'
      have off0 := off'
      have hae := List.mem_of_getElem? ha
      have hsm : a.dt.Sm 315 := Mine.sm_up (hes a hae)
      (try k_fold)
      k_steps
      unfold Mine.Stop
      k_dflt (refine' parts_call a hsm ?k1 ?k2 ?k3 ?k4 ?k5 ?kK ?kd ?ku ?kc ?_; (case k1 => k_asm); (case k2 => k_asm); (case k3 => k_asm); (case k4 => k_asm); (case k5 => k_asm); (case kK => exact rfl); (case kd => ktr_room); (case ku => ktr_units); (case kc => exact fun z hz => .tail _ (.tail _ (.tail _ (hN0 z (.tail _ (hTc a hae z hz)))))); k_whole)
      intro k h' tk' hkd F' N' hsep hkne
      k_steps
      unfold Mine.Stop
      rename Fr _ _ _ _ => F6
      rename News _ _ _ _ => N6
      refine Mine.comp_end F6 N6 off0 (fun z hz => ⟨hsep _ (.head _) z hz, hsep _ (.tail _ (.head _)) z hz, hsep _ (.tail _ (.tail _ (.head _))) z hz⟩) (.inr ⟨_, List.mem_append_right _ (hN0 _ (.head _)), rfl, _, rfl⟩) ⟨bs ++ [k], by rw [List.map_append]; rfl, ?_, fun z hz => List.mem_append_right _ (hN0 z hz), fun k' hk' z hz => ?_⟩
      · rw [List.map_append, hbd, List.take_add_one, ha, List.map_append]
        show _ ++ [k.dt] = _ ++ [a.dt]
        rw [hkd]
      · rcases List.mem_append.mp hk' with hk' | hk'
        · exact List.mem_append_right _ (hbs k' hk' z hz)
        · rw [List.mem_singleton.mp hk'] at hz; exact List.mem_append_left _ hz
    case fi =>
      rintro ys news ⟨bs, rfl, hbd, hN0, hbs⟩
      rw [List.take_length] at hbd
      intro B h5 tk5 F' N' off5
      have off5 := fun z hz => Mine.off1_mem off5 z hz
      change News _ _ h5 ((B, listOf (bs.map fun k => Value.ref k.b).toArray _) :: _) at N'
      generalize List.length _ = nB at N'
      (try k_fold)
      k_steps
      unfold Mine.Stop
      rename Fr _ _ _ _ => F6
      rename News _ _ _ _ => N6
      rename_i M hM1 FM NM ltM hM2
      obtain ⟨lt1, lt2⟩ := ltM
      have lt2 := Mine.allLt_mem lt2
      clear FM NM hM1
      have hKM : ∀ z ∈ (B, listOf (bs.map fun k => Value.ref k.b).toArray nB) :: news, z.1 ≠ M := List.forall_mem_cons.mpr ⟨Nat.ne_of_lt lt1, fun z hz => Nat.ne_of_lt (lt2 z hz)⟩
      refine LCg.CompSrc.ledger (by rfl) F6 N6 (.tail _ (.tail _ (hN0 _ (.head _)))) (by rw [List.size_toArray, List.length_map]; simp only [sizeLine]; omega) ?_
      intro g7
      refine Mine.map_inv (fun e : Rc => Value.ref e.x) es (fun i ys nw => ∃ (rs : List Rw8) (Tl : List (Addr × Obj)), ys = rs.map (fun r => Value.ref r.a) ∧ rs.length = i ∧ (∀ z ∈ led8S M ⟨rs, [], 0, Tl⟩, z ∈ nw) ∧ Gd8 w.params M ((B, listOf (bs.map fun k => Value.ref k.b).toArray nB) :: news) (rs.map Rw8.a) (es.map Rc.dt) (fun _ => 1) 0 ⟨rs, [], 0, Tl⟩) ⟨[], _, rfl, rfl, fun _ h => h, Mine.Gd8.init hKM⟩ ?tu2 ?fi2
      case tu2 =>
        rintro i a I oI C oC D m2 ys nw h1 tk2 E1 ha ⟨rs, Tl, rfl, hrl, hled, hgd⟩ hC1 hx1 F' N' off' ne'
        have off0 := off'
        have hae := List.mem_of_getElem? ha
        (try k_fold)
        k_steps
        unfold Mine.Stop
        rename Fr _ _ _ _ => F7
        rename News _ _ _ _ => N7
        rename_i l1 hl1 lt1 l2 hl2 lt2
        obtain ⟨y1, y2, y3, y4⟩ := lt1
        obtain ⟨y5, _⟩ := lt2
        have y4 := Mine.allLt_mem y4
        have hO7 : (O, listOf (es.map fun e => Value.ref e.x).toArray nO) ∈ [(l2, listOf #[.ref l1] 0), (l1, listOf #[.ref a.x] 0)] ++ nw := List.mem_append_right _ (hled _ (hgd.tl _ (hgd.keep _ (.tail _ (hN0 _ (.head _))))))
        refine Mine.comp_end F7 N7 off0 (List.forall_mem_cons.mpr ⟨⟨Nat.ne_of_lt (Nat.lt_trans y1 y5), Nat.ne_of_lt (Nat.lt_trans y2 y5), Nat.ne_of_lt (Nat.lt_trans y3 y5)⟩, List.forall_mem_cons.mpr ⟨⟨Nat.ne_of_lt y1, Nat.ne_of_lt y2, Nat.ne_of_lt y3⟩, List.forall_mem_nil _⟩⟩) (.inr ⟨_, hO7, rfl, _, rfl⟩) ⟨rs ++ [⟨l2, 0, [⟨l1, 0, [a]⟩]⟩], (l1, listOf #[.ref a.x] 0) :: Tl, by rw [List.map_append]; rfl, by rw [List.length_append, hrl]; rfl, Mine.led_addrow hled, Mine.Gd8.addrow2 hgd (fun z hz => .tail _ (hN0 z (.tail _ (hTc a hae z hz)))) (by rw [hrl, List.getElem?_map, ha]; rfl) hled y4 y5⟩
      case fi2 =>
        rintro ys nw ⟨rs, Tl, rfl, hrl, hled, hgd⟩
        intro Tt h7 tk7 F' N' off7
        have off7 := fun z hz => Mine.off1_mem off7 z hz
        change News _ _ h7 ((Tt, listOf (rs.map fun r => Value.ref r.a).toArray _) :: _) at N'
        generalize List.length _ = nT at N'
        obtain ⟨st0, K0, ra, hra, kT, kB, kO, kE, kK, hg0, N7⟩ := Mine.start8 hTc hN0 hbs hrl hled hgd off7 N'
        clear hgd hled N' off7 hN0 hbs hKM hTc off5
        have hks : (es.map Rc.dt).length = es.length := List.length_map ..
        have hksm : ∀ k ∈ es.map Rc.dt, k.Sm 63 := fun k hk => by obtain ⟨e, he, rfl⟩ := List.mem_map.mp hk; exact hes e he
        have hbl : bs.length = es.length := by have := congrArg List.length hbd; rw [List.length_map, List.length_map] at this; exact this
        have hg0 : Mine.Gd8 w.params M K0 ra (es.map Rc.dt) (Mine.ln es.length 1 0) 0 st0 := hg0
        have hlim : Mine.Lim8 es.length := ⟨hel.1, hel.2⟩
        have hel9 : es.length ≤ 1000 := Nat.le_trans hel.2 (by decide)
        clear hel
        (try k_fold)
        k_steps
        unfold Mine.Stop
        with_unfolding_all refine' For_invVF (by assumption) ?k1 ?k2 ?_; (case k1 => exact rfl); (case k2 => exact rfl)
        k_steps
        unfold Mine.Stop
        refine Mine.len_M (val := fun e : Rc => Value.ref e.x) N7 (hg0.tl _ (hg0.keep _ kO)) (by omega) ?_
        k_steps
        unfold Mine.Stop
        rename IsRange _ _ _ _ _ _ _ _ => rg
        rename Fr _ _ _ _ => F8
        rename News _ _ _ _ => N8
        with_unfolding_all refine' Mine.keep_range (n := es.length - 1) [] (fun st : St8 => Mine.led8S M st) (fun _ => []) (fun _ => True) [Str.ofString "start", Str.ofString "row", Str.ofString "due", Str.ofString "cut", Str.ofString "left", Str.ofString "right", Str.ofString "one", Str.ofString "old"] (fun i st => Mine.Gd8 w.params M K0 ra (es.map Rc.dt) (Mine.ln es.length (i + 1) 0) (25 * i) st) st0 (by rfl) rg (small_one (by omega) (by omega) (by omega) (by omega)) (by rw [rangeSize_nat]; have := hlim.lo; omega) F8 N8 (fun _ h => nomatch h) (fun _ h => h) (fun _ h => nomatch h) trivial (fun _ h => nomatch h) hg0 ?turnS ?doneS
        case turnS =>
          intro st i tS u h8 tk8 own hi _ hoff _ hg Ft Nt
          (try dsimp only at Ft Nt hg hoff)
          obtain ⟨L1, hL1, Nt'⟩ : ∃ L1 : List (Addr × Obj), L1 = Mine.led8S M st ++ own ∧ News _ _ h8 L1 := ⟨_, rfl, Nt⟩
          clear Nt
          have kO1 : (O, listOf (es.map fun e => Value.ref e.x).toArray nO) ∈ L1 := by rw [hL1]; exact List.mem_append_left _ (hg.tl _ (hg.keep _ kO))
          (try k_fold)
          k_steps
          unfold Mine.Stop
          with_unfolding_all refine' For_invVF (by assumption) ?k1 ?k2 ?_; (case k1 => exact rfl); (case k2 => exact rfl)
          k_steps
          unfold Mine.Stop
          rename News _ _ _ _ => N8
          refine Mine.len_M (val := fun e : Rc => Value.ref e.x) N8 kO1 (by omega) ?_
          k_steps
          unfold Mine.Stop
          rename IsRange _ _ _ _ _ _ _ _ => rg2
          rename Fr _ _ _ _ => F8
          rename News _ _ _ _ => N8
          subst hL1
          with_unfolding_all refine' Mine.keep_range (n := es.length - 1 - i) own (fun st : St8 => Mine.led8S M st) (fun _ => []) (fun _ => True) [Str.ofString "row", Str.ofString "due", Str.ofString "cut", Str.ofString "left", Str.ofString "right", Str.ofString "one", Str.ofString "old"] (fun j st => Mine.Gd8 w.params M K0 ra (es.map Rc.dt) (Mine.ln es.length (i + 1) j) (25 * i + 5 * j) st) st (by rfl) rg2 (small_one (by omega) (by omega) (by omega) (by omega)) (by rw [rangeSize_nat]; omega) F8 N8 (fun z hz => List.mem_append_right _ hz) (fun z hz => List.mem_append_left _ hz) hoff trivial (fun _ h => nomatch h) hg ?turnT ?doneT
          case turnT =>
            intro st2 j tT u2 h9 tk9 own2 hj hK2 hoff2 _ hg2 Ft2 Nt2
            (try dsimp only at Ft2 Nt2 hg2 hoff2)
            obtain ⟨L2, hL2, Nt2'⟩ : ∃ L2 : List (Addr × Obj), L2 = Mine.led8S M st2 ++ own2 ∧ News _ _ h9 L2 := ⟨_, rfl, Nt2⟩
            clear Nt2
            have kB2 : (B, listOf (bs.map fun k => Value.ref k.b).toArray nB) ∈ L2 := by rw [hL2]; exact List.mem_append_left _ (hg2.tl _ (hg2.keep _ kB))
            (try k_fold)
            k_steps
            unfold Mine.Stop
            rename_i R hR1 FR NR ltR hR2 FR2 NR2
            clear FR NR
            k_dflt (refine' Mine.slice_M (s := ⟨_, _, _, _, _⟩) (val := fun k : Mine.Bk => Value.ref k.b) ?F ?N ?m ?z ?ha ?hb ?_ ?hs ?ht; (case F => k_asm); (case N => k_asm); (case m => exact .tail _ kB2); (case z => omega); (case ha => omega); (case hb => omega); (case hs => with_unfolding_all rfl); (case ht => (intro _; with_unfolding_all rfl)); k_whole)
            intro Sd h10 F10 N10 ltS
            rw [show (0 + (j : Int)).toNat = j by omega, show (0 + (j : Int) + (1 + (i : Int)) + 1).toNat - j = i + 1 + 1 by omega] at N10
            k_steps
            unfold Mine.Stop
            have hsm2 : ∀ k ∈ (bs.drop j).take (i + 1 + 1), k ∈ bs := fun k hk => List.mem_of_mem_drop (List.mem_of_mem_take hk)
            k_dflt (refine' due_call Sd 0 ((bs.drop j).take (i + 1 + 1)) ?ne ?ll ?sm ?k1 ?k2 ?k3 ?k4 ?k5 ?kK ?kd ?ku ?kc1 ?kc2 ?_; (case ne => (intro h; have := congrArg List.length h; rw [List.length_take, List.length_drop, List.length_nil] at this; omega)); (case ll => (rw [List.length_take, List.length_drop]; have := hlim.hi; omega)); (case sm => exact fun k hk => hksm _ (by rw [← hbd]; exact List.mem_map_of_mem (hsm2 k hk))); (case k1 => k_asm); (case k2 => k_asm); (case k3 => k_asm); (case k4 => k_asm); (case k5 => k_asm); (case kK => exact rfl); (case kd => ktr_room); (case ku => ktr_units); (case kc1 => exact .head _); (case kc2 => exact fun k hk z hz => .tail _ (.tail _ (by rw [hL2]; exact List.mem_append_left _ (hg2.tl _ (hg2.keep _ (kK k (hsm2 k hk) z hz)))))); k_whole)
            intro due h11 tk11 hdd F11 N11 hsepD hdne
            rw [Mine.due_is hbd] at hdd
            subst hL2
            obtain ⟨hC0, hoffC, hinC⟩ := Mine.cut_begin (j := j) (s := i + 1) hg2 hoff2 ltR hsepD
            obtain ⟨L3, hL3, N11'⟩ : ∃ L3 : List (Addr × Obj), (∀ z ∈ Mine.ledC M R ([], 0, ⟨st2.rows, st2.md, st2.nM, due.cells ++ st2.Tl⟩) ++ own2, z ∈ L3) ∧ News _ _ h11 L3 := ⟨_, fun z hz => by
              rcases List.mem_append.mp hz with hz | hz
              · exact hinC z hz
              · exact List.mem_append_right _ (.tail _ (.tail _ (List.mem_append_right _ hz))), N11⟩
            clear N11
            k_steps
            unfold Mine.Stop
            with_unfolding_all refine' For_invVF (by assumption) ?k1 ?k2 ?_; (case k1 => exact rfl); (case k2 => exact rfl)
            k_steps
            unfold Mine.Stop
            rename IsRange _ _ _ _ _ _ _ _ => rg3
            rename Fr _ _ _ _ => F12
            rename News _ _ _ _ => N12
            with_unfolding_all refine' Mine.keep_range (n := i + 1) own2 (fun c : List Rc × Nat × St8 => Mine.ledC M R c) (fun _ => []) (fun _ => True) [Str.ofString "left", Str.ofString "right", Str.ofString "one", Str.ofString "old"] (fun k c => Mine.Cut8 w.params M R K0 ra (es.map Rc.dt) (Mine.ln es.length (i + 1) j) (25 * i + 5 * j) j (i + 1) due k c) ([], 0, ⟨st2.rows, st2.md, st2.nM, due.cells ++ st2.Tl⟩) (by rfl) rg3 (small_one (by omega) (by omega) (by omega) (by omega)) (by rw [rangeSize_nat]; omega) F12 N12 (fun z hz => hL3 z (List.mem_append_right _ hz)) (fun z hz => hL3 z (List.mem_append_left _ hz)) hoffC trivial (fun _ h => nomatch h) hC0 ?turnC ?doneC
            case turnC =>
              intro c k tC u3 h12 tk12 own3 hk hK3 hoff3 _ hP Ft3 Nt3
              (try dsimp only at Ft3 Nt3 hP hoff3)
              have hsz : j + (i + 1) < es.length := by omega
              obtain ⟨rl, rr, cl, cr, pl, pr, e1, e2, ⟨a1, a2, a3, a4, a5, a6⟩, ⟨b1, b2, b3, b4, b5, b6⟩, ⟨c1, c2⟩, ⟨d1, d2⟩⟩ := Mine.cut_sides hP hra (by have := hlim.hi; omega) hsz hk
              have hmt := Mine.sl_merge (ks := es.map Rc.dt) (i := j) (c := k) (s := i + 1) hk (by rw [hks]; exact hsz)
              rw [← c2, ← d2] at hmt
              have hsm1 : e1.dt.Sm 315 := by rw [c2]; exact Mine.sl_small hksm (by rw [hks]; exact hlim.hi)
              have hsm2 : e2.dt.Sm 315 := by rw [d2]; exact Mine.sl_small hksm (by rw [hks]; exact hlim.hi)
              have hsm3 : (Mine.dueT (Mine.sl (es.map Rc.dt) j (i + 1))).Sm 315 := Mine.sl_small hksm (by rw [hks]; exact hlim.hi)
              obtain ⟨L4, hL4, Nt3'⟩ : ∃ L4 : List (Addr × Obj), (∀ z ∈ Mine.ledC M R c ++ own3, z ∈ L4) ∧ News _ _ h12 L4 := ⟨_, fun _ h => h, Nt3⟩
              clear Nt3
              have hin : ∀ z ∈ Mine.led8S M c.2.2, z ∈ L4 := fun z hz => hL4 z (List.mem_append_left _ (.tail _ hz))
              have kT4 : (Tt, listOf (ra.map Value.ref).toArray nT) ∈ L4 := hin _ (hP.good.tl _ (hP.good.keep _ (List.mem_append_right _ kT)))
              (try k_fold)
              k_steps
              unfold Mine.Stop
              rename News _ _ _ _ => N13
              refine Mine.sub_at (val := Value.ref) (i := j) N13 kT4 (by omega) a1 (by omega) ?_
              k_steps
              unfold Mine.Stop
              rename News _ _ _ _ => N13
              refine Mine.sub_at (val := fun c : Mine.Cel => Value.ref c.a) (i := k) N13 (hin _ a2) (by omega) a3 (by omega) ?_
              k_steps
              unfold Mine.Stop
              rename News _ _ _ _ => N13
              refine Mine.sub_last (val := fun e : Rc => Value.ref e.x) N13 (hin _ a5) (by omega) ?_
              k_steps
              unfold Mine.Stop
              rename News _ _ _ _ => N13
              refine Mine.sub_at (val := Value.ref) (i := j + k + 1) N13 kT4 (by omega) b1 (by omega) ?_
              k_steps
              unfold Mine.Stop
              rename News _ _ _ _ => N13
              refine Mine.sub_at (val := fun c : Mine.Cel => Value.ref c.a) (i := i + 1 - k - 1) N13 (hin _ b2) (by omega) b3 (by omega) ?_
              k_steps
              unfold Mine.Stop
              rename News _ _ _ _ => N13
              refine Mine.sub_at (val := fun e : Rc => Value.ref e.x) (i := 0) N13 (hin _ b5) (by omega) rfl (by omega) ?_
              k_steps
              unfold Mine.Stop
              k_dflt (refine' merge_call e1 e2 hsm1 hsm2 ?k1 ?k2 ?k3 ?k4 ?k5 ?kK ?kd ?ku ?kc1 ?kc2 ?_; (case k1 => k_asm); (case k2 => k_asm); (case k3 => k_asm); (case k4 => k_asm); (case k5 => k_asm); (case kK => exact rfl); (case kd => ktr_room); (case ku => ktr_units); (case kc1 => exact fun z hz => hin z (c1 z hz)); (case kc2 => exact fun z hz => hin z (d1 z hz)); k_whole)
              intro g h13 tk13 hgd F13 N14 hsepG hgne
              rw [hmt] at hgd
              k_steps
              unfold Mine.Stop
              k_dflt (refine' parts_call g (by rw [hgd]; exact hsm3) ?k1 ?k2 ?k3 ?k4 ?k5 ?kK ?kd ?ku ?kc ?_; (case k1 => k_asm); (case k2 => k_asm); (case k3 => k_asm); (case k4 => k_asm); (case k5 => k_asm); (case kK => exact rfl); (case kd => ktr_room); (case ku => ktr_units); (case kc => exact fun z hz => List.mem_append_left _ hz); k_whole)
              intro pk h14 tk14 hpd F14 N15 hsepP hpne
              k_steps
              unfold Mine.Stop
              have hdueL : ∀ z ∈ due.cells, z ∈ L4 := fun z hz => hin z (hP.good.tl z (hP.good.keep z (List.mem_append_left _ hz)))
              rename News _ _ _ _ => N16
              refine Mine.ne_bk (k1 := pk) (k2 := due) N16 (fun z hz => List.mem_append_left _ hz) (fun z hz => List.mem_append_right _ (List.mem_append_right _ (hdueL z hz))) (by rw [hpd, hgd, hdd]) (Ne.symm (hsepP _ (List.mem_append_right _ (hdueL _ (.tail _ (.head _)))) _ (.tail _ (.head _)))) (Ne.symm (hsepP _ (List.mem_append_right _ (hdueL _ (.tail _ (.tail _ (.head _))))) _ (.tail _ (.tail _ (.head _))))) (by ke_room) (by ke_room) ?_
              have N17 := Mine.news_sub (news' := (g.x, instObj 59 g.d) :: (g.d, Mine.entD w.params g.t1 g.t2 g.t3 g.t4 g.u g.r g.dl g.rt) :: (g.u, listOf (strValues g.ag).toArray g.nu) :: (g.r, listOf (Mine.intValues g.rl).toArray g.nr) :: L4) N16 (fun z hz => List.mem_append_right _ hz)
              clear N16
              unfold Mine.entD at N17
              k_steps
              unfold Mine.Stop
              rename Fr _ _ _ _ => F18
              rename News _ _ _ _ => N18
              have hgL : ∀ z ∈ g.cells w.params, z ∈ g.cells w.params ++ L4 := fun z hz => List.mem_append_left _ hz
              with_unfolding_all refine' Mine.keep_tupH (fun e : Rc => Value.ref e.x) (xs := [e1, e2]) (Str.ofString "old") (g.cells w.params ++ L4) (fun _ : Unit => []) (fun _ => []) (fun _ => True) [] (fun _ _ => True) () (by rfl) F18 N18 (by rfl) (by rfl) (fun _ h => h) (fun _ h => nomatch h) (fun _ _ _ hb => nomatch hb) trivial (fun _ h => nomatch h) trivial ?turnO ?doneO
              case turnO =>
                rintro _ pre4 post4 old u4 h15 tk15 own4 e4 hKo4 _ _ _ Ft4 Nt4
                have hold : old = e1 ∨ old = e2 := by
                  have hm : old ∈ [e1, e2] := by rw [e4]; simp
                  simpa using hm
                have hoc : ∀ z ∈ old.cells w.params, z ∈ L4 := by
                  rcases hold with rfl | rfl
                  · exact fun z hz => hin z (c1 z hz)
                  · exact fun z hz => hin z (d1 z hz)
                have nu : g.u ≠ old.u := Ne.symm (hsepG _ (hoc _ (.tail _ (.tail _ (.head _)))) _ (.tail _ (.tail _ (.head _))))
                have nr : g.r ≠ old.r := Ne.symm (hsepG _ (hoc _ (.tail _ (.tail _ (.tail _ (.head _))))) _ (.tail _ (.tail _ (.tail _ (.head _)))))
                have N19 := Mine.news_sub (news' := (g.x, instObj 59 g.d) :: (g.d, Mine.entD w.params g.t1 g.t2 g.t3 g.t4 g.u g.r g.dl g.rt) :: (g.u, listOf (strValues g.ag).toArray g.nu) :: (g.r, listOf (Mine.intValues g.rl).toArray g.nr) ::
                  (old.x, instObj 59 old.d) :: (old.d, Mine.entD w.params old.t1 old.t2 old.t3 old.t4 old.u old.r old.dl old.rt) :: (old.u, listOf (strValues old.ag).toArray old.nu) :: (old.r, listOf (Mine.intValues old.rl).toArray old.nr) :: own4) Nt4 (fun z hz => by
                    rcases List.mem_append.mp (show z ∈ g.cells w.params ++ (old.cells w.params ++ own4) from hz) with hz | hz
                    · exact hKo4 z (List.mem_append_left _ hz)
                    rcases List.mem_append.mp hz with hz | hz
                    · exact hKo4 z (List.mem_append_right _ (hoc z hz))
                    · exact hz)
                clear Nt4
                unfold Mine.entD at N19
                (try dsimp only at Ft4)
                (try k_fold)
                k_steps
                unfold Mine.Stop
                rename News _ _ _ _ => N20
                refine Mine.is_lists N20 (.tail _ (.tail _ (.head _))) (.tail _ (.tail _ (.tail _ (.tail _ (.tail _ (.tail _ (.head _))))))) nu ?_
                k_steps
                unfold Mine.Stop
                rename News _ _ _ _ => N20
                refine Mine.is_lists N20 (.tail _ (.tail _ (.tail _ (.head _)))) (.tail _ (.tail _ (.tail _ (.tail _ (.tail _ (.tail _ (.tail _ (.head _)))))))) nr ?_
                k_steps
                unfold Mine.Stop
                rename Fr _ _ _ _ => F9
                rename News _ _ _ _ => N9
                refine' Mine.grow_end () F9 N9 (fun _ h => nomatch h) (fun z hz => by repeat (first | exact hz | refine List.Mem.tail _ ?_)) (fun _ _ _ hb => nomatch hb) trivial (fun _ h => nomatch h) Mine.same_x trivial
              case doneO =>
                rintro _ u4 h15 tk15 _ _ _ Ft4 Nt4
                (try dsimp only at Ft4)
                obtain ⟨L5, hL5, N21⟩ : ∃ L5 : List (Addr × Obj), (∀ z ∈ g.cells w.params ++ L4, z ∈ L5) ∧ News _ _ h15 ((R, listOf (c.1.map fun e => Value.ref e.x).toArray c.2.1) :: L5) := ⟨g.cells w.params ++ L4, fun _ h => h, Mine.news_sub Nt4 (List.forall_mem_cons.mpr ⟨show _ ∈ [] ++ (g.cells w.params ++ L4) from List.mem_append_right [] (List.mem_append_right (g.cells w.params) (hL4 _ (List.mem_append_left _ (.head _)))), fun z hz => hz⟩)⟩
                clear Nt4
                (try k_fold)
                k_steps
                unfold Mine.Stop
                rename Fr _ _ _ _ => F22
                rename News _ _ _ _ => N22
                refine Mine.append_map (val := fun e : Rc => Value.ref e.x) (xs := c.1) (a := g) F22 N22 (.head _) (by have := hP.cnt; omega) ?_
                intro h16 F23 N23
                have hMR : M ≠ R := hP.offm M (.head _)
                obtain ⟨L6, hL6, N24⟩ : ∃ L6 : List (Addr × Obj), (∀ z ∈ g.cells w.params ++ L4, z.1 ≠ R → z ∈ L6) ∧ News _ _ h16 ((M, listOf (c.2.2.md.map fun m => Value.ref m.t).toArray c.2.2.nM) :: (R, listOf ((c.1 ++ [g]).map fun e => Value.ref e.x).toArray (c.2.1 + 1)) :: L6) :=
                  ⟨_, fun z hz hn => Mine.offL_mem (.tail _ (hL5 z hz)) hn, Mine.news_sub N23 (List.forall_mem_cons.mpr ⟨.tail _ (Mine.offL_mem (.tail _ (hL5 _ (List.mem_append_right _ (hin _ (.head _))))) hMR), fun _ h => h⟩)⟩
                clear N22 N23
                (try k_fold)
                k_steps
                unfold Mine.Stop
                rename Fr _ _ _ _ => F25
                rename News _ _ _ _ => N25
                rename_i t ht5 ltT
                obtain ⟨lt1, lt2, lt3⟩ := ltT
                have lt3 := Mine.allLt_mem lt3
                have htn : ∀ z ∈ L4, z.1 ≠ t := fun z hz => by
                  by_cases he : z.1 = R
                  · rw [he]; exact Nat.ne_of_lt lt2
                  · exact Nat.ne_of_lt (lt3 z (hL6 z (List.mem_append_right _ hz) he))
                refine Mine.append_map (val := fun m : Mine.Md8 => Value.ref m.t) (xs := c.2.2.md) (a := ⟨t, g, due⟩) F25 N25 (.tail _ (.head _)) (by have := hP.good.few; have := hlim.hi; omega) ?_
                intro h17 F26 N26
                obtain ⟨hst1, hst2⟩ := Mine.cut_step (t := t) (q := w.params) hP hgd hdd hsm3 hL4 hsepG htn hoff3
                have hgM : ∀ z ∈ g.cells w.params, z.1 ≠ M ∧ z.1 ≠ R := fun z hz => ⟨Ne.symm (hsepG _ (hin _ (.head _)) z hz), Ne.symm (hsepG _ (hL4 _ (List.mem_append_left _ (.head _))) z hz)⟩
                obtain ⟨hcn1, hcn2⟩ := Mine.cut_news (t := t) (q := w.params) hP hoff3 (.tail _ (Mine.offL_mem (.tail _ (.tail _ (.head _))) (Ne.symm hMR))) (.head _) (.tail _ (Mine.offL_mem (.head _) (Ne.symm (Nat.ne_of_lt lt1)))) (fun z hz => .tail _ (Mine.offL_mem (.tail _ (.tail _ (.tail _ (hL6 z (List.mem_append_left _ hz) (hgM z hz).2)))) (hgM z hz).1)) (fun z hz hM hR => .tail _ (Mine.offL_mem (.tail _ (.tail _ (.tail _ (hL6 z (List.mem_append_right _ (hL4 z hz)) hR)))) hM))
                k_steps
                unfold Mine.Stop
                rename Fr _ _ _ _ => F9
                rename News _ _ _ _ => N9
                refine' Mine.grow_end (Mine.cutN c w.params g t due) F9 N9 hcn1 hcn2 hst2 trivial (fun _ h => nomatch h) ?hr hst1
                case hr =>
                  intro z1 h1 _ h3
                  simp only [List.contains_cons, List.contains_nil, Bool.or_false, Bool.or_eq_false_iff, beq_eq_false_iff_ne, ne_eq] at h3
                  obtain ⟨s1, s2, s3, s4⟩ := h3
                  simp only [kstB, List.contains_cons, List.contains_nil, Bool.or_false, Bool.or_eq_true, beq_iff_eq, h1, s1, s2, s3, s4, or_self, if_false, Bool.false_eq_true]
            case doneC =>
              intro c u3 h12 tk12 _ hP hoff3 Ft3 Nt3
              (try dsimp only at Ft3 Nt3 hP hoff3)
              have hsz : j + (i + 1) < es.length := by omega
              obtain ⟨r, ra1, ra2, ra3, st', hg', hoff', hmem⟩ := Mine.row_end (c := c) (st := c.2.2) (len' := Mine.ln es.length (i + 1) (j + 1)) hP (Nat.succ_pos i) (by have := hlim.hi; omega) (by omega) (Mine.ln_at hsz) (Mine.ln_up hsz) (fun i' h => Mine.ln_same h) hoff3
              have ra2 : (r.a, listOf (r.cs.map fun c => Value.ref c.a).toArray r.n) ∈ Mine.led8S M c.2.2 := ra2
              obtain ⟨L7, hL7, N21⟩ : ∃ L7 : List (Addr × Obj), (∀ z ∈ Mine.ledC M R c ++ own2, z ∈ L7) ∧ News _ _ h12 ((r.a, listOf (r.cs.map fun c => Value.ref c.a).toArray r.n) :: L7) := ⟨_, fun _ h => h, Mine.news_sub Nt3 (List.forall_mem_cons.mpr ⟨List.mem_append_left _ (.tail _ ra2), fun _ h => h⟩)⟩
              clear Nt3
              have kT7 : (Tt, listOf (ra.map Value.ref).toArray nT) ∈ L7 := hL7 _ (List.mem_append_left _ (.tail _ (hP.good.tl _ (hP.good.keep _ (List.mem_append_right _ kT)))))
              (try k_fold)
              k_steps
              unfold Mine.Stop
              rename News _ _ _ _ => N22
              refine Mine.sub_at (val := Value.ref) (i := j) N22 (.tail _ kT7) (by omega) ra1 (by omega) ?_
              k_steps
              unfold Mine.Stop
              rename Fr _ _ _ _ => F23
              rename News _ _ _ _ => N23
              refine Mine.append_map (val := fun c : Mine.Cel => Value.ref c.a) (xs := r.cs) (a := ⟨R, c.2.1, c.1⟩) F23 N23 (.head _) (by rw [ra3]; have := hlim.hi; omega) ?_
              intro h13 F24 N24
              have hsub : ∀ z ∈ Mine.led8S M st' ++ own2, z ∈ (r.a, listOf ((r.cs ++ [(⟨R, c.2.1, c.1⟩ : Mine.Cel)]).map fun c => Value.ref c.a).toArray (r.n + 1)) :: Mine.offL r.a ((r.a, listOf (r.cs.map fun c => Value.ref c.a).toArray r.n) :: L7) := fun z hz => by
                rcases hmem z hz with rfl | ⟨h1, h2⟩
                · exact .head _
                · exact .tail _ (Mine.offL_mem (.tail _ (hL7 z h1)) h2)
              k_steps
              unfold Mine.Stop
              rename Fr _ _ _ _ => F9
              rename News _ _ _ _ => N9
              refine' Mine.grow_end st' F9 N9 (fun z hz => hsub z (List.mem_append_left _ hz)) (fun z hz => hsub z (List.mem_append_right _ hz)) hoff' trivial (fun _ h => nomatch h) ?hr (hg'.weak (fun _ h => h) (by have := hlim.hi; omega))
              case hr =>
                intro z1 h1 _ h3
                simp only [List.contains_cons, List.contains_nil, Bool.or_false, Bool.or_eq_false_iff, beq_eq_false_iff_ne, ne_eq] at h3
                obtain ⟨s1, s2, s3, s4, s5, s6, s7⟩ := h3
                simp only [kstB, List.contains_cons, List.contains_nil, Bool.or_false, Bool.or_eq_true, beq_iff_eq, h1, s1, s2, s3, s4, s5, s6, s7, or_self, if_false, Bool.false_eq_true]
          case doneT =>
            intro st2 u2 h9 tk9 _ hg2 hoff2 Ft2 Nt2
            (try dsimp only at Ft2 Nt2 hg2 hoff2)
            have hg3 := (hg2.relen (len' := Mine.ln es.length (i + 1 + 1) 0) fun k hk => by rw [hra] at hk; rw [show es.length - 1 - i = es.length - (i + 1) by omega]; exact Mine.ln_next hk).weak (b' := 25 * (i + 1)) (fun _ h => h) (by have := hlim.hi; omega)
            k_steps
            unfold Mine.Stop
            rename Fr _ _ _ _ => F9
            rename News _ _ _ _ => N9
            refine' Mine.grow_end st2 F9 N9 (fun z hz => List.mem_append_left _ hz) (fun z hz => List.mem_append_right _ hz) hoff2 trivial (fun _ h => nomatch h) ?hr hg3
            case hr =>
              intro z1 h1 _ h3
              simp only [List.contains_cons, List.contains_nil, Bool.or_false, Bool.or_eq_false_iff, beq_eq_false_iff_ne, ne_eq] at h3
              obtain ⟨s1, s2, s3, s4, s5, s6, s7, s8⟩ := h3
              simp only [kstB, List.contains_cons, List.contains_nil, Bool.or_false, Bool.or_eq_true, beq_iff_eq, h1, s1, s2, s3, s4, s5, s6, s7, s8, or_self, if_false]
        case doneS =>
          intro st u h8 tk8 _ hg _ Ft Nt
          (try dsimp only at Ft Nt hg)
          obtain ⟨L8, hL8, N8⟩ : ∃ L8 : List (Addr × Obj), (∀ z ∈ Mine.led8S M st, z ∈ L8) ∧ News _ _ h8 L8 := ⟨_, fun z hz => List.mem_append_left _ hz, Nt⟩
          clear Nt
          have kM8 : (M, listOf (st.md.map fun m => Value.ref m.t).toArray st.nM) ∈ L8 := hL8 _ (.head _)
          have hTl : ∀ z ∈ st.Tl, z ∈ L8 := fun z hz => hL8 z (hg.tl z hz)
          have hK8 : ∀ z ∈ K0, z ∈ L8 := fun z hz => hTl z (hg.keep z hz)
          (try k_fold)
          k_steps
          unfold Mine.Stop
          rename Fr _ _ _ _ => F9
          refine For_turns F9 ?_
          k_steps
          unfold Mine.Stop
          rename Fr _ _ _ _ => F9
          rename News _ _ _ _ => N9
          with_unfolding_all refine' Mine.keep_itemsT (fun m : Mine.Md8 => Value.ref m.t) (xs := st.md) (l := M) (c := st.nM) (Str.ofString "one") L8 (fun _ : Unit => []) (fun _ => []) (fun _ => True) [Str.ofString "due"] (fun _ _ => True) () (by rfl) kM8 (fun _ h => h) (fun _ h => nomatch h) (fun _ _ _ hb => nomatch hb) F9 N9 trivial (fun _ h => nomatch h) trivial ?turnM ?doneM
          case turnM =>
            rintro _ pre post md u9 h9 tk9 own e hKo _ _ _ Ft Nt
            (try dsimp only at Ft)
            have hmd := hg.md md (by rw [e]; simp)
            have N19 := Mine.news_sub (news' := (md.t, Mine.tupO md.e.x md.k.b) :: own) Nt (List.forall_mem_cons.mpr ⟨hKo _ (hTl _ hmd.cell), fun _ h => h⟩)
            clear Nt
            (try k_fold)
            k_steps
            unfold Mine.Stop
            k_dflt (refine' parts_call md.e hmd.sm ?k1 ?k2 ?k3 ?k4 ?k5 ?kK ?kd ?ku ?kc ?_; (case k1 => k_asm); (case k2 => k_asm); (case k3 => k_asm); (case k4 => k_asm); (case k5 => k_asm); (case kK => exact rfl); (case kd => ktr_room); (case ku => ktr_units); (case kc => exact fun z hz => .tail _ (hKo z (hTl z (hmd.e z hz)))); k_whole)
            intro pk h14 tk14 hpd F14 N15 hsepP hpne
            k_steps
            unfold Mine.Stop
            have hdueL : ∀ z ∈ md.k.cells, z ∈ (md.t, Mine.tupO md.e.x md.k.b) :: own := fun z hz => .tail _ (hKo z (hTl z (hmd.k z hz)))
            rename News _ _ _ _ => N16
            refine Mine.ne_bk (k1 := pk) (k2 := md.k) N16 (fun z hz => List.mem_append_left _ hz) (fun z hz => List.mem_append_right _ (hdueL z hz)) (hpd.trans hmd.dt) (Ne.symm (hsepP _ (hdueL _ (.tail _ (.head _))) _ (.tail _ (.head _)))) (Ne.symm (hsepP _ (hdueL _ (.tail _ (.tail _ (.head _)))) _ (.tail _ (.tail _ (.head _))))) (by ke_room) (by ke_room) ?_
            k_steps
            unfold Mine.Stop
            rename Fr _ _ _ _ => F17
            rename News _ _ _ _ => N17
            refine' Mine.grow_end () F17 N17 (fun _ h => nomatch h) (fun z hz => List.mem_append_right _ (.tail _ hz)) (fun _ _ _ hb => nomatch hb) trivial (fun _ h => nomatch h) ?hr trivial
            case hr =>
              intro z1 h1 _ h3
              simp only [List.contains_cons, List.contains_nil, Bool.or_false, beq_eq_false_iff_ne, ne_eq] at h3
              simp only [kstB, List.contains_cons, List.contains_nil, Bool.or_false, beq_iff_eq, h1, h3, if_false]
          case doneM =>
            rintro _ u9 h9 tk9 _ _ _ Ft Nt
            (try dsimp only at Ft)
            obtain ⟨e0, he0⟩ : ∃ e0, es[0]? = some e0 := ⟨es[0]'(by have := hlim.lo; omega), List.getElem?_eq_getElem _⟩
            obtain ⟨k0, hk0⟩ : ∃ k0, bs[0]? = some k0 := ⟨bs[0]'(by have := hlim.lo; omega), List.getElem?_eq_getElem _⟩
            have hed : k0.dt = e0.dt := by
              have h3 : (bs.map Mine.Bk.dt)[0]? = (es.map Rc.dt)[0]? := by rw [hbd]
              rw [List.getElem?_map, List.getElem?_map, he0, hk0] at h3
              exact Option.some.inj h3
            have he0m := List.mem_of_getElem? he0
            have hk0m := List.mem_of_getElem? hk0
            have hs0 := hes e0 he0m
            have hmd := Mine.merge_due (a := [e0.dt]) (b := [e0.dt]) (by simp) (by simp)
            rw [Mine.due_one] at hmd
            have hs2 : (Mine.dueT ([e0.dt] ++ [e0.dt])).Sm 315 := Mine.due_small (fun k hk => by simp at hk; rw [hk]; exact hs0) (by show 2 ≤ 5; decide)
            obtain ⟨L9, hL9, N9⟩ : ∃ L9 : List (Addr × Obj), (∀ z ∈ L8, z ∈ L9) ∧ News _ _ h9 L9 := ⟨_, fun z hz => List.mem_append_right _ hz, Nt⟩
            clear Nt
            have hK9 : ∀ z ∈ K0, z ∈ L9 := fun z hz => hL9 z (hK8 z hz)
            (try k_fold)
            k_steps
            unfold Mine.Stop
            rename News _ _ _ _ => N10
            refine Mine.sub_at (val := fun e : Rc => Value.ref e.x) (i := 0) N10 (hK9 _ kO) (by omega) he0 (by omega) ?_
            k_steps
            unfold Mine.Stop
            rename News _ _ _ _ => N10
            refine Mine.sub_at (val := fun e : Rc => Value.ref e.x) (i := 0) N10 (hK9 _ kO) (by omega) he0 (by omega) ?_
            k_steps
            unfold Mine.Stop
            k_dflt (refine' merge_call e0 e0 (Mine.sm_up hs0) (Mine.sm_up hs0) ?k1 ?k2 ?k3 ?k4 ?k5 ?kK ?kd ?ku ?kc1 ?kc2 ?_; (case k1 => k_asm); (case k2 => k_asm); (case k3 => k_asm); (case k4 => k_asm); (case k5 => k_asm); (case kK => exact rfl); (case kd => ktr_room); (case ku => ktr_units); (case kc1 => exact fun z hz => hK9 z (kE e0 he0m z hz)); (case kc2 => exact fun z hz => hK9 z (kE e0 he0m z hz)); k_whole)
            intro g h13 tk13 hgd F13 N14 hsepG hgne
            rw [hmd] at hgd
            have N17 := Mine.news_sub (news' := (g.x, instObj 59 g.d) :: (g.d, Mine.entD w.params g.t1 g.t2 g.t3 g.t4 g.u g.r g.dl g.rt) :: (g.u, listOf (strValues g.ag).toArray g.nu) :: (g.r, listOf (Mine.intValues g.rl).toArray g.nr) :: L9) N14 (fun z hz => hz)
            clear N14
            unfold Mine.entD at N17
            k_steps
            unfold Mine.Stop
            k_dflt (refine' parts_call g (by rw [hgd]; exact hs2) ?k1 ?k2 ?k3 ?k4 ?k5 ?kK ?kd ?ku ?kc ?_; (case k1 => k_asm); (case k2 => k_asm); (case k3 => k_asm); (case k4 => k_asm); (case k5 => k_asm); (case kK => exact rfl); (case kd => ktr_room); (case ku => ktr_units); (case kc => exact fun z hz => List.mem_append_left L9 hz); k_whole)
            intro pk h14 tk14 hpd F14 N15 hsepP hpne
            obtain ⟨L10, hL10, hsep10, N18⟩ : ∃ L10 : List (Addr × Obj), ((∀ z ∈ L9, z ∈ L10) ∧ ∀ z ∈ pk.cells, z ∈ L10) ∧ (∀ y ∈ L9, ∀ z ∈ pk.cells, y.1 ≠ z.1) ∧ News _ _ h14 L10 := ⟨_, ⟨fun z hz => List.mem_append_right _ (.tail _ (.tail _ (.tail _ (.tail _ hz)))), fun z hz => List.mem_append_left _ hz⟩, fun y hy z hz => hsepP y (.tail _ (.tail _ (.tail _ (.tail _ hy)))) z hz, N15⟩
            clear N15
            have kB10 := hL10.1 _ (hK9 _ kB)
            k_steps
            unfold Mine.Stop
            rename News _ _ _ _ => N10
            refine Mine.sub_at (val := fun k : Mine.Bk => Value.ref k.b) (i := 0) N10 kB10 (by omega) hk0 (by omega) ?_
            k_steps
            unfold Mine.Stop
            rename News _ _ _ _ => N10
            refine Mine.sub_at (val := fun k : Mine.Bk => Value.ref k.b) (i := 0) N10 kB10 (by omega) hk0 (by omega) ?_
            k_steps
            unfold Mine.Stop
            rename_i Ld hLd FLd NLd ltLd
            k_dflt (refine' due_call Ld 0 [k0, k0] ?ne ?ll ?sm ?k1 ?k2 ?k3 ?k4 ?k5 ?kK ?kd ?ku ?kc1 ?kc2 ?_; (case ne => exact List.cons_ne_nil _ _); (case ll => (show 2 ≤ 5; decide)); (case sm => (intro k hk; have hk : k = k0 := (by simpa using hk); rw [hk, hed]; exact hs0)); (case k1 => k_asm); (case k2 => k_asm); (case k3 => k_asm); (case k4 => k_asm); (case k5 => k_asm); (case kK => exact rfl); (case kd => ktr_room); (case ku => ktr_units); (case kc1 => exact .head _); (case kc2 => (intro k hk z hz; have hk : k = k0 := (by simpa using hk); rw [hk] at hz; exact .tail _ (hL10.1 z (hK9 z (kK k0 hk0m z hz))))); k_whole)
            intro due h15 tk15 hdd F15 N20 hsepD hdne
            have hpd2 : pk.dt = due.dt := by
              rw [hpd, hgd, hdd]
              show Mine.dueT [e0.dt, e0.dt] = Mine.dueT [k0.dt, k0.dt]
              rw [hed]
            k_steps
            unfold Mine.Stop
            rename News _ _ _ _ => N21
            refine Mine.ne_bk (k1 := pk) (k2 := due) N21 (fun z hz => List.mem_append_right _ (.tail _ (hL10.2 z hz))) (fun z hz => List.mem_append_left _ hz) hpd2 (hsepD _ (.tail _ (hL10.2 _ (.tail _ (.head _)))) _ (.tail _ (.head _))) (hsepD _ (.tail _ (hL10.2 _ (.tail _ (.tail _ (.head _))))) _ (.tail _ (.tail _ (.head _)))) (by ke_room) (by ke_room) ?_
            obtain ⟨L11, hL11, N22⟩ : ∃ L11 : List (Addr × Obj), (∀ z ∈ L9, z ∈ L11) ∧ News _ _ h15 L11 := ⟨_, fun z hz => List.mem_append_right _ (.tail _ (hL10.1 z hz)), N21⟩
            clear N21
            k_steps
            unfold Mine.Stop
            rename Fr _ _ _ _ => F23
            rename News _ _ _ _ => N23
            refine LCg.CompSrc.ledger (by rfl) F23 N23 (hL11 _ (hK9 _ kO)) (by rw [List.size_toArray, List.length_map]; simp only [sizeLine]; omega) ?_
            intro g9
            refine Mine.map_inv (fun e : Rc => Value.ref e.x) es (fun i ys news => ∃ ps : List Bk, ys = ps.map (fun k => Value.ref k.b) ∧ ps.map Bk.dt = (es.take i).map Rc.dt ∧ (∀ z ∈ L9, z ∈ news) ∧ (∀ k ∈ ps, ∀ z ∈ k.cells, z ∈ news) ∧ ∀ k ∈ ps, ∀ z ∈ k.cells, ∀ y ∈ L9, y.1 ≠ z.1) ⟨[], rfl, by rw [List.take_zero]; rfl, hL11, (fun _ h => nomatch h), fun _ h => nomatch h⟩ ?tu3 ?fi3
            case tu3 =>
              rintro i a I oI C oC D m2 ys news h1 tk2 E1 ha ⟨ps, rfl, hbd3, hN3, hps, hsep3⟩ hC1 hx1 F' N' off' ne'
              have off0 := off'
              have hae := List.mem_of_getElem? ha
              (try k_fold)
              k_steps
              unfold Mine.Stop
              k_dflt (refine' parts_call a (Mine.sm_up (hes a hae)) ?k1 ?k2 ?k3 ?k4 ?k5 ?kK ?kd ?ku ?kc ?_; (case k1 => k_asm); (case k2 => k_asm); (case k3 => k_asm); (case k4 => k_asm); (case k5 => k_asm); (case kK => exact rfl); (case kd => ktr_room); (case ku => ktr_units); (case kc => exact fun z hz => .tail _ (.tail _ (.tail _ (hN3 z (hK9 z (kE a hae z hz)))))); k_whole)
              intro k h' tk' hkd F' N' hsep hkne
              k_steps
              unfold Mine.Stop
              rename Fr _ _ _ _ => F6
              rename News _ _ _ _ => N6
              refine Mine.comp_end F6 N6 off0 (fun z hz => ⟨hsep _ (.head _) z hz, hsep _ (.tail _ (.head _)) z hz, hsep _ (.tail _ (.tail _ (.head _))) z hz⟩) (.inr ⟨_, List.mem_append_right _ (hN3 _ (hK9 _ kO)), rfl, _, rfl⟩) ⟨ps ++ [k], by rw [List.map_append]; rfl, ?_, fun z hz => List.mem_append_right _ (hN3 z hz), fun k' hk' z hz => ?_, fun k' hk' z hz y hy => ?_⟩
              · rw [List.map_append, hbd3, List.take_add_one, ha, List.map_append]
                show _ ++ [k.dt] = _ ++ [a.dt]
                rw [hkd]
              · rcases List.mem_append.mp hk' with hk' | hk'
                · exact List.mem_append_right _ (hps k' hk' z hz)
                · rw [List.mem_singleton.mp hk'] at hz; exact List.mem_append_left _ hz
              · rcases List.mem_append.mp hk' with hk' | hk'
                · exact hsep3 k' hk' z hz y hy
                · rw [List.mem_singleton.mp hk'] at hz; exact hsep y (.tail _ (.tail _ (.tail _ (hN3 y hy)))) z hz
            case fi3 =>
              rintro ys news ⟨ps, rfl, hbd3, hN3, hps, hsep3⟩
              rw [List.take_length] at hbd3
              intro P h16 tk16 F' N' off5
              change News _ _ h16 ((P, listOf (ps.map fun k => Value.ref k.b).toArray _) :: _) at N'
              generalize List.length _ = nP at N'
              (try k_fold)
              k_steps
              unfold Mine.Stop
              rename News _ _ _ _ => N24
              refine Mine.eq_bks (xs := ps) (ys := bs) N24 (.head _) (.tail _ (hN3 _ (hK9 _ kB))) (fun k hk z hz => .tail _ (hps k hk z hz)) (fun k hk z hz => .tail _ (hN3 z (hK9 z (kK k hk z hz)))) (hbd3.trans hbd.symm) (fun k hk k' hk' => ?_) (by ke_room) (by ke_room) (by ke_room) ?_
              · have key : ∀ z ∈ k.cells, ∀ y ∈ k'.cells, z.1 ≠ y.1 := fun z hz y hy => Ne.symm (hsep3 k hk z hz y (hK9 y (kK k' hk' y hy)))
                exact ⟨key _ (.head _) _ (.head _), key _ (.tail _ (.head _)) _ (.tail _ (.head _)), key _ (.tail _ (.tail _ (.head _))) _ (.tail _ (.tail _ (.head _)))⟩
              · k_steps
end Mine
open Mine

theorem PySem.Challenge.cw_kn0090_08_holds : PySem.Challenge.rw_kn0090_08.Holds := by
  exact law08
end

