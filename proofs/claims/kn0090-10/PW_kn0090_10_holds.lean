import PyProof.Rows.All
import Wide.All
import OpenK.AllK
import Wide.FinOn
import PySem.Challenge.RW_kn0090_10
open PySem PySem.W PyProof.Rows PySem.Spec
set_option Elab.async false
set_option maxRecDepth 100000

section
namespace Mine

def Grow (h h' : Heap) : Prop := ∀ b o, h.get? b = some o → h'.get? b = some o
theorem Grow.refl (h : Heap) : Grow h h := fun _ _ e => e
theorem Grow.trans {a b c : Heap} (x : Grow a b) (y : Grow b c) : Grow a c := fun i o e => y i o (x i o e)

section
variable {prog : Program} {w : World} {A : Around} {E : Value → Shared → Prop} {s : Shared}

/-- the table f tells of each sign's number -/
def Tells1 (f : Int → Option Value) (P : Nat → Option Str) : Prop :=
  ∀ c : Nat, match P c with | some x => ∃ u, f (c : Int) = some (.str x u) | none => f (c : Int) = none

theorem lookup_spec {d : Addr} {f : Int → Option Value} {P : Nat → Option Str} (hf : Tells1 f P) (c : Nat) {Q : Builtin.Str.Mapped → Shared → Prop}
    (hh : A.handled = none) (hd : (d == sysModules) = false) (hm : s.heap.MapOf (intKind prog w) d f)
    (hQ : ∀ h' tk', Grow s.heap h' → Q (match P c with | some x => .text x | none => .keep) { s with heap := h', toks := tk' }) :
    wpAny (model prog w) A (Builtin.Str.tableLookup (.ref d) c) Q E s := by
  unfold Builtin.Str.tableLookup
  have hc := hf c
  refine wpAny_bind (wpAny_attempt ?_)
  refine wpAny_bind (wpAny_mkInt ?_)
  cases hp : P c with
  | some x =>
    rw [hp] at hc hQ
    obtain ⟨u, hu⟩ := hc
    refine wpAny_getItem_of (intKind_is prog w c s.toks) (s := { s with toks := s.toks + 1 }) hm hu ?_
    dsimp only
    refine wpAny_bind (m := asInt? (.str x u)) (wpAny_pure ?_)
    dsimp only
    refine wpAny_bind (m := asStr? (.str x u)) (wpAny_pure ?_)
    dsimp only
    exact wpAny_pure (hQ _ _ (Grow.refl _))
  | none =>
    rw [hp] at hc hQ
    refine wpAny_getItem_missing_of (intKind_is prog w c s.toks) (s := { s with toks := s.toks + 1 }) hd hh hm hc ?_
    intro h' e hx
    dsimp only
    refine wpAny_bind (wpAny_isInstance (T := "KeyError") (b := true) ?_ (by rw [isSubtype_type]; kernel_rfl) ?_)
    · obtain ⟨ob, t, h1, h2, _⟩ := hx.there
      exact ⟨ob, h1, h2⟩
    · rw [if_pos rfl]
      refine wpAny_bind (wpAny_rule (wpAny_pure (hQ _ _ hx.1)))
end

/-- what a sign becomes -/
def trC (P : Nat → Option Str) (c : Nat) : List Nat := match P c with | some x => x.cps.toList | none => [c]
theorem trC_len {P : Nat → Option Str} (hb : ∀ c x, P c = some x → x.length ≤ 2) (c : Nat) : (trC P c).length ≤ 2 := by
  unfold trC
  cases h : P c with
  | none => simp
  | some x => have := hb c x h; simpa [Str.length] using this
theorem tr_len {P : Nat → Option Str} (hb : ∀ c x, P c = some x → x.length ≤ 2) : ∀ l : List Nat, (l.flatMap (trC P)).length ≤ 2 * l.length
  | [] => by simp
  | c :: r => by
    have h1 := trC_len hb c
    have h2 := tr_len hb r
    simp only [List.flatMap_cons, List.length_append, List.length_cons]
    omega
def trS (P : Nat → Option Str) (x : Str) : Str := ⟨(x.cps.toList.flatMap (trC P)).toArray⟩

structure TrInv (P : Nat → Option Str) (all rest : List Nat) (b : List Str × Nat × Bool × List (Nat × Option Nat) × Bool) : Prop where
  d : ∃ done, all = done ++ rest ∧ b.1.reverse.flatMap (fun p => p.cps.toList) = done.flatMap (trC P) ∧ b.2.1 = (done.flatMap (trC P)).length
  known : ∀ c a, b.2.2.2.1.lookup c = some a → ∃ d, a = some d ∧ trC P c = [d]
  drop : b.2.2.2.2 = false

theorem TrInv.step {P : Nat → Option Str} {all rest : List Nat} {c : Nat} {pieces : List Str} {total : Nat} {fast fast' : Bool} {known known' : List (Nat × Option Nat)} {ad : Bool} (I : TrInv P all (c :: rest) (pieces, total, fast, known, ad))
    (x : Str) (hx : x.cps.toList = trC P c) (n : Nat) (hn : n = x.length) (hk : ∀ c a, known'.lookup c = some a → ∃ d, a = some d ∧ trC P c = [d]) : TrInv P all rest (x :: pieces, total + n, fast', known', false) := by
  obtain ⟨⟨done, h1, h2, h3⟩, _, _⟩ := I
  refine ⟨⟨done ++ [c], by simp [h1], ?_, ?_⟩, hk, rfl⟩
  · simp only [List.reverse_cons, List.flatMap_append, List.flatMap_cons, List.flatMap_nil, List.append_nil] at h2 ⊢
    rw [h2, hx]
  · simp only [List.flatMap_append, List.flatMap_cons, List.flatMap_nil, List.append_nil, List.length_append] at h3 ⊢
    rw [h3, ← hx, hn]; simp [Str.length]

section
variable {prog : Program} {w : World} {A : Around} {E : Value → Shared → Prop} {s : Shared}
theorem translate_spec {d : Addr} {f : Int → Option Value} {P : Nat → Option Str} (hf : Tells1 f P) (hb : ∀ c x, P c = some x → x.length ≤ 2) (x : Str) (t : Tok) (hsz : 2 * x.length ≤ sizeLine) {Q : Value → Shared → Prop}
    (hh : A.handled = none) (hd : (d == sysModules) = false) (hm : s.heap.MapOf (intKind prog w) d f)
    (hQ : ∀ h' tk' t', Grow s.heap h' → Q (.str (trS P x) t') { s with heap := h', toks := tk' }) :
    wpAny (model prog w) A (call (.builtin "str.translate") [.str x t, .ref d]) Q E s := by
  refine wpAny_call (codeAny_call_builtin F.slot_str_translate.plain F.entry_str_translate (F.slot_str_translate.check _ _ _ _ _ _ _ _ (typeIs_str s x t) (F.args_str_translate_2 _ _) ?_))
  unfold Builtin.«str.translate»
  refine wpAny_bind (m := Builtin.Str.strOneArg "translate" _) (wpAny_pure ?_)
  dsimp only
  by_cases hz : (x.length == 0) = true
  · rw [if_pos hz]
    refine wpAny_bind (wpAny_rule ?_)
    refine wpAny_bind (m := Builtin.Str.strUnchanged _ _) (wpAny_pure (wpAny_pure ?_))
    have hx0 : x.cps = #[] := by
      have : x.cps.size = 0 := by simpa [Str.length] using hz
      exact Array.eq_empty_of_size_eq_zero this
    have e : trS P x = x := by
      obtain ⟨c⟩ := x; simp only at hx0; subst hx0; rfl
    have := hQ s.heap s.toks t (Grow.refl _)
    rw [e] at this
    exact this
  · rw [if_neg hz]
    have hle : ∀ done rest : List Nat, x.cps.toList = done ++ rest → (done.flatMap (trC P)).length ≤ sizeLine := by
      intro done rest h
      have h1 := tr_len hb done
      have h2 : x.length = done.length + rest.length := by
        have := congrArg List.length h
        simpa [Str.length] using this
      omega
    have hlong : ∀ n, n ≤ sizeLine → ¬ Builtin.Str.tooLong n = true := by
      intro n hn; simp only [Builtin.Str.tooLong, decide_eq_true_eq]; omega
    refine wpAny_bind ?_
    refine MeetsSeq2.wpAny_forIn_array _ (fun rest b s' => TrInv P x.cps.toList rest b ∧ ∃ h' tk', s' = { s with heap := h', toks := tk' } ∧ Grow s.heap h') _ ?_ ?_ _ _ ?_
    · rintro c rest ⟨pieces, total, fast, known, ad⟩ s' ⟨I, h', tk', rfl, hg⟩
      dsimp only
      have hadf : ad = false := I.drop
      subst hadf
      obtain ⟨done, hd1, hd2, hd3⟩ := I.d
      dsimp only at hd2 hd3
      rw [if_neg (hlong total (by rw [hd3]; exact hle done _ hd1))]
      have slow : ∀ (fast' : Bool) (h₁ : Heap) (tk₁ : Nat), Grow s.heap h₁ → wpAny (model prog w) A.in1 (do
                  let __do_lift ← Builtin.Str.tableLookup (Value.ref d) c
                  match __do_lift with
                    | Builtin.Str.Mapped.keep =>
                      pure (ForInStep.yield (({ cps := #[c] } : Str) :: pieces, total + 1, fast', known, false))
                    | Builtin.Str.Mapped.drop => pure (ForInStep.yield (pieces, total, fast', known, true))
                    | Builtin.Str.Mapped.char d =>
                      pure (ForInStep.yield ({ cps := #[d] } :: pieces, total + 1, fast', known, false))
                    | Builtin.Str.Mapped.text t =>
                      pure (ForInStep.yield (t :: pieces, total + t.length, fast', known, false)))
            (fun r s' => match r with
              | .yield b' => TrInv P x.cps.toList rest b' ∧ ∃ h' tk', s' = { s with heap := h', toks := tk' } ∧ Grow s.heap h'
              | .done b' => False) (fun e s' => E e s') { s with heap := h₁, toks := tk₁ } := by
        intro fast' h₁ tk₁ hg₁
        have hm₁ : h₁.MapOf (intKind prog w) d f := let ⟨o, es, ep, ho, r⟩ := hm; ⟨o, es, ep, hg₁ _ _ ho, r⟩
        refine wpAny_bind (lookup_spec (s := { s with heap := h₁, toks := tk₁ }) hf c hh hd hm₁ ?_)
        intro h₂ tk₂ hg₂
        cases hp : P c with
        | none => exact wpAny_pure ⟨I.step ⟨#[c]⟩ (by simp [trC, hp]) 1 rfl I.known, h₂, tk₂, rfl, hg₁.trans hg₂⟩
        | some y => exact wpAny_pure ⟨I.step y (by simp [trC, hp]) _ rfl I.known, h₂, tk₂, rfl, hg₁.trans hg₂⟩
      suffices hgoal : wpAny (model prog w) A.in1 _ (fun (r : ForInStep (List Str × Nat × Bool × List (Nat × Option Nat) × Bool)) s' => match r with
              | .yield b' => TrInv P x.cps.toList rest b' ∧ ∃ h' tk', s' = { s with heap := h', toks := tk' } ∧ Grow s.heap h'
              | .done b' => False) (fun e s' => E e s') { s with heap := h', toks := tk' } from
        wpAny_mono hgoal (fun r s' hr => by cases r with | yield b' => exact hr | done b' => exact hr.elim) (fun _ _ y => y)
      have hm₁ : h'.MapOf (intKind prog w) d f := let ⟨o, es, ep, ho, r⟩ := hm; ⟨o, es, ep, hg _ _ ho, r⟩
      cases fast with
      | false =>
        simp only [Bool.false_eq_true, if_false]
        exact slow _ _ _ hg
      | true =>
        simp only [if_true, Bool.false_eq_true, if_false]
        cases hkn : List.lookup c known with
        | some a =>
          obtain ⟨dd, rfl, hdd⟩ := I.known c a hkn
          dsimp only
          exact wpAny_bind (wpAny_pure (wpAny_pure ⟨I.step ⟨#[dd]⟩ (by simp [hdd]) 1 rfl I.known, h', tk', rfl, hg⟩))
        | none =>
          dsimp only
          refine wpAny_bind (lookup_spec (s := { s with heap := h', toks := tk' }) hf c hh hd hm₁ ?_)
          intro h₂ tk₂ hg₂
          have hknown : ∀ dd, trC P c = [dd] → ∀ c' a, ((c, some dd) :: known).lookup c' = some a → ∃ d, a = some d ∧ trC P c' = [d] := by
            intro dd hdd c' a hl
            rw [List.lookup_cons] at hl
            split at hl
            · rename_i he
              have : c' = c := by simpa using he
              subst this
              exact ⟨dd, (Option.some.inj hl).symm, hdd⟩
            · exact I.known c' a hl
          cases hp : P c with
          | none =>
            dsimp only
            have hc1 : trC P c = [c] := by simp [trC, hp]
            exact wpAny_bind (wpAny_pure (wpAny_pure ⟨I.step ⟨#[c]⟩ (by simp [hc1]) 1 rfl (hknown c hc1), h₂, tk₂, rfl, hg.trans hg₂⟩))
          | some y =>
            dsimp only
            by_cases hy : (y.length == 1 && y.cps.all fun x => decide (x < 128)) = true
            · rw [if_pos hy]
              have hy1 : y.cps.size = 1 := by
                have := (Bool.and_eq_true_iff.mp hy).1
                simpa [Str.length] using this
              obtain ⟨dd, hdd⟩ : ∃ dd, y.cps[0]? = some dd := ⟨y.cps[0], by simp [hy1]⟩
              have hc1 : trC P c = [dd] := by
                simp only [trC, hp]
                obtain ⟨⟨l⟩⟩ := y
                match l, hy1 with
                | [z], _ => simp at hdd; simp [hdd]
              rw [hdd]
              dsimp only
              exact wpAny_bind (wpAny_pure (wpAny_pure ⟨I.step ⟨#[dd]⟩ (by simp [hc1]) 1 rfl (hknown dd hc1), h₂, tk₂, rfl, hg.trans hg₂⟩))
            · rw [if_neg hy]
              dsimp only
              exact wpAny_bind (wpAny_pure (wpAny_bind (wpAny_rule (slow _ _ _ (hg.trans hg₂)))))
    · rintro ⟨pieces, total, fast, known, ad⟩ s' ⟨I, h', tk', rfl, hg⟩
      obtain ⟨done, hd1, hd2, hd3⟩ := I.d
      dsimp only at hd2 hd3
      dsimp only
      have hall : x.cps.toList = done := by simpa using hd1
      rw [if_neg (hlong total (by rw [hd3]; exact hle done [] hd1))]
      have hfold : ∀ (l : List Str) (acc : Array Nat), (l.foldl (fun acc p => acc ++ p.cps) acc).toList = acc.toList ++ l.flatMap (fun p => p.cps.toList) := by
        intro l
        induction l with
        | nil => simp
        | cons a r ih => intro acc; simp only [List.foldl_cons, List.flatMap_cons]; rw [ih]; simp
      have e : (⟨pieces.reverse.foldl (fun acc p => acc ++ p.cps) #[]⟩ : Str) = trS P x := by
        unfold trS
        congr 1
        apply Array.toList_inj.mp
        rw [hfold, hd2, hall]; simp
      rw [e]
      unfold retStr
      refine wpAny_bind (wpAny_mkStr (wpAny_pure (hQ _ _ _ hg)) ?_)
      show (trS P x).length ≤ sizeLine
      have := hle done [] hd1
      simpa [trS, Str.length, hall] using this
    · exact ⟨⟨⟨[], by simp, by simp, by simp⟩, fun c a h => by simp at h, rfl⟩, s.heap, s.toks, rfl, Grow.refl _⟩
end
end Mine
end

section
namespace Mine
open PySem.F

theorem slot_map_next : Slot "map" "__next__" "map.__next__" :=
  .of (owner := "map") (n := "__next__") (by rw [typeLookup_type, builtinLookup_eq_fast]; kernel_rfl) (by decide +kernel) (by decide +kernel) (by decide +kernel)
    (by first | exact .inl (by decide +kernel) | exact .inr (by decide +kernel)) (by rw [isSubtype_type]; kernel_rfl)
theorem slot_map_iter : Slot "map" "__iter__" "map.__iter__" :=
  .of (owner := "map") (n := "__iter__") (by rw [typeLookup_type, builtinLookup_eq_fast]; kernel_rfl) (by decide +kernel) (by decide +kernel) (by decide +kernel)
    (by first | exact .inl (by decide +kernel) | exact .inr (by decide +kernel)) (by rw [isSubtype_type]; kernel_rfl)
theorem slot_map_init : Slot "map" "__init__" "object.__init__" :=
  .of (owner := "object") (n := "__init__") (by rw [typeLookup_type, builtinLookup_eq_fast]; kernel_rfl) (by decide +kernel) (by decide +kernel) (by decide +kernel)
    (by first | exact .inl (by decide +kernel) | exact .inr (by decide +kernel)) (by rw [isSubtype_type]; kernel_rfl)
theorem owner_map : Manifest.owners.lookup (String.ofList ['p', 'a', 'm'].reverse) = some Manifest.sig_map := by kernel_rfl
theorem args_map_next (a : Value) : argsOk "map.__next__" ⟨[a], []⟩ := by
  unfold argsOk; rw [signature?_of (id := "map.__next__") (n := ['_', '_', 't', 'x', 'e', 'n', '_', '_']) (o := ['p', 'a', 'm']) (by kernel_rfl) owner_map]; kernel_rfl
theorem args_map_iter (a : Value) : argsOk "map.__iter__" ⟨[a], []⟩ := by
  unfold argsOk; rw [signature?_of (id := "map.__iter__") (n := ['_', '_', 'r', 'e', 't', 'i', '_', '_']) (o := ['p', 'a', 'm']) (by kernel_rfl) owner_map]; kernel_rfl
theorem entry_map_next : entryFor table "map.__next__" = some Builtin.«map.__next__» := entryFor_of_tree (by kernel_rfl)
theorem entry_map_iter : entryFor table "map.__iter__" = some Builtin.«dict_keyiterator.__iter__» :=
  entryFor_alias (id' := "dict_keyiterator.__iter__") (by kernel_rfl) (by first | rfl | decide +kernel | (unfold String.splitOn; simp +decide [String.splitOnAux])) (by decide +kernel) (by kernel_rfl)
theorem mro_map : mroOf (.type "map") = pure [.type "map", .type "object"] := by rw [mroOf_type]; kernel_rfl
theorem lookup_map_new : typeLookup (.type "map") "__new__" = pure (some (.builtin "map.__new__")) := by rw [typeLookup_type, builtinLookup_eq_fast]; kernel_rfl
theorem called_map : TypeCalled "map" "map.__new__" "object.__init__" :=
  ⟨by decide +kernel, by decide +kernel, ⟨_, _, mro_map⟩, madeBy_type mro_map lookup_map_new (by decide +kernel), by decide +kernel, by rw [isSubtype_type]; kernel_rfl, slot_map_init⟩
theorem typeCall_map_2 (a b : Value) : checkTypeCall "map" ⟨[a, b], []⟩ = pure () := by kernel_rfl
theorem newCall_map_2 (a b : Value) : checkBuiltinCall "map.__new__" ⟨[.type "map", a, b], []⟩ = pure () := by kernel_rfl
theorem entry_map_new : entryFor table "map.__new__" = some Builtin.«map.__new__» := entryFor_of_tree (by kernel_rfl)
theorem sub_map : isSubtype (.type "map") (.type "map") = pure true := by rw [isSubtype_type]; kernel_rfl
theorem map_no_len : typeLookup (.type "map") "__len__" = pure none := by rw [typeLookup_type, builtinLookup_eq_fast]; kernel_rfl
theorem map_no_hint : typeLookup (.type "map") "__length_hint__" = pure none := by rw [typeLookup_type, builtinLookup_eq_fast]; kernel_rfl

abbrev mapObj (T : Addr) (f : Value) : Obj := { cls := .type "map", data := .fields #[.ref T, f] }
abbrev oneObj (I : Addr) : Obj := { cls := .type "tuple", data := .seq #[.ref I] }
abbrev lisObj (l : Addr) : Obj := { cls := .type "list_iterator", data := .fields #[.ref l, .int 0 0] }
abbrev mapH1 (h : Heap) (l : Addr) : Heap := h.push (lisObj l)
abbrev mapH2 (h : Heap) (l : Addr) : Heap := (mapH1 h l).push (oneObj h.objs.size)
abbrev mapH3 (h : Heap) (l : Addr) (f : Value) : Heap := (mapH2 h l).push (mapObj (mapH1 h l).objs.size f)

theorem meets_map_new (f : Value) (l : Addr) (xs : Array Value) :
    Meets (Builtin.«map.__new__» ⟨[.type "map", f, .ref l], []⟩) (fun _ R s => s.heap.IsList l xs ∧
      R (.ok (.ret (.ref (mapH2 s.heap l).objs.size))) { s with heap := mapH3 s.heap l f }) :=
  .of_wp fun prog w A R s h => by
    obtain ⟨hp, g, d, tk, os⟩ := s; obtain ⟨hl1, h⟩ := h
    have hsub := sub_map
    have hL1 : Heap.IsList (Shared.heap ⟨hp, g, d, tk, os⟩) l xs := hl1
    wp_walk using wpAny_pyIter_list hL1
    exact ⟨_, rfl, h⟩

section
variable {prog : Program} {w : World} {A : Around} {E : Value → Shared → Prop} {s : Shared}

theorem call_map {f : Value} {l : Addr} {xs : Array Value} {Q : Value → Shared → Prop} (hl : s.heap.IsList l xs)
    (h : ∀ h', h'.get? (s.heap.objs.size + 2) = some (mapObj (s.heap.objs.size + 1) f) → h'.get? (s.heap.objs.size + 1) = some (oneObj s.heap.objs.size) → h'.get? s.heap.objs.size = some (lisObj l) →
      Grow s.heap h' → Q (.ref (s.heap.objs.size + 2)) { s with heap := h' }) :
    wpAny (model prog w) A (call (.type "map") [f, .ref l]) Q E s := by
  refine callType_new called_map (by decide) (typeCall_map_2 _ _) (newCall_map_2 _ _) (fun obj => F.args_object_init_3 obj _ _) entry_map_new
    (meets_map_new f l xs) ⟨hl, ?_⟩
  have z1 : (mapH1 s.heap l).objs.size = s.heap.objs.size + 1 := Heap.size_push ..
  have z2 : (mapH2 s.heap l).objs.size = s.heap.objs.size + 2 := by rw [Heap.size_push, z1]
  have g3 : (mapH3 s.heap l f).get? (mapH2 s.heap l).objs.size = some (mapObj (mapH1 s.heap l).objs.size f) := Heap.get?_push_size _ rfl
  have g2 : (mapH3 s.heap l f).get? (mapH1 s.heap l).objs.size = some (oneObj s.heap.objs.size) := Heap.get?_push_of_some _ (Heap.get?_push_size _ rfl)
  have g1 : (mapH3 s.heap l f).get? s.heap.objs.size = some (lisObj l) := Heap.get?_push_of_some _ (Heap.get?_push_of_some _ (Heap.get?_push_size _ rfl))
  show _ ∧ _
  rw [z1] at g2 g3
  rw [z2] at g3 ⊢
  exact ⟨⟨_, g3, rfl⟩, h _ g3 g2 g1 fun c o x => Heap.get?_push_of_some _ (Heap.get?_push_of_some _ (Heap.get?_push_of_some _ x))⟩
end
end Mine
end

section
namespace Mine
open PySem.F
section
variable {prog : Program} {w : World} {A : Around} {E : Value → Shared → Prop} {s : Shared}

theorem map_next_item {M T I l : Addr} {f : Value} {k : Nat} {xs : Array Value} {x : Value} {Q : Option Value → Shared → Prop}
    (hz : s.heap.get? M = some (mapObj T f)) (hT : s.heap.get? T = some (oneObj I)) (h1 : s.heap.IsListIter I l k) (hl : s.heap.IsList l xs) (hx : xs[k]? = some x) (hMI : M ≠ I)
    (hf : ∀ h₁, h₁.IsListIter I l (k + 1) → Heap.SameBut I s.heap h₁ → wpAny (model prog w) A.in1 (call f [x]) (fun v s' => Q (some v) s') (fun _ _ => False) { s with heap := h₁ }) :
    wpAny (model prog w) A (pyNext (.ref M)) Q E s := by
  have hTy : s.TypeIs (.ref M) "map" := ⟨_, hz, rfl⟩
  unfold pyNext
  refine wpAny_bind (wpAny_attempt (wpAny_callSpecial?_slot (name := Str.ofString "__next__") hTy slot_map_next
    (wpAny_call_entry slot_map_next hTy entry_map_next ?_ (args_map_next _))))
  show wpAny _ _ (field (.ref M) 0 >>= _) _ _ _
  refine wpAny_bind (wpAny_field hz rfl (x := .ref T) rfl ?_)
  refine wpAny_bind (wpAny_seqItems hT rfl ?_)
  dsimp only
  refine wpAny_bind ?_
  rw [← Array.forIn_toList]
  simp only [List.forIn_cons, List.forIn_nil]
  refine wpAny_bind (wpAny_bind (wpAny_holding ?_))
  refine wpAny_nextOf_list_item h1 hl hx fun h₁ h1₁ hs₁ => ?_
  refine wpAny_pure (wpAny_pure ?_)
  refine wpAny_bind (wpAny_field (hs₁.extBut _ _ hMI hz) rfl (x := f) rfl ?_)
  refine wpAny_bind (wpAny_holding ?_)
  refine wpAny_mono (hf h₁ h1₁ hs₁) (fun v s' hq => ?_) (fun _ _ h => h.elim)
  refine wpAny_bind (wpAny_letGo ?_)
  exact wpAny_pure ⟨v, rfl, wpAny_pure hq⟩

theorem map_next_end {M T I l : Addr} {f : Value} {k : Nat} {xs : Array Value} {Q : Option Value → Shared → Prop} (hh : A.handled = none)
    (hz : s.heap.get? M = some (mapObj T f)) (hT : s.heap.get? T = some (oneObj I)) (h1 : s.heap.IsListIter I l k) (hl : s.heap.IsList l xs) (hx : xs[k]? = none)
    (hQ : ∀ h', Heap.ExtBut I s.heap h' → Q none { s with heap := h' }) :
    wpAny (model prog w) A (pyNext (.ref M)) Q E s := by
  have hTy : s.TypeIs (.ref M) "map" := ⟨_, hz, rfl⟩
  unfold pyNext
  refine wpAny_bind (wpAny_attempt (wpAny_callSpecial?_slot (name := Str.ofString "__next__") hTy slot_map_next
    (wpAny_call_entry slot_map_next hTy entry_map_next ?_ (args_map_next _))))
  show wpAny _ _ (field (.ref M) 0 >>= _) _ _ _
  refine wpAny_bind (wpAny_field hz rfl (x := .ref T) rfl ?_)
  refine wpAny_bind (wpAny_seqItems hT rfl ?_)
  dsimp only
  refine wpAny_bind ?_
  rw [← Array.forIn_toList]
  simp only [List.forIn_cons, List.forIn_nil]
  refine wpAny_bind (wpAny_bind (wpAny_holding ?_))
  refine wpAny_nextOf_list_end hh h1 hl hx fun h₁ e hs₁ he => ?_
  obtain ⟨o, ho, hc⟩ := he
  refine wpAny_bind (wpAny_isInstance (T := "StopIteration") (b := true) ⟨o, ho, hc⟩ isSubtype_stop ?_)
  exact wpAny_pure (hQ _ hs₁)

theorem map_iter {M T : Addr} {f : Value} {Q : Value → Shared → Prop} (hz : s.heap.get? M = some (mapObj T f)) (h : Q (.ref M) s) : wpAny (model prog w) A (pyIter (.ref M)) Q E s := by
  have hT : s.TypeIs (.ref M) "map" := ⟨_, hz, rfl⟩
  refine wpAny_pyIter_slot hT slot_map_iter (wpAny_call_entry slot_map_iter hT entry_map_iter ?_ (args_map_iter _))
  show wpAny _ _ (ret (.ref M)) _ _ s
  exact wpAny_pure ⟨_, rfl, "map", _, hT, slot_map_next.lookup, h⟩

/-- what a call of f upon an item makes: nothing that stood is changed -/
def PureOn (prog : Program) (w : World) (A : Around) (base : Heap) (I : Addr) (f : Value) (x : Value) (F : Value → Prop) : Prop :=
  ∀ (s : Shared) (Q : Value → Shared → Prop), (∀ b o, b ≠ I → base.get? b = some o → s.heap.get? b = some o) → (∀ v h' tk', F v → Grow s.heap h' → Q v { s with heap := h', toks := tk' }) →
    wpAny (model prog w) A (call f [x]) Q (fun _ _ => False) s

theorem Walks.map (hh : A.handled = none) {base : Heap} {M T I l : Addr} {f : Value} {xs : Array Value} {F : Nat → Value → Prop}
    (hz : base.get? M = some (mapObj T f)) (hT : base.get? T = some (oneObj I)) (hl : base.IsList l xs) (hI : base.get? I = some (lisObj l))
    (hf : ∀ i x, xs[i]? = some x → PureOn prog w A.in1 base I f x (F i)) :
    Walks prog w A M (List.range base.objs.size) [I] xs.size F (fun i h => h.IsListIter I l i ∧ ∀ b o, b ≠ I → base.get? b = some o → h.get? b = some o) := by
  have hMI : M ≠ I := by rintro rfl; rw [hz] at hI; simp at hI
  have hTI : T ≠ I := by rintro rfl; rw [hT] at hI; simp at hI
  have hlI : l ≠ I := by rintro rfl; obtain ⟨o, ho, hc, _⟩ := hl; rw [hI] at ho; cases ho; simp at hc
  have at_ : ∀ {h : Heap}, (∀ b o, b ≠ I → base.get? b = some o → h.get? b = some o) → h.IsList l xs := fun hk => by
    obtain ⟨o, ho, r⟩ := hl; exact ⟨o, hk _ _ hlI ho, r⟩
  exact {
    sub := fun b hb => by
      rw [List.mem_singleton.mp hb]; exact List.mem_range.mpr (Heap.lt_size hI)
    frame := fun i h h' st hk => ⟨st.1.at fun o e => hk I (List.mem_range.mpr (Heap.lt_size hI)) o e, fun b o hb e => hk b (List.mem_range.mpr (Heap.lt_size e)) o (st.2 b o hb e)⟩
    item := fun i s Q E hi st hQ => by
      refine map_next_item (st.2 _ _ hMI hz) (st.2 _ _ hTI hT) st.1 (at_ st.2) (x := xs[i]) (by simp [hi]) hMI fun h₁ h1₁ hs₁ => ?_
      refine hf i xs[i] (by simp [hi]) _ _ (fun b o hb e => hs₁.extBut _ _ hb (st.2 b o hb e)) fun v h' tk' hF hg => ?_
      refine hQ v h' tk' hF ⟨h1₁.at fun o e => hg _ _ e, fun b o hb e => hg _ _ (hs₁.extBut _ _ hb (st.2 b o hb e))⟩ fun b o hb e => hg _ _ (hs₁.extBut _ _ (fun h => hb (by simp [h])) e)
    done := fun s Q E st hQ => map_next_end hh (st.2 _ _ hMI hz) (st.2 _ _ hTI hT) st.1 (at_ st.2) (by simp) fun h' he' => hQ h' s.toks fun b o hb e => he' _ _ (fun h => hb (by simp [h])) e
    self := fun i s Q E st hQ => map_iter (st.2 _ _ hMI hz) hQ }

theorem extend_loop {R : Result → Shared → Prop} {I : Addr} {fp wr : List Addr} {n : Nat} {P : Nat → Value → Prop} {St : Nat → Heap → Prop} (W : Walks prog w A.in1 I fp wr n P St) (S : Addr) (hSf : S ∉ fp) (res : Value) :
    ∀ (k i : Nat) (s : Shared) (acc : Array Value) (c : Nat), n - i = k → i ≤ n → St i s.heap → s.heap.get? S = some (listOf acc c) → acc.size + k ≤ sizeLine →
    (∀ h' tk' c' (more : List Value), (∀ b o, b ∉ S :: wr → s.heap.get? b = some o → h'.get? b = some o) → h'.get? S = some (listOf (acc ++ more.toArray) c') → more.length = k → (∀ j v, more[j]? = some v → P (i + j) v) →
      R (.ok (.ret res)) { s with heap := h', toks := tk' }) →
    codeAny (model prog w) A (.builtin "list.extend.loop" ⟨[.ref S, .ref I, res], []⟩) R s := by
  have hSw : S ∉ wr := fun h => hSf (W.sub _ h)
  intro k
  induction k with
  | zero =>
    intro i s acc c hk hi hst hS hz hR
    have hin : i = n := by omega
    subst hin
    refine codeAny_builtin F.entry_extend_loop ?_
    rw [Around.under_plainId F.plain_extend_loop _]
    show wpAny _ A.in1 (pyNext (.ref I) >>= _) _ _ s
    refine wpAny_bind (W.done s _ _ hst fun h' tk' hm => ?_)
    exact wpAny_pure (hR h' tk' c [] (fun b o hb e => hm b o (fun h => hb (List.mem_cons_of_mem _ h)) e) (by simpa using hm S _ hSw hS) rfl (fun j v hj => by simp at hj))
  | succ k ih =>
    intro i s acc c hk hi hst hS hz hR
    have hlt : i < n := by omega
    refine codeAny_builtin F.entry_extend_loop ?_
    rw [Around.under_plainId F.plain_extend_loop _]
    show wpAny _ A.in1 (pyNext (.ref I) >>= _) _ _ s
    refine wpAny_bind (W.item i s _ _ hlt hst fun v h₁ tk₁ hP hst' hm => ?_)
    have hS' := hm S _ hSw hS
    show wpAny _ A.in1 (updateSeq S (·.push v) >>= _) _ _ _
    refine wpAny_bind ?_
    refine wpAny_updateSeq hS' rfl (wpAny_pure ⟨plainId_quiet F.plain_extend_loop _, ih (i + 1) _ (acc.push v) _ (by omega) hlt (W.frame _ h₁ _ hst' fun b hb o e => ?_) (Heap.get?_update_self _ hS' rfl) (by rw [Array.size_push]; omega) fun h' tk' c' more hk' hS'' hlen hP' => ?_⟩)
      (by omega) (by show (acc.push v).size ≤ sizeLine + 1; rw [Array.size_push]; omega)
    · exact (Heap.get?_update_other _ _ (fun h : S = b => hSf (by rw [h]; exact hb))).trans e
    · refine hR h' tk' c' (v :: more) (fun b o hb e => ?_) (by rw [hS'', show acc.push v ++ more.toArray = acc ++ (v :: more).toArray from by apply Array.toList_inj.mp; simp]) (by simp [hlen]) (fun j u hj => ?_)
      · refine hk' b o hb ?_
        exact (Heap.get?_update_other _ _ (fun h : S = b => hb (by rw [h]; exact List.mem_cons_self))).trans (hm b o (fun h => hb (List.mem_cons_of_mem _ h)) e)
      · cases j with
        | zero => simp at hj; subst hj; exact hP
        | succ j => have := hP' j u (by simpa using hj); rwa [show i + (j + 1) = i + 1 + j by omega]

/-- extend from an iterator of a type without len and hint -/
theorem extend_with {T : String} (hT1 : (Value.type T == Value.type "list") = false) (hT2 : (Value.type T == Value.type "tuple") = false)
    (nolen : typeLookup (.type T) "__len__" = pure none) (nohint : typeLookup (.type T) "__length_hint__" = pure none)
    {R : Result → Shared → Prop} {I : Addr} {fp wr : List Addr} {n : Nat} {P : Nat → Value → Prop} {St : Nat → Heap → Prop} (W : Walks prog w A.in1 I fp wr n P St)
    (hT : ∀ i (s : Shared), St i s.heap → s.TypeIs (.ref I) T) (S : Addr) (hSf : S ∉ fp) (hI : I ∈ fp) (res : Value) {acc : Array Value} {c : Nat} (hst : St 0 s.heap) (hS : s.heap.get? S = some (listOf acc c)) (hz : acc.size + n < sizeLine)
    (hR : ∀ h' tk' c' (more : List Value), (∀ b o, b ∉ S :: wr → s.heap.get? b = some o → h'.get? b = some o) → h'.get? S = some (listOf (acc ++ more.toArray) c') → more.length = n → (∀ j v, more[j]? = some v → P j v) →
      R (.ok (.ret res)) { s with heap := h', toks := tk' }) :
    wpAny (model prog w) A.in1 (Builtin.List.listExtendWith (.ref S) (.ref I) res)
      (fun fin s' => match fin with | .done f => R (.ok f) s' | .again c' => c'.quiet = true ∧ codeAny (model prog w) A c' R s') (fun e s' => R (.error e) s') s := by
  have hSI : S ≠ I := fun e => hSf (e ▸ hI)
  unfold Builtin.List.listExtendWith
  refine wpAny_bind (wpAny_typeOf (hT 0 _ hst) ?_)
  have h1 : Builtin.List.listSameRef (.ref S) (.ref I) = false := by simp [Builtin.List.listSameRef, hSI]
  simp only [h1, hT1, hT2, Bool.or_false, Bool.false_eq_true, if_false]
  refine wpAny_bind (W.self 0 _ _ _ hst ?_)
  refine wpAny_bind (wpAny_holding ?_)
  unfold Builtin.List.listLengthHint
  refine wpAny_bind (wpAny_specialOf (hT 0 _ hst) nolen ?_)
  show wpAny _ A.in1 (specialOf (Value.ref I) (Str.ofString "__length_hint__") >>= _) _ _ _
  refine wpAny_bind (wpAny_specialOf (hT 0 _ hst) nohint ?_)
  refine wpAny_pure ?_
  show wpAny _ A.in1 (rule "list.extend.makes-room" >>= fun _ => Builtin.List.listTouch (.ref S) >>= fun _ =>
    again (.builtin "list.extend.loop" ⟨[.ref S, .ref I, res], []⟩)) _ _ _
  refine wpAny_bind (wpAny_rule ?_)
  refine wpAny_bind ?_
  show wpAny _ A.in1 (updateSeq S (·.push .none) >>= fun _ => updateSeq S (·.pop)) _ _ _
  refine wpAny_bind (wpAny_updateSeq hS rfl ?_ (by omega) (by rw [Array.size_push]; omega))
  have hS₂ := Heap.get?_update_self (Obj.mapSeq (·.push Value.none)) hS rfl
  refine wpAny_updateSeq hS₂ rfl ?_ (by show (acc.push _).size ≤ _; rw [Array.size_push]; omega) (by show ((acc.push _).pop).size ≤ _; rw [Array.size_pop, Array.size_push]; omega)
  have hS₃ := Heap.get?_update_self (Obj.mapSeq (·.pop)) hS₂ rfl
  have hpp : (acc.push Value.none).pop = acc := by simp
  have hS₄ : ((s.heap.update S (Obj.mapSeq (·.push Value.none))).update S (Obj.mapSeq (·.pop))).get? S = some (listOf acc (if ((acc.push Value.none).pop).size == (acc.push Value.none).size then (if (acc.push Value.none).size == acc.size then c else c + 1) else (if (acc.push Value.none).size == acc.size then c else c + 1) + 1)) := by
    rw [hS₃]; simp only [Obj.mapSeq, hpp]
  have oth : ∀ b o, b ≠ S → s.heap.get? b = some o → ((s.heap.update S (Obj.mapSeq (·.push Value.none))).update S (Obj.mapSeq (·.pop))).get? b = some o :=
    fun b o hb e => (Heap.get?_update_other _ _ (Ne.symm hb)).trans ((Heap.get?_update_other _ _ (Ne.symm hb)).trans e)
  refine wpAny_pure ⟨plainId_quiet F.plain_extend_loop _, extend_loop W S hSf res n 0 _ acc _ rfl (Nat.zero_le _)
    (W.frame 0 s.heap _ hst fun b hb o e => oth b o (fun h => hSf (h ▸ hb)) e) hS₄ (by omega) fun h' tk' c' more hk hS' hlen hP => ?_⟩
  exact hR h' tk' c' more (fun b o hb e => hk b o hb (oth b o (fun h => hb (h ▸ List.mem_cons_self)) e)) hS' hlen (fun j v hj => by have := hP j v hj; rwa [Nat.zero_add] at this)

/-- list(M), M an iterator of a type without len and hint -/
theorem list_call {T : String} (hT1 : (Value.type T == Value.type "list") = false) (hT2 : (Value.type T == Value.type "tuple") = false)
    (nolen : typeLookup (.type T) "__len__" = pure none) (nohint : typeLookup (.type T) "__length_hint__" = pure none)
    {I : Addr} {fp wr : List Addr} {n : Nat} {P : Nat → Value → Prop} {St : Nat → Heap → Prop} (W : Walks prog w A.in1.in1 I fp wr n P St)
    (hT : ∀ i (s : Shared), St i s.heap → s.TypeIs (.ref I) T) (hfp : ∀ b ∈ fp, b < s.heap.objs.size) (hI : I ∈ fp) (hst : St 0 s.heap) (hz : n < sizeLine) {Q : Value → Shared → Prop}
    (hQ : ∀ h' tk' c' (more : List Value), (∀ b o, b ∉ wr → s.heap.get? b = some o → h'.get? b = some o) → h'.get? s.heap.objs.size = some (listOf more.toArray c') → more.length = n → (∀ j v, more[j]? = some v → P j v) →
      Q (.ref s.heap.objs.size) { s with heap := h', toks := tk' }) :
    wpAny (model prog w) A (call (.type "list") [.ref I]) Q E s := by
  have hSf : s.heap.objs.size ∉ fp := fun hm => Nat.lt_irrefl _ (hfp _ hm)
  refine callType_codes (Q₁ := fun obj s₁ => obj = .ref s.heap.objs.size ∧ s₁ = { s with heap := s.heap.push { cls := .type "list", data := .seq #[] } }) F.called_list (F.typeCall_list_1 _) F.entry_list_init
    (code_list_new _ ⟨rfl, rfl⟩) fun obj s₁ h₁ => ?_
  obtain ⟨rfl, rfl⟩ := h₁
  have hS : (s.heap.push { cls := .type "list", data := .seq #[] }).get? s.heap.objs.size = some { cls := .type "list", data := .seq #[] } := Heap.get?_push_size _ rfl
  refine ⟨⟨_, hS, rfl⟩, F.args_list_init_2 _ _, ?_⟩
  show wpAny _ A.in1.in1 (do let old ← Builtin.List.listItems (.ref s.heap.objs.size); Builtin.List.listUpdate (.ref s.heap.objs.size) (fun _ => #[]); letGo old.toList.reverse; Builtin.List.listExtendWith (.ref s.heap.objs.size) (.ref I) .none) _ _ _
  refine wpAny_bind ?_
  unfold Builtin.List.listItems
  refine wpAny_bind (wpAny_seqItems hS rfl (wpAny_pure ?_))
  show wpAny _ A.in1.in1 (updateSeq s.heap.objs.size (fun _ => #[]) >>= fun _ => letGo (#[] : Array Value).toList.reverse >>= fun _ => Builtin.List.listExtendWith (.ref s.heap.objs.size) (.ref I) .none) _ _ _
  refine wpAny_bind (wpAny_updateSeq hS rfl ?_)
  have hS₂ := Heap.get?_update_self (Obj.mapSeq (fun _ => (#[] : Array Value))) hS rfl
  have hS₃ : ((s.heap.push { cls := .type "list", data := .seq #[] }).update s.heap.objs.size (Obj.mapSeq (fun _ => (#[] : Array Value)))).get? s.heap.objs.size = some (listOf #[] 0) := by rw [hS₂]; rfl
  have oth : ∀ b o, s.heap.get? b = some o → ((s.heap.push { cls := .type "list", data := .seq #[] }).update s.heap.objs.size (Obj.mapSeq (fun _ => (#[] : Array Value)))).get? b = some o :=
    fun b o e => (Heap.get?_update_other _ _ (Nat.ne_of_gt (Heap.lt_size e))).trans (Heap.get?_push_of_some _ e)
  refine wpAny_bind (wpAny_letGo ?_)
  refine extend_with hT1 hT2 nolen nohint W hT _ hSf hI .none (W.frame 0 s.heap _ hst fun b hb o e => oth b o e) hS₃ (by simpa using hz) fun h' tk' c' more hk hS' hlen hP => ?_
  refine ⟨rfl, hQ h' tk' c' more (fun b o hb e => hk b o (fun hm => ?_) (oth b o e)) (by simpa using hS') hlen hP⟩
  rcases List.mem_cons.mp hm with h | h
  · exact absurd (Heap.lt_size e) (by rw [h]; exact Nat.lt_irrefl _)
  · exact hb h

theorem map_type {base : Heap} {M T I l : Addr} {f : Value} (hz : base.get? M = some (mapObj T f)) (hI : base.get? I = some (lisObj l)) (i : Nat) (s : Shared) (st : s.heap.IsListIter I l i ∧ ∀ b o, b ≠ I → base.get? b = some o → s.heap.get? b = some o) : s.TypeIs (.ref M) "map" := by
  have hMI : M ≠ I := by rintro rfl; rw [hz] at hI; simp at hI
  exact ⟨_, st.2 _ _ hMI hz, rfl⟩

/-- list(map(f, l)), the map made -/
theorem list_map {M T I l : Addr} {f : Value} {xs : Array Value} {F : Nat → Value → Prop} {Q : Value → Shared → Prop} (hh : A.handled = none)
    (hz : s.heap.get? M = some (mapObj T f)) (hT : s.heap.get? T = some (oneObj I)) (hl : s.heap.IsList l xs) (hI : s.heap.get? I = some (lisObj l)) (hn : xs.size < sizeLine)
    (hf : ∀ i x, xs[i]? = some x → PureOn prog w A.in1.in1.in1 s.heap I f x (F i))
    (hQ : ∀ h' tk' c' (more : List Value), (∀ b o, b ≠ I → s.heap.get? b = some o → h'.get? b = some o) → h'.get? s.heap.objs.size = some (listOf more.toArray c') → more.length = xs.size → (∀ j v, more[j]? = some v → F j v) →
      Q (.ref s.heap.objs.size) { s with heap := h', toks := tk' }) :
    wpAny (model prog w) A (call (.type "list") [.ref M]) Q E s := by
  refine list_call (T := "map") (by decide) (by decide) map_no_len map_no_hint (Walks.map (A := A.in1.in1) hh hz hT hl hI hf) (map_type hz hI) (fun b hb => List.mem_range.mp hb) (List.mem_range.mpr (Heap.lt_size hz)) ⟨⟨_, hI, rfl, rfl⟩, fun _ _ _ e => e⟩ hn ?_
  intro h' tk' c' more hk h1 h2 h3
  exact hQ h' tk' c' more (fun b o hb e => hk b o (by simpa using hb) e) h1 h2 h3
end
end Mine
end

section
namespace Mine

/-- the signs that a pattern gives a meaning or that are blank, with the tokens of the table's keys and texts -/
def specTab : List (Nat × Tok × Tok) := [(40, 190, 194), (41, 196, 200), (91, 202, 206), (93, 208, 212), (123, 214, 218), (125, 220, 224), (63, 226, 230), (42, 232, 236), (43, 238, 242), (45, 244, 248), (124, 250, 254),
  (94, 256, 260), (36, 262, 266), (92, 268, 272), (46, 274, 278), (38, 280, 284), (126, 286, 290), (35, 292, 296), (32, 298, 302), (9, 304, 308), (10, 310, 314), (13, 316, 320), (11, 322, 326), (12, 328, 332)]
def specs : List Nat := [40, 41, 91, 93, 123, 125, 63, 42, 43, 45, 124, 94, 36, 92, 46, 38, 126, 35, 32, 9, 10, 13, 11, 12]
def specEntry (e : Nat × Tok × Tok) : DictEntry := ⟨(e.1 : Int), .int (e.1 : Int) e.2.1, .str ⟨#[92, e.1]⟩ e.2.2⟩
def specObj : Obj := ⟨.type "dict", none, .dict (specTab.map specEntry).toArray 24, #[]⟩
def specP (c : Nat) : Option Str := if c ∈ specs then some ⟨#[92, c]⟩ else none

theorem find_spec (c : Nat) : ∀ tab : List (Nat × Tok × Tok), findBy Value.isInt (tab.map specEntry).toArray (c : Int) = (tab.find? (fun e => e.1 == c)).map fun e => Value.str ⟨#[92, e.1]⟩ e.2.2
  | [] => rfl
  | e :: r => by
    have ih := find_spec c r
    unfold findBy at ih ⊢
    simp only [List.find?_toArray, List.map_cons, List.find?_cons] at ih ⊢
    by_cases h : e.1 = c
    · subst h
      simp [specEntry, Value.isInt]
    · have h1 : Value.isInt (c : Int) (specEntry e).key = false := by
        simp only [specEntry, Value.isInt]
        simpa using fun h' : (e.1 : Int) = c => h (by omega)
      have h2 : (e.1 == c) = false := by simpa using h
      rw [h1, h2]
      exact ih
theorem spec_tells : Tells1 (fun k => findBy Value.isInt (specTab.map specEntry).toArray k) specP := by
  intro c
  simp only [find_spec]
  unfold specP
  have e : specs = specTab.map (·.1) := rfl
  by_cases h : c ∈ specs
  · rw [if_pos h]
    rw [e] at h
    obtain ⟨x, hx, rfl⟩ := List.mem_map.mp h
    cases hf : specTab.find? (fun e => e.1 == x.1) with
    | none => exact absurd (List.find?_eq_none.mp hf x hx) (by simp)
    | some y =>
      have := List.find?_some hf
      have hy : y.1 = x.1 := by simpa using this
      exact ⟨y.2.2, by simp [hy]⟩
  · rw [if_neg h]
    cases hf : specTab.find? (fun e => e.1 == c) with
    | none => rfl
    | some y =>
      have := List.find?_some hf
      have hy : y.1 = c := by simpa using this
      exact absurd (by rw [e, ← hy]; exact List.mem_map_of_mem (List.mem_of_find?_eq_some hf)) h
theorem specP_len (c : Nat) (x : Str) (h : specP c = some x) : x.length ≤ 2 := by
  unfold specP at h
  split at h
  · cases h; simp [Str.length]
  · cases h
theorem spec_map {prog : Program} {w : World} {h : Heap} {a : Addr} (e : h.get? a = some specObj) : h.MapOf (intKind prog w) a (fun k => findBy Value.isInt (specTab.map specEntry).toArray k) := by
  refine ⟨_, _, _, e, ⟨rfl, rfl, rfl⟩, rfl, fun d hd => ?_, fun _ => rfl⟩
  simp only [List.mem_toArray, List.mem_map] at hd
  obtain ⟨x, hx, rfl⟩ := hd
  refine ⟨(x.1 : Int), intKind_is prog w _ _, ?_⟩
  have : ∀ x ∈ specTab, (x.1 : Int) = hashInt (x.1 : Int) := by decide +kernel
  exact this x hx

section
variable {M : Model} {A : Around} {E : Value → Shared → Prop} {s : Shared}
theorem gm_translate {x : Str} {t : Tok} {pl : Sem Bool} {Q : Value × List Value → Shared → Prop} (h : Q (.builtin "str.translate", [.str x t]) s) : wpAny M A (getMethod (.str x t) "translate" pl) Q E s := by
  with_reducible exact GM.of (.str x t) (typeIs_str _ _ _) F.slot_str_translate F.type_str_translate GM.noRef h
end

/-- escape -/
def esc (x : Str) : Str := trS specP x
section
variable {prog : Program} {w : World} {A : Around} {E : Value → Shared → Prop} {s : Shared}
theorem escape_tr {K : Frag} {h₀ : Heap} {L : Addr} {m : Str → Option Value} {x : Str} {t : Tok} {Q : Value → Shared → Prop} {news : List (Addr × Obj)} (X : K.In h₀) (F : Fr h₀ L s.heap m) (N : News h₀ L s.heap news) (hK : K.lookup 16 = some specObj) (hh : A.handled = none) (hsz : 2 * x.length ≤ sizeLine)
    (hQ : ∀ h' tk' t', Fr h₀ L h' m → News h₀ L h' news → Grow s.heap h' → Q (.str (esc x) t') { s with heap := h', toks := tk' }) :
    wpAny (model prog w) A (call (.builtin "str.translate") [.str x t, .ref 16]) Q E s := by
  refine translate_spec spec_tells specP_len x t hsz hh (by decide) (spec_map (F.keep _ _ (X _ _ hK))) ?_
  intro h' tk' t' hg
  exact hQ h' tk' t' ⟨F.ns.keeps hg, fun b o e => hg _ _ (F.keep b o e), F.above⟩ (fun p hp => ⟨hg _ _ (N p hp).1, (N p hp).2⟩) hg
end
end Mine
end

section
open PySem.Calls
namespace Mine

/-- a way of a call's end: the value, nothing of the world moved but heap and tokens -/
def PuR (s : Shared) (V : Value → Prop) (r : Result) (s' : Shared) : Prop :=
  match r with | .ok (.ret v) => V v ∧ ∃ h' tk', s' = { s with heap := h', toks := tk' } | _ => False

section
variable {prog : Program} {w : World} {A A₀ : Around} {E : Value → Shared → Prop} {s : Shared} {K : Frag} {L : Addr} {h₀ base : Heap} {m mg mb : Str → Option Value} {p : Program} {loose : List Str} {mean : ExcName → Option Value}

theorem code_pure {env : Env} {outer : List Env} {R : Result → Shared → Prop} {name qual : Str} {params : Arguments} {body : List Stmt} {scope : Scope} {dV kV doc pm cdv ct oc : Value} {an od : Option Addr} {osl : Array (Option Value)} {f : Addr} {args : Args} {binds : List (Str × Value)}
    (V : Value → Prop) (hR : ∀ v h' tk', V v → Grow s.heap h' → R (.ok (.ret v)) { s with heap := h', toks := tk' })
    (B : Below A₀ base outer h₀) (F : Fr h₀ L s.heap m) (X₀ : K.In h₀) (T : Top p loose mean mg mb h₀) (hA : A.frames = some (env :: outer)) (hf : env.frame = some L) (hke : env.scope.kind = .function)
    (ho : K.lookup f = some ⟨oc, od, .func (fnOf name qual params body scope dV kV doc pm an cdv ct), osl⟩) (hcd : codeIn K cdv qual = true) (hroom : A.depth < recursionLimit)
    (hbind : BindsTo s (fnOf name qual params body scope dV kV doc pm an cdv ct) args binds) (hloc : ∀ y ∈ binds, scope.names.lookup y.1 = some .local)
    (h : ∀ L' h₁, Fr h₀ L s.heap m → Fr s.heap L' h₁ (fun y => binds.reverse.lookup y) → News s.heap L' h₁ [] → Below A base (env :: outer) s.heap → K.In s.heap → Top p loose mean mg mb s.heap →
      wpAny (model prog w) (A.deeper (envOf qual scope L' f cdv)) (execs body (envOf qual scope L' f cdv))
        (fun fl s' => LeaveK h₀ L m s.heap (PuR s V) (match fl with | .ret v => v | _ => .none) s')
        (fun _ _ => False)
        { s with heap := h₁, toks := s.toks + binds.length })
    (hco : scope.isCoroutine = false) (hgen : scope.isGenerator = false) (hk : scope.kind = .function)
    (hcell : ∀ x ∈ scope.names, x.2 ≠ .cell) : codeAny (model prog w) A (.call (.ref f) args) R s := by
  obtain ⟨FG, BG, st, lv⟩ := groundX (R := PuR s V) B F News.nil hA hf hke
  have X := X₀.keeps F.keep
  refine codeAny_call_def (fd := fnOf name qual params body scope dV kV doc pm an cdv ct) (body := body) (binds := binds) hroom (X _ _ ho) rfl (T.nolimit.keeps F.keep) (codeRec_of X hcd) rfl hbind hcell hloc (fun h₁ hns hk₁ => ?_) hco hgen hk
  refine wpAny_mono (h s.heap.objs.size h₁ F ⟨hns, hk₁, Nat.le_refl _⟩ News.nil BG X (T.keeps F.keep)) (fun fl s' hl => ?_) fun _ _ y => y.elim
  have hg : Grow s.heap s'.heap := by obtain ⟨_, _, _, F', _, _⟩ := hl; exact F'.keep
  obtain ⟨hv, h', tk', rfl⟩ := lv _ _ hl
  exact hR _ _ _ hv hg
end

/-- a def that changes nothing that stood: what it hands back -/
abbrev PureFn (n : Nat) (prog : Program) (w : World) (K : Frag) (p : Program) (loose : List Str) (mean : ExcName → Option Value) (mg mb : Str → Option Value) (f : Addr) (vs : List Value) (V : Value → Prop) : Prop :=
  ∀ (dp un : Nat) (gd : Option (List Code)) (cn : Str) (cs : Scope) (a : Addr) (ccd : Value) (cl : List (Str × Addr)) (outer : List Env) (A₀ : Around) (base h₀ : Heap) (L : Addr) (m : Str → Option Value) (s : Shared) (Q E : Value → Shared → Prop),
    Below A₀ base outer h₀ → Fr h₀ L s.heap m → K.In h₀ → Top p loose mean mg mb h₀ → cs.kind = .function → dp + n < recursionLimit → un + 8 * n < cLine →
      (∀ v h' tk', V v → Grow s.heap h' → Q v { s with heap := h', toks := tk' }) →
      wpAny (model prog w) (ktrTop dp un gd cn cs L a ccd cl outer) (call (.ref f) vs) Q E s

section
variable {prog : Program} {w : World} {A A₀ : Around} {E : Value → Shared → Prop} {s : Shared} {K : Frag} {L : Addr} {h₀ base : Heap} {m mg mb : Str → Option Value} {p : Program} {loose : List Str} {mean : ExcName → Option Value}
  {news : List (Addr × Obj)}

theorem Fr.but {h h' : Heap} {I : Addr} (F : Fr h₀ L h m) (hI : I ≠ L) (hn : h₀.get? I = none) (hk : ∀ b o, b ≠ I → h.get? b = some o → h'.get? b = some o) : Fr h₀ L h' m :=
  ⟨F.ns.at' fun o e => hk _ o (Ne.symm hI) e, fun b o e => hk b o (by rintro rfl; rw [hn] at e; cases e) (F.keep b o e), F.above⟩
theorem News.but {h h' : Heap} {I : Addr} {rest : List (Addr × Obj)} (N : News h₀ L h news) (hs : ∀ q ∈ rest, q ∈ news ∧ q.1 ≠ I) (hk : ∀ b o, b ≠ I → h.get? b = some o → h'.get? b = some o) : News h₀ L h' rest :=
  fun q hq => ⟨hk _ _ (hs q hq).2 (N q (hs q hq).1).1, (N q (hs q hq).1).2⟩
theorem Fr.grow {h h' : Heap} (F : Fr h₀ L h m) (hk : Grow h h') : Fr h₀ L h' m := ⟨F.ns.at' fun o e => hk _ o e, fun b o e => hk b o (F.keep b o e), F.above⟩
theorem News.grow {h h' : Heap} (N : News h₀ L h news) (hk : Grow h h') : News h₀ L h' news := fun q hq => ⟨hk _ _ (N q hq).1, (N q hq).2⟩

theorem map_K {f : Value} {l : Addr} {xs : Array Value} {n : Nat} {Q : Value → Shared → Prop} (F : Fr h₀ L s.heap m) (N : News h₀ L s.heap news) (hl : (l, listOf xs n) ∈ news)
    (h : ∀ M T I h', Fr h₀ L h' m → News h₀ L h' ((M, mapObj T f) :: (T, oneObj I) :: (I, lisObj l) :: news) → (∀ p ∈ news, p.1 < I) → @LT.lt Nat _ I T → @LT.lt Nat _ T M → Q (.ref M) { s with heap := h' }) :
    wpAny (model prog w) A (call (.type "map") [f, .ref l]) Q E s := by
  refine call_map (xs := xs) ⟨_, (N _ hl).1, rfl, _, rfl⟩ fun h' e1 e2 e3 hg => ?_
  obtain ⟨oL, _, _, hL, _⟩ := F.ns
  have lt : ∀ {b o}, s.heap.get? b = some o → b < s.heap.objs.size := fun e => Heap.lt_size e
  have nn : ∀ b, s.heap.objs.size ≤ b → h₀.get? b = none := fun b hb => by
    cases q : h₀.get? b with
    | none => rfl
    | some o => exact absurd (lt (F.keep _ _ q)) (Nat.not_lt.mpr hb)
  have hne : ∀ b, s.heap.objs.size ≤ b → b ≠ L := fun b hb e => absurd (lt hL) (Nat.not_lt.mpr (e ▸ hb))
  refine h _ _ _ h' (Fr.grow F hg) (fun q hq => ?_) (fun q hq => lt (N q hq).1) (Nat.lt_succ_self _) (Nat.lt_succ_self _)
  rcases List.mem_cons.mp hq with rfl | hq
  · exact ⟨e1, hne _ (by omega), nn _ (by omega)⟩
  · rcases List.mem_cons.mp hq with rfl | hq
    · exact ⟨e2, hne _ (by omega), nn _ (by omega)⟩
    · rcases List.mem_cons.mp hq with rfl | hq
      · exact ⟨e3, hne _ (by omega), nn _ (by omega)⟩
      · exact ⟨hg _ _ (N q hq).1, (N q hq).2⟩

/-- list(map(f, texts)) of a pure def f from texts to texts -/
theorem list_map_texts {M T I l f : Addr} {g : Str → Str} {ys : List (Str × Tok)} {n k : Nat} {rest : List (Addr × Obj)} {Q : Value → Shared → Prop}
    {dp un : Nat} {gd : Option (List Code)} {cn : Str} {cs : Scope} {a : Addr} {ccd : Value} {cl : List (Str × Addr)} {outer : List Env}
    (B : Below A₀ base outer h₀) (F : Fr h₀ L s.heap m) (N : News h₀ L s.heap news) (X : K.In h₀) (Tp : Top p loose mean mg mb h₀) (hck : cs.kind = .function) (hd : dp + k < recursionLimit) (hu : un + 3 + 8 * k < cLine)
    (hM : (M, mapObj T (.ref f)) ∈ news) (hT : (T, oneObj I) ∈ news) (hI : (I, lisObj l) ∈ news) (hl : (l, listOf (strValues ys).toArray n) ∈ news) (hrest : ∀ q ∈ rest, q ∈ news ∧ q.1 ≠ I) (hlen : ys.length < sizeLine)
    (hf : ∀ x t, x ∈ ys.map (·.1) → PureFn k prog w K p loose mean mg mb f [.str x t] (fun v => ∃ t', v = .str (g x) t'))
    (hQ : ∀ D h' tk' c' (zs : List (Str × Tok)), Fr h₀ L h' m → News h₀ L h' ((D, listOf (strValues zs).toArray c') :: rest) → (∀ q ∈ rest, q.1 < D) → zs.map (·.1) = ys.map (fun y => g y.1) → Q (.ref D) { s with heap := h', toks := tk' }) :
    wpAny (model prog w) (ktrTop dp un gd cn cs L a ccd cl outer) (call (.type "list") [.ref M]) Q E s := by
  have nM := N _ hM; have nT := N _ hT; have nI := N _ hI; have nl := N _ hl
  have hsz : (strValues ys).toArray.size = ys.length := by simp [strValues]
  have hat : ∀ (i : Nat) (x : Value), (strValues ys).toArray[i]? = some x → ∃ y, ys[i]? = some y ∧ x = .str y.1 y.2 := by
    intro i x hx
    have hx' : (strValues ys)[i]? = some x := by simpa using hx
    unfold strValues at hx'
    rw [List.getElem?_map] at hx'
    cases hy : ys[i]? with
    | none => rw [hy] at hx'; cases hx'
    | some y => rw [hy] at hx'; exact ⟨y, rfl, (Option.some.inj hx').symm⟩
  refine list_map (F := fun i v => ∀ y, ys[i]? = some y → ∃ t', v = .str (g y.1) t') rfl nM.1 nT.1 ⟨_, nl.1, rfl, _, rfl⟩ nI.1 (by rw [hsz]; exact hlen) ?_ ?_
  · intro i x hx s₁ Q₁ hk hQ₁
    obtain ⟨y, hy, rfl⟩ := hat i x hx
    refine hf y.1 y.2 (List.mem_map_of_mem (List.mem_of_getElem? hy)) dp (un + 1 + 1 + 1) gd cn cs a ccd cl outer A₀ base h₀ L m s₁ _ _ B (Fr.but F nI.2.1 nI.2.2 hk) X Tp hck hd (by omega) fun v h' tk' hv hg => ?_
    obtain ⟨t', rfl⟩ := hv
    exact hQ₁ _ _ _ (fun y' hy' => by rw [hy] at hy'; cases hy'; exact ⟨t', rfl⟩) hg
  · intro h' tk' c' more hk hD hlen' hP
    obtain ⟨oL, _, _, hL, _⟩ := F.ns
    have key : ∀ (ys : List (Str × Tok)) (more : List Value), more.length = ys.length → (∀ (j : Nat) v, more[j]? = some v → ∀ y, ys[j]? = some y → ∃ t', v = .str (g y.1) t') →
        ∃ zs : List (Str × Tok), more = strValues zs ∧ zs.map (·.1) = ys.map (fun y => g y.1) := by
      intro ys
      induction ys with
      | nil => intro more hl _; cases more with
        | nil => exact ⟨[], rfl, rfl⟩
        | cons _ _ => cases hl
      | cons y r ih => intro more hl hP; cases more with
        | nil => cases hl
        | cons v more =>
          obtain ⟨zs, e1, e2⟩ := ih more (by simpa using hl) fun j v hj y' hy' => hP (j + 1) v (by simpa using hj) y' (by simpa using hy')
          obtain ⟨t', rfl⟩ := hP 0 v rfl y rfl
          exact ⟨(g y.1, t') :: zs, by rw [e1]; rfl, by simp [e2]⟩
    obtain ⟨zs, rfl, hzs⟩ := key ys more (by rw [hlen', hsz]) hP
    refine hQ s.heap.objs.size h' tk' c' zs (Fr.but F nI.2.1 nI.2.2 hk) (fun q hq => ?_) (fun q hq => Heap.lt_size (N q (hrest q hq).1).1) hzs
    rcases List.mem_cons.mp hq with rfl | hq
    · refine ⟨hD, Nat.ne_of_gt (Heap.lt_size hL), ?_⟩
      cases q : h₀.get? s.heap.objs.size with
      | none => rfl
      | some o => exact absurd (Heap.lt_size (F.keep _ _ q)) (Nat.lt_irrefl _)
    · exact News.but N hrest hk q hq
end
end Mine
end

section
open PySem.Calls
namespace Mine

/-- the pieces between the stars -/
def cut (c : Nat) : List Nat → List (List Nat)
  | [] => [[]]
  | a :: r => if a = c then [] :: cut c r else match cut c r with
    | p :: ps => (a :: p) :: ps
    | [] => [[a]]
theorem cut_ne (c : Nat) (l : List Nat) : cut c l ≠ [] := by
  cases l with
  | nil => simp [cut]
  | cons a r => unfold cut; split
                · simp
                · split <;> simp
def glue (c : Nat) : List (List Nat) → List Nat
  | [] => []
  | [p] => p
  | p :: q :: r => p ++ c :: glue c (q :: r)
theorem cut_append (c : Nat) : ∀ p r : List Nat, c ∉ p → cut c (p ++ r) = match cut c r with | q :: qs => (p ++ q) :: qs | [] => []
  | [], r, _ => by cases h : cut c r with
    | nil => exact absurd h (cut_ne c r)
    | cons q qs => simp [h]
  | a :: p, r, h => by
    have ha : a ≠ c := fun e => h (by simp [e])
    have ih := cut_append c p r (fun e => h (by simp [e]))
    cases hr : cut c r with
    | nil => exact absurd hr (cut_ne c r)
    | cons q qs =>
      rw [hr] at ih
      simp only [List.cons_append, cut, if_neg ha, ih]
theorem cut_glue (c : Nat) : ∀ ps : List (List Nat), ps ≠ [] → (∀ p ∈ ps, c ∉ p) → cut c (glue c ps) = ps
  | [], h, _ => absurd rfl h
  | [p], _, hf => by
    have := cut_append c p [] (hf p (by simp))
    simpa [glue, cut] using this
  | p :: q :: r, _, hf => by
    have ih := cut_glue c (q :: r) (by simp) (fun x hx => hf x (by simp [hx]))
    have := cut_append c p (c :: glue c (q :: r)) (hf p (by simp))
    simpa [glue, cut, ih] using this
theorem cut_len (c : Nat) : ∀ l, (cut c l).length ≤ l.length + 1
  | [] => by simp [cut]
  | a :: r => by
    have ih := cut_len c r
    unfold cut; split
    · simp; exact ih
    · split
      · rename_i h; rw [h] at ih; simp at ih ⊢; omega
      · simp
def lis (x : Str) : List Nat := x.cps.toList
def ofL (l : List Nat) : Str := ⟨l.toArray⟩
@[simp] theorem lis_ofL (l : List Nat) : lis (ofL l) = l := by simp [lis, ofL]
@[simp] theorem ofL_lis (x : Str) : ofL (lis x) = x := by simp [lis, ofL]
theorem lis_inj {x y : Str} (h : lis x = lis y) : x = y := by rw [← ofL_lis x, h, ofL_lis]
theorem lis_append (x y : Str) : lis (x ++ y) = lis x ++ lis y := by
  show (Str.append x y).cps.toList = _
  simp [Str.append, lis]
theorem length_lis (x : Str) : x.length = (lis x).length := by simp [Str.length, lis]
theorem glue_join (c : Nat) : ∀ ps : List Str, lis (Str.join ⟨#[c]⟩ ps) = glue c (ps.map lis)
  | [] => rfl
  | [p] => rfl
  | p :: q :: r => by
    have ih := glue_join c (q :: r)
    show lis (p ++ ⟨#[c]⟩ ++ Str.join ⟨#[c]⟩ (q :: r)) = _
    rw [lis_append, lis_append, ih]
    simp [glue, lis]
theorem split_ne (x y : Str) : Txt.split x y ≠ [] := by
  unfold Txt.split
  split
  · simp
  · split
    · simp
    · intro h
      rw [StrLaws.partsBetween_eq] at h
      cases hc : Builtin.Str.occurrences x y 0 x.length (x.length + 1) with
      | nil => rw [hc] at h; simp [StrLaws.partsFrom] at h
      | cons a r => obtain ⟨p, q, e⟩ := StrLaws.partsFrom_ne x y.length 0 (a :: r); rw [hc, e] at h; cases h
theorem split_cut (x : Str) (c : Nat) : (Txt.split x ⟨#[c]⟩).map lis = cut c (lis x) := by
  have h := StrLaws.join_split x ⟨#[c]⟩
  have h2 := glue_join c (Txt.split x ⟨#[c]⟩)
  rw [h] at h2
  rw [h2, cut_glue]
  · intro e; exact split_ne x _ (List.map_eq_nil_iff.mp e)
  · intro p hp
    obtain ⟨q, hq, rfl⟩ := List.mem_map.mp hp
    exact StrLaws.split_free x c q hq
theorem split_few (x : Str) (c : Nat) : (Txt.split x ⟨#[c]⟩).length ≤ x.length + 1 := by
  have h := cut_len c (lis x)
  rw [← split_cut, List.length_map, ← length_lis] at h
  exact h
end Mine
end

section
open PySem.Calls
namespace Mine
section
variable {prog : Program} {w : World} {A : Around} {E : Value → Shared → Prop} {s : Shared} {h₀ : Heap} {L D : Addr} {m : Str → Option Value} {news news' : List (Addr × Obj)} {vs : List Value} {c : Nat}

/-- the place that an index means -/
def place (k : Int) (n : Nat) : Nat := if k < 0 then (k + n).toNat else k.toNat

theorem len_L {Q : Value → Shared → Prop} (N : News h₀ L s.heap news) (hm : (D, listOf vs.toArray c) ∈ news) (hfit : (vs.length : Int) < 2 ^ 63)
    (h : Q (.int (vs.length : Int) (s.toks + 1)) { s with toks := s.toks + 1 + 1 }) : wpAny (model prog w) A (call (.builtin "len") [.ref D]) Q E s := kst_len N hm rfl hfit h

theorem get_L {k : Int} {u : Tok} {x : Value} {Q : Value → Shared → Prop} (N : News h₀ L s.heap news) (hm : (D, listOf vs.toArray c) ∈ news) (h0 : -(vs.length : Int) ≤ k) (h1 : k < vs.length) (hfit : (vs.length : Int) < 2 ^ 63)
    (hx : vs[place k vs.length]? = some x) (h : Q x s) : wpAny (model prog w) A (getItem (.ref D) (.int k u)) Q E s := by
  have hl : s.heap.IsList D vs.toArray := ⟨_, (N _ hm).1, rfl, c, rfl⟩
  unfold place at hx
  by_cases hk : k < 0
  · rw [if_pos hk] at hx
    exact wpAny_getItem_list_neg hl hk (by simpa using h0) (by omega) (by simpa using hx) h
  · rw [if_neg hk] at hx
    exact wpAny_getItem_list hl (by omega) (by omega) (by simpa using hx) h

theorem sub_L {value slice : Expr} {k : Int} {u : Tok} {x : Value} {Q : Value → Shared → Prop} (N : News h₀ L s.heap news) (hm : (D, listOf vs.toArray c) ∈ news) (h0 : -(vs.length : Int) ≤ k) (h1 : k < vs.length) (hfit : (vs.length : Int) < 2 ^ 63)
    (hx : vs[place k vs.length]? = some x) (h : Q x s)
    (hs : subscripted slice false (.ref D) (.int k u) = operate [.ref D, .int k u] (getItem (.ref D) (.int k u)) := by with_unfolding_all rfl) :
    wpAny (model prog w) A (subscriptTail value slice (.ref D) (.int k u)) Q E s :=
  tail_any ⟨_, (N _ hm).1, rfl⟩ slot_list_getitem.lookup (get_L N hm h0 h1 hfit hx h) hs

theorem set_raw {k : Int} {u : Tok} {v : Value} {Q : Unit → Shared → Prop} (hl : s.heap.get? D = some (listOf vs.toArray c)) (h0 : -(vs.length : Int) ≤ k) (h1 : k < vs.length) (hfit : (vs.length : Int) < 2 ^ 63)
    (hQ : Q () { s with heap := s.heap.update D (Obj.mapSeq (·.setIfInBounds (place k vs.length) v)) }) :
    wpAny (model prog w) A (setItem (.ref D) (.int k u) v) Q E s := by
  have hL : s.heap.IsList D vs.toArray := ⟨_, hl, rfl, c, rfl⟩
  unfold setItem
  try with_reducible refine wpAny_holding ?_
  first | refine wpAny_bind (wpAny_pure ?_) | skip
  refine wpAny_bind (wpAny_sequenceKey hL.typeIs (by decide) ?_)
  refine wpAny_bind (wpAny_callSpecial?_slot (name := Str.ofString "__setitem__") hL.typeIs slot_list_setitem
    (wpAny_call_entry slot_list_setitem hL.typeIs entry_list_setitem ?_ (args_list_setitem _ _ _)))
  show wpAny _ _ (Builtin.List.listSubscript? (.int k u) >>= _) _ _ s
  by_cases hk : k < 0
  · refine wpAny_bind (wpAny_listSubscript_int (fitsIndex_neg hk (by omega)) ?_)
    clear hfit
    have hidx := seqIndex_neg hk h0
    have hp : place k vs.length = (k + vs.length).toNat := by unfold place; rw [if_pos hk]
    have hj : (k + vs.length).toNat < vs.length := by omega
    rw [hp] at hQ
    obtain ⟨j, rfl⟩ : ∃ j : Nat, k = Int.negSucc j := by
      cases k with
      | ofNat n => exact absurd hk (Int.not_lt.mpr (Int.natCast_nonneg n))
      | negSucc n => exact ⟨n, rfl⟩
    show wpAny _ _ ((Builtin.List.listItems (.ref D) >>= fun xs => pure ((seqIndex? (Int.negSucc j) xs.size).bind fun i => xs[i]?.map (i, ·))) >>= _) _ _ s
    refine wpAny_bind (wpAny_bind ?_)
    show wpAny _ _ (seqItems? (.ref D) >>= _) _ _ s
    refine wpAny_bind (wpAny_seqItems hl rfl (wpAny_pure (wpAny_pure ?_)))
    have hsz : vs.toArray.size = vs.length := by simp
    rw [hsz, hidx]
    simp only [Option.bind_some, List.getElem?_toArray, List.getElem?_eq_getElem hj, Option.map_some]
    show wpAny _ _ (setSeqItemAt D _ v >>= _) _ _ s
    refine wpAny_bind (wpAny_setSeqItemAt hl rfl ?_)
    first
      | exact wpAny_bind (wpAny_pure (wpAny_pure ⟨.none, rfl, wpAny_pure hQ⟩))
      | exact wpAny_pure ⟨.none, rfl, wpAny_pure hQ⟩
  · refine wpAny_bind (wpAny_listSubscript_int (fitsIndex_of (by omega) (by omega)) ?_)
    clear hfit
    have hp : place k vs.length = k.toNat := by unfold place; rw [if_neg hk]
    rw [hp] at hQ
    obtain ⟨j, rfl⟩ := Int.eq_ofNat_of_zero_le (by omega : 0 ≤ k)
    have hj : j < vs.length := by omega
    show wpAny _ _ ((seqItemAt D j >>= fun r => pure (r.map (j, ·))) >>= _) _ _ s
    refine wpAny_bind (wpAny_bind (wpAny_seqItemAt hl rfl (wpAny_pure ?_)))
    simp only [List.getElem?_toArray, List.getElem?_eq_getElem hj, Option.map_some]
    show wpAny _ _ (setSeqItemAt D _ v >>= _) _ _ s
    refine wpAny_bind (wpAny_setSeqItemAt hl rfl ?_)
    first
      | exact wpAny_bind (wpAny_pure (wpAny_pure ⟨.none, rfl, wpAny_pure hQ⟩))
      | exact wpAny_pure ⟨.none, rfl, wpAny_pure hQ⟩

theorem set_L {k : Int} {u : Tok} {v : Value} {Q : Unit → Shared → Prop} (F : Fr h₀ L s.heap m) (N : News h₀ L s.heap news) (U : Upd D (listOf vs.toArray c) (listOf (vs.set (place k vs.length) v).toArray c) news news') (h0 : -(vs.length : Int) ≤ k) (h1 : k < vs.length) (hfit : (vs.length : Int) < 2 ^ 63)
    (hQ : ∀ h', Fr h₀ L h' m → News h₀ L h' news' → Q () { s with heap := h' }) :
    wpAny (model prog w) A (setItem (.ref D) (.int k u) v) Q E s := by
  obtain ⟨pre, post, e1, e2, n1, n2⟩ := U.split
  subst e1 e2
  have hl := (N (D, listOf vs.toArray c) (by simp)).1
  refine set_raw hl h0 h1 hfit ?_
  have e : Obj.mapSeq (·.setIfInBounds (place k vs.length) v) (listOf vs.toArray c) = listOf (vs.set (place k vs.length) v).toArray c := by
    simp [Obj.mapSeq]
  obtain ⟨F', N'⟩ := news_upd F N n1 n2 e rfl
  exact hQ _ F' N'
end

def wrS (p : Str) : Str := Str.ofString "(?>.*?" ++ p ++ Str.ofString ")"
def wrapK (E : List Str) (k : Nat) : List Str := E.mapIdx fun i e => if 1 ≤ i ∧ i < 1 + k then wrS e else e
theorem wrapK_length (E : List Str) (k : Nat) : (wrapK E k).length = E.length := by
  unfold wrapK; simp
theorem wrapK_zero (E : List Str) : wrapK E 0 = E := by
  unfold wrapK
  apply List.ext_getElem?
  intro i
  rw [List.getElem?_mapIdx]
  cases h : E[i]? with
  | none => rfl
  | some e => simp; intro h1 h2; omega
theorem wrapK_step (E : List Str) (j : Nat) (e : Str) (he : (wrapK E j)[1 + j]? = some e) : (wrapK E j).set (1 + j) (wrS e) = wrapK E (j + 1) := by
  apply List.ext_getElem?
  intro i
  rw [List.getElem?_set]
  have hlt : 1 + j < (wrapK E j).length := by
    have := List.getElem?_eq_some_iff.mp he
    exact this.1
  unfold wrapK at he ⊢
  rw [List.getElem?_mapIdx] at he
  by_cases h : 1 + j = i
  · subst h
    rw [if_pos rfl, if_pos (by simpa [wrapK] using hlt)]
    rw [List.getElem?_mapIdx]
    cases hx : E[1 + j]? with
    | none => rw [hx] at he; cases he
    | some x => rw [hx] at he; simp at he; simp [he]
  · rw [if_neg h, List.getElem?_mapIdx, List.getElem?_mapIdx]
    cases hx : E[i]? with
    | none => rfl
    | some x =>
      simp only [Option.map_some]
      congr 1
      by_cases h1 : 1 ≤ i ∧ i < 1 + j
      · rw [if_pos h1, if_pos (by omega)]
      · rw [if_neg h1, if_neg (by omega)]

section
variable {prog : Program} {w : World} {A : Around} {E : Value → Shared → Prop} {s : Shared} {h₀ : Heap} {L D : Addr} {m : Str → Option Value} {news news' : List (Addr × Obj)} {ys : List (Str × Tok)} {c : Nat}
theorem strValues_length (ys : List (Str × Tok)) : (strValues ys).length = ys.length := by simp [strValues]
theorem len_T {Q : Value → Shared → Prop} (N : News h₀ L s.heap news) (hm : (D, listOf (strValues ys).toArray c) ∈ news) (hfit : (ys.length : Int) < 2 ^ 63)
    (h : Q (.int (ys.length : Int) (s.toks + 1)) { s with toks := s.toks + 1 + 1 }) : wpAny (model prog w) A (call (.builtin "len") [.ref D]) Q E s := kst_len N hm (strValues_length ys) hfit h
theorem sub_T {value slice : Expr} {k : Int} {u : Tok} {x : Str × Tok} {Q : Value → Shared → Prop} (N : News h₀ L s.heap news) (hm : (D, listOf (strValues ys).toArray c) ∈ news) (h0 : -(ys.length : Int) ≤ k) (h1 : k < ys.length) (hfit : (ys.length : Int) < 2 ^ 63)
    (hx : ys[place k ys.length]? = some x) (h : Q (.str x.1 x.2) s)
    (hs : subscripted slice false (.ref D) (.int k u) = operate [.ref D, .int k u] (getItem (.ref D) (.int k u)) := by with_unfolding_all rfl) :
    wpAny (model prog w) A (subscriptTail value slice (.ref D) (.int k u)) Q E s := by
  rw [← strValues_length ys] at h0 h1 hfit
  refine sub_L N hm h0 h1 hfit ?_ h hs
  rw [strValues_length]; unfold strValues; rw [List.getElem?_map, hx]; rfl
theorem set_T {k : Int} {u t : Tok} {v : Str} {Q : Unit → Shared → Prop} (F : Fr h₀ L s.heap m) (N : News h₀ L s.heap news) (U : Upd D (listOf (strValues ys).toArray c) (listOf (strValues (ys.set (place k ys.length) (v, t))).toArray c) news news') (h0 : -(ys.length : Int) ≤ k) (h1 : k < ys.length) (hfit : (ys.length : Int) < 2 ^ 63)
    (hQ : ∀ h', Fr h₀ L h' m → News h₀ L h' news' → Q () { s with heap := h' }) :
    wpAny (model prog w) A (setItem (.ref D) (.int k u) (.str v t)) Q E s := by
  have e : strValues (ys.set (place k ys.length) (v, t)) = (strValues ys).set (place k (strValues ys).length) (.str v t) := by
    rw [strValues_length]; unfold strValues; rw [List.map_set]
  rw [e] at U
  rw [← strValues_length ys] at h0 h1 hfit
  exact set_L F N U h0 h1 hfit hQ
theorem join_T {sep : Str} {t : Tok} {B : Nat} {Q : Value → Shared → Prop} (N : News h₀ L s.heap news) (hm : (D, listOf (strValues ys).toArray c) ∈ news) (hB : ∀ y ∈ ys, y.1.length ≤ B) (hsz : ys.length * B + ys.length * sep.length ≤ 16777216)
    (h : ∀ t' k, Q (.str (Str.join sep (ys.map (·.1))) t') { s with toks := k }) : wpAny (model prog w) A (call (.builtin "str.join") [.str sep t, .ref D]) Q E s := by
  refine SC.join (texts := ys.map (·.1)) ⟨_, (N _ hm).1, rfl, c, rfl⟩ rfl ?_ ?_
  · have := StrLaws.joinFits (sep := sep) (texts := ys.map (·.1)) (B := B) (fun y hy => by obtain ⟨z, hz, rfl⟩ := List.mem_map.mp hy; exact hB z hz) (by simpa using hsz)
    unfold JoinOk
    simpa using this
  · intro t' k
    have := h t' k
    rwa [← StrLaws.glued_eq_join] at this
end
end Mine
namespace Mine
def tpParts (E : List Str) : List Str := (wrapK E (E.length - 2)).set (E.length - 1) (Str.ofString ".*" ++ ((wrapK E (E.length - 2))[E.length - 1]?.getD Str.empty))
def tpS (path : Str) : Str := Str.join (Str.ofString "") (tpParts ((Txt.split path (Str.ofString "*")).map esc))
theorem tpParts_of {E : List Str} {ys : List (Str × Tok)} {z : Str × Tok} {t : Tok} {v : Str} {j : Nat} (h : ys.map (·.1) = wrapK E (E.length - 2)) (hj : j = E.length - 1) (hz : ys[j]? = some z) (hv : v = Str.ofString ".*" ++ z.1) : (ys.set j (v, t)).map (·.1) = tpParts E := by
  subst hj
  unfold tpParts
  rw [List.map_set, h]
  have : (wrapK E (E.length - 2))[E.length - 1]? = some z.1 := by rw [← h, List.getElem?_map, hz]; rfl
  rw [this, hv]; rfl
theorem ofString_star : Str.ofString "*" = ⟨#[42]⟩ := by decide +kernel
theorem split_pos {l : List (Str × Tok)} {path : Str} (h : l.map (·.1) = Txt.split path (Str.ofString "*")) : 1 ≤ l.length := by
  cases l with
  | nil => exact absurd h.symm (split_ne _ _)
  | cons a r => simp
theorem esc_len (x : Str) : (esc x).length ≤ 2 * x.length := by
  unfold esc trS
  have := tr_len specP_len x.cps.toList
  simpa [Str.length] using this
end Mine
namespace Mine
theorem set_bound {ys : List (Str × Tok)} {j B : Nat} {v : Str} {t : Tok} (h : ∀ y ∈ ys, y.1.length ≤ B) (hv : v.length ≤ B) : ∀ y ∈ ys.set j (v, t), y.1.length ≤ B := by
  intro y hy
  rcases List.mem_or_eq_of_mem_set hy with h1 | h1
  · exact h y h1
  · rw [h1]; exact hv
theorem strLen_append (x y : Str) : (x ++ y).length = x.length + y.length := by rw [length_lis, length_lis x, length_lis y, lis_append, List.length_append]
theorem empty_append (x : Str) : Str.empty ++ x = x := lis_inj (by rw [lis_append]; rfl)
theorem glen6 : (Str.ofString "(?>.*?").length = 6 := by decide +kernel
theorem glen1 : (Str.ofString ")").length = 1 := by decide +kernel
theorem glen2 : (Str.ofString ".*").length = 2 := by decide +kernel
theorem wr_len (e : Str) : (wrS e).length = e.length + 7 := by
  unfold wrS; rw [strLen_append, strLen_append, glen6, glen1]; omega
/-- one turn of the loop -/
theorem turn_of {E : List Str} {y : List (Str × Tok)} {j p : Nat} {z : Str × Tok} {v : Str} {t : Tok} (h : y.map (·.1) = wrapK E j) (hp : p = 1 + j) (hz : y[p]? = some z) (hv : v = wrS z.1) : (y.set p (v, t)).map (·.1) = wrapK E (j + 1) := by
  subst hp
  rw [List.map_set, h, hv]
  refine wrapK_step E j z.1 ?_
  rw [← h, List.getElem?_map, hz]; rfl
theorem turn_len {E : List Str} {y : List (Str × Tok)} {j p : Nat} {z : Str × Tok} {v : Str} {t : Tok} (hE : ∀ e ∈ E, e.length ≤ 193) (h : y.map (·.1) = wrapK E j) (hp : p = 1 + j) (hz : y[p]? = some z) (hv : v = wrS z.1) (hb : ∀ q ∈ y, q.1.length ≤ 200) : ∀ q ∈ y.set p (v, t), q.1.length ≤ 200 := by
  subst hp
  refine set_bound hb ?_
  rw [hv, wr_len]
  have h1 : (wrapK E j)[1 + j]? = some z.1 := by rw [← h, List.getElem?_map, hz]; rfl
  unfold wrapK at h1
  rw [List.getElem?_mapIdx] at h1
  cases hx : E[1 + j]? with
  | none => rw [hx] at h1; cases h1
  | some x =>
    rw [hx] at h1
    simp at h1
    have := hE x (List.mem_of_getElem? hx)
    rw [← h1]; omega
end Mine
end

section
open PySem.Calls
namespace Mine

def escL (l : List Nat) : List Nat := l.flatMap (trC specP)
def wrL (e : List Nat) : List Nat := [40, 63, 62, 46, 42, 63] ++ e ++ [41]
def fr : List (List Nat) → List Nat
  | [] => []
  | e :: r => e ++ r.flatMap wrL
def asm (E : List (List Nat)) : List Nat := fr E.dropLast ++ [46, 42] ++ (E.getLast?.getD [])

theorem lis_esc (x : Str) : lis (esc x) = escL (lis x) := by simp [esc, trS, lis, escL]
theorem lit6 : lis (Str.ofString "(?>.*?") = [40, 63, 62, 46, 42, 63] := by decide +kernel
theorem lit1 : lis (Str.ofString ")") = [41] := by decide +kernel
theorem lit2 : lis (Str.ofString ".*") = [46, 42] := by decide +kernel
theorem lit0 : Str.ofString "" = Str.empty := by decide +kernel
theorem lis_wrS (e : Str) : lis (wrS e) = wrL (lis e) := by
  unfold wrS wrL; rw [lis_append, lis_append, lit6, lit1]
theorem join_empty : ∀ xs : List Str, lis (Str.join Str.empty xs) = (xs.map lis).flatten
  | [] => rfl
  | [x] => by simp [Str.join]
  | x :: y :: r => by
    have ih := join_empty (y :: r)
    show lis (x ++ Str.empty ++ Str.join Str.empty (y :: r)) = _
    rw [lis_append, lis_append, ih]
    have : lis Str.empty = [] := rfl
    simp [this]
theorem wrapK_mid (e : Str) (mid : List Str) (z : Str) : wrapK (e :: (mid ++ [z])) mid.length = e :: (mid.map wrS ++ [z]) := by
  unfold wrapK
  apply List.ext_getElem?
  intro i
  rw [List.getElem?_mapIdx]
  cases i with
  | zero => rfl
  | succ i =>
    simp only [List.getElem?_cons_succ]
    by_cases h : i < mid.length
    · rw [List.getElem?_append_left h, List.getElem?_append_left (by simpa using h), List.getElem?_map, List.getElem?_eq_getElem h]
      simp only [Option.map_some]
      rw [if_pos (by omega)]
    · rw [List.getElem?_append_right (by omega), List.getElem?_append_right (by simp; omega), List.length_map]
      cases hj : i - mid.length with
      | zero => simp; intro; omega
      | succ j => simp
theorem tpParts_asm (E : List Str) (hE : E ≠ []) : ((tpParts E).map lis).flatten = asm (E.map lis) := by
  cases E with
  | nil => exact absurd rfl hE
  | cons e r =>
    rcases List.eq_nil_or_concat r with rfl | ⟨mid, z, rfl⟩
    · unfold tpParts asm
      simp [wrapK_zero, lis_append, lit2, fr]
    · rw [List.concat_eq_append]
      unfold tpParts
      have hn : (e :: (mid ++ [z])).length - 2 = mid.length := by simp
      have hn1 : (e :: (mid ++ [z])).length - 1 = mid.length + 1 := by simp
      rw [hn, hn1, wrapK_mid]
      have h1 : (e :: (mid.map wrS ++ [z]))[mid.length + 1]? = some z := by
        rw [List.getElem?_cons_succ, List.getElem?_append_right (by simp)]; simp
      rw [h1]
      have h2 : (e :: (mid.map wrS ++ [z])).set (mid.length + 1) (Str.ofString ".*" ++ z) = e :: (mid.map wrS ++ [Str.ofString ".*" ++ z]) := by
        rw [List.set_cons_succ, List.set_append_right _ _ (by simp)]; simp
      simp only [Option.getD_some]
      rw [h2]
      unfold asm
      have h3 : List.map lis (e :: (mid ++ [z])) = (lis e :: mid.map lis) ++ [lis z] := by simp
      rw [h3, List.dropLast_concat, List.getLast?_concat]
      simp only [fr, List.map_cons, List.map_append, List.map_map, List.map_nil, List.flatten_cons, List.flatten_append, List.flatten_nil, List.append_nil, lis_append, lit2, Option.getD_some, List.flatMap_map]
      have h4 : List.map (lis ∘ wrS) mid = mid.map (fun e => wrL (lis e)) := by apply List.map_congr_left; intro a _; exact lis_wrS a
      rw [h4, List.flatMap_def]
      simp
theorem tpS_asm (path : Str) : lis (tpS path) = asm ((cut 42 (lis path)).map escL) := by
  unfold tpS
  rw [lit0, join_empty, tpParts_asm _ (by intro h; exact split_ne _ _ (List.map_eq_nil_iff.mp h)), ofString_star, ← split_cut]
  congr 1
  simp only [List.map_map]
  apply List.map_congr_left
  intro x _
  exact lis_esc x

theorem cut_star (c : Nat) (l : List Nat) : cut c (l ++ [c]) = cut c l ++ [[]] := by
  induction l with
  | nil => simp [cut]
  | cons a r ih =>
    simp only [List.cons_append, cut]
    split
    · rw [ih]; rfl
    · rw [ih]
      cases h : cut c r with
      | nil => exact absurd h (cut_ne c r)
      | cons p ps => rfl
theorem cut_other (c a : Nat) (ha : a ≠ c) (l : List Nat) : cut c (l ++ [a]) = (cut c l).dropLast ++ [((cut c l).getLast?.getD []) ++ [a]] := by
  induction l with
  | nil => simp [cut, ha]
  | cons b r ih =>
    simp only [List.cons_append, cut]
    split
    · rw [ih]
      cases h : cut c r with
      | nil => exact absurd h (cut_ne c r)
      | cons p ps => simp [List.dropLast, List.getLast?_cons]
    · rw [ih]
      cases h : cut c r with
      | nil => exact absurd h (cut_ne c r)
      | cons p ps =>
        cases ps with
        | nil => simp
        | cons q qs => simp [List.getLast?_cons]
end Mine
namespace Mine
section
variable {prog : Program} {w : World} {A A₀ : Around} {E : Value → Shared → Prop} {s : Shared} {K : Frag} {L : Addr} {h₀ base : Heap} {m mg mb : Str → Option Value} {p : Program} {loose : List Str} {mean : ExcName → Option Value}
  {news : List (Addr × Obj)}
theorem use_pureS {k : Nat} {f : Addr} {vs : List Value} {y : Str} {Q : Value → Shared → Prop} {dp un : Nat} {gd : Option (List Code)} {cn : Str} {cs : Scope} {a : Addr} {ccd : Value} {cl : List (Str × Addr)} {outer : List Env}
    (P : PureFn k prog w K p loose mean mg mb f vs (fun v => ∃ t', v = .str y t'))
    (B : Below A₀ base outer h₀) (F : Fr h₀ L s.heap m) (N : News h₀ L s.heap news) (X : K.In h₀) (Tp : Top p loose mean mg mb h₀) (hck : cs.kind = .function) (hd : dp + k < recursionLimit) (hu : un + 8 * k < cLine)
    (h : ∀ t' h' tk', Fr h₀ L h' m → News h₀ L h' news → Q (.str y t') { s with heap := h', toks := tk' }) :
    wpAny (model prog w) (ktrTop dp un gd cn cs L a ccd cl outer) (call (.ref f) vs) Q E s :=
  P dp un gd cn cs a ccd cl outer A₀ base h₀ L m s Q E B F X Tp hck hd hu fun v h' tk' hv hg => by
    obtain ⟨t', rfl⟩ := hv
    exact h t' h' tk' (Fr.grow F hg) (News.grow N hg)
end
theorem tpS_empty : tpS (Str.ofString "") = Str.ofString ".*" := by
  apply lis_inj
  rw [tpS_asm, lit0, lit2]
  rfl

/-- law 06, between two turns -/
structure Inv6 (n : Nat) (p f l : Str) (s : Int) : Prop where
  len : p.length ≤ n
  fl : f.length + l.length ≤ 10 * n
  front : lis f = fr ((cut 42 (lis p)).map escL).dropLast
  last : lis l = ((cut 42 (lis p)).map escL).getLast?.getD []
  stars : s = ((cut 42 (lis p)).length : Int) - 1

/-- a mark: the walk stands still here -/
def Stop (P : Prop) : Prop := P
theorem stop {P : Prop} (h : Stop P) : P := h
theorem len_star : (Str.ofString "*").length = 1 := by decide +kernel
theorem len_none : (Str.ofString "").length = 0 := by decide +kernel
theorem len_one (c : Nat) : (⟨#[c]⟩ : Str).length = 1 := rfl
theorem lis_none : lis (Str.ofString "") = [] := by decide +kernel
theorem lis_star : lis (Str.ofString "*") = [42] := by decide +kernel
theorem inv6_start (n : Nat) : Inv6 n (Str.ofString "") (Str.ofString "") (Str.ofString "") 0 := by
  rw [lit0]
  exact ⟨Nat.zero_le _, Nat.zero_le _, rfl, rfl, rfl⟩
section
variable {n : Nat} {p f l : Str} {s : Int}
/-- what the test asks -/
theorem Inv6.told (h : Inv6 n p f l s) : tpS p = f ++ Str.ofString ".*" ++ l := by
  apply lis_inj
  rw [tpS_asm, lis_append, lis_append, h.front, h.last, lit2]
  rfl
theorem fr_concat (E : List (List Nat)) (e : List Nat) : fr (E ++ [e]) = if E = [] then e else fr E ++ wrL e := by
  cases E with
  | nil => simp [fr]
  | cons a r => simp [fr]
theorem dropLast_getLast (E : List (List Nat)) (h : E ≠ []) : E.dropLast ++ [E.getLast?.getD []] = E := by
  rcases List.eq_nil_or_concat E with rfl | ⟨r, z, rfl⟩
  · exact absurd rfl h
  · simp [List.concat_eq_append]
theorem Inv6.star0 (h : Inv6 n p f l s) (hs : s + 1 = 1) : Inv6 (n + 1) (p ++ Str.ofString "*") (f ++ l) (Str.ofString "") (s + 1) := by
  have hl := h.stars
  have h1 : (cut 42 (lis p)).length = 1 := by omega
  obtain ⟨e, he⟩ := List.length_eq_one_iff.mp h1
  have hf := h.front; have hla := h.last
  have hc : cut 42 (lis (p ++ Str.ofString "*")) = [e, []] := by rw [lis_append, lis_star, cut_star, he]; rfl
  rw [he] at hf hla
  refine ⟨?_, ?_, ?_, ?_, ?_⟩
  · rw [strLen_append, len_star]; have := h.len; omega
  · rw [strLen_append, len_none]; have := h.fl; omega
  · rw [hc, lis_append, hf, hla]; simp [fr]
  · rw [hc, lis_none]; simp [escL]
  · rw [hc, hs]; rfl
theorem Inv6.star1 (h : Inv6 n p f l s) (hs : ¬ s + 1 = 1) : Inv6 (n + 1) (p ++ Str.ofString "*") (f ++ (Str.ofString "(?>.*?" ++ l ++ Str.ofString ")")) (Str.ofString "") (s + 1) := by
  have hl := h.stars
  have hne := cut_ne 42 (lis p)
  have hf := h.front; have hla := h.last
  have hc : cut 42 (lis (p ++ Str.ofString "*")) = cut 42 (lis p) ++ [[]] := by rw [lis_append, lis_star, cut_star]
  have hE : ((cut 42 (lis p)).map escL) ≠ [] := by simpa using hne
  have h2 : ((cut 42 (lis p)).map escL).dropLast ≠ [] := by
    intro e
    have := congrArg List.length e
    rw [List.length_dropLast, List.length_map, List.length_nil] at this
    have : (cut 42 (lis p)).length ≥ 1 := by cases hh : cut 42 (lis p) with
      | nil => exact absurd hh hne
      | cons a r => simp
    omega
  refine ⟨?_, ?_, ?_, ?_, ?_⟩
  · rw [strLen_append, len_star]; have := h.len; omega
  · rw [strLen_append, strLen_append, strLen_append, glen6, glen1, len_none]; have := h.fl; omega
  · rw [hc, List.map_append, List.map_cons, List.map_nil, List.dropLast_concat, ← dropLast_getLast _ hE, fr_concat, if_neg h2, lis_append, lis_append, lis_append, lit6, lit1, hf, hla]; rfl
  · rw [hc, lis_none]; simp [escL]
  · rw [hc, hl, List.length_append]; simp
theorem Inv6.sign (h : Inv6 n p f l s) {x e : Str} {c : Nat} (hx : lis x = [c]) (hc : c ≠ 42) (he : lis e = escL [c]) : Inv6 (n + 1) (p ++ x) f (l ++ e) s := by
  have hne := cut_ne 42 (lis p)
  have hf := h.front; have hla := h.last
  have hE : ((cut 42 (lis p)).map escL) ≠ [] := by simpa using hne
  have hcut : cut 42 (lis (p ++ x)) = (cut 42 (lis p)).dropLast ++ [((cut 42 (lis p)).getLast?.getD []) ++ [c]] := by rw [lis_append, hx, cut_other 42 c hc]
  have hel : e.length ≤ 2 := by rw [length_lis, he]; unfold escL; simpa using trC_len specP_len c
  have hmap : ((cut 42 (lis p)).map escL).getLast?.getD [] = escL ((cut 42 (lis p)).getLast?.getD []) := by
    rw [List.getLast?_map]
    cases hh : (cut 42 (lis p)).getLast? with
    | none => rfl
    | some z => rfl
  refine ⟨?_, ?_, ?_, ?_, ?_⟩
  · rw [strLen_append, length_lis x, hx]; have := h.len; simp; omega
  · rw [strLen_append]; have := h.fl; omega
  · rw [hcut, List.map_append, List.map_cons, List.map_nil, List.dropLast_concat, hf, List.map_dropLast]
  · rw [hcut, List.map_append, List.map_cons, List.map_nil, List.getLast?_concat, lis_append, hla, he, hmap]; simp [escL]
  · rw [hcut, h.stars]
    have : (cut 42 (lis p)).length ≥ 1 := by cases hh : cut 42 (lis p) with
      | nil => exact absurd hh hne
      | cons a r => simp
    simp; omega
end
end Mine
namespace Mine
def meaningT : Str := Str.ofString "()[]{}?+-|^$\\.&~# \t\n\r\x0b\x0c"
def meaninglessT : Str := Str.ofString "abBdDsSwWAZzxuN09_/%=,!:"
theorem fmod_lt {x m : Int} (hm : 0 < m) : 0 ≤ x.fmod m ∧ x.fmod m < m := ⟨Int.fmod_nonneg_of_pos x hm, Int.fmod_lt_of_pos x hm⟩
theorem item_meaning {i : Int} (h : 0 ≤ i ∧ i < 23) : ∃ c, lis (Txt.item meaningT i) = [c] ∧ c ≠ 42 ∧ escL [c] = [92, c] := by
  obtain ⟨j, rfl⟩ := Int.eq_ofNat_of_zero_le h.1
  have hj : j < 23 := by omega
  have key : ∀ j : _root_.Fin 23, ∃ c ∈ specs, lis (Txt.item meaningT ((j.val : Nat) : Int)) = [c] ∧ c ≠ 42 ∧ escL [c] = [92, c] := by decide +kernel
  obtain ⟨c, _, r⟩ := key ⟨j, hj⟩
  exact ⟨c, r⟩
theorem item_meaningless {i : Int} (h : 0 ≤ i ∧ i < 24) : ∃ c, lis (Txt.item meaninglessT i) = [c] ∧ c ≠ 42 ∧ escL [c] = [c] := by
  obtain ⟨j, rfl⟩ := Int.eq_ofNat_of_zero_le h.1
  have hj : j < 24 := by omega
  have key : ∀ j : _root_.Fin 24, ∃ c ∈ lis meaninglessT, lis (Txt.item meaninglessT ((j.val : Nat) : Int)) = [c] ∧ c ≠ 42 ∧ escL [c] = [c] := by decide +kernel
  obtain ⟨c, _, r⟩ := key ⟨j, hj⟩
  exact ⟨c, r⟩
theorem lis_back : lis (Str.ofString "\\") = [92] := by decide +kernel
theorem Inv6.sign1 {n : Nat} {p f l : Str} {s x : Int} (h : Inv6 n p f l s) : Inv6 (n + 1) (p ++ Txt.item meaningT (x.fmod 23)) f (l ++ (Str.ofString "\\" ++ Txt.item meaningT (x.fmod 23))) s := by
  obtain ⟨c, h1, h2, h3⟩ := item_meaning (fmod_lt (x := x) (m := 23) (by decide))
  exact h.sign h1 h2 (by rw [lis_append, lis_back, h1, h3]; rfl)
theorem Inv6.sign2 {n : Nat} {p f l : Str} {s x : Int} (h : Inv6 n p f l s) : Inv6 (n + 1) (p ++ Txt.item meaninglessT (x.fmod 24)) f (l ++ Txt.item meaninglessT (x.fmod 24)) s := by
  obtain ⟨c, h1, h2, h3⟩ := item_meaningless (fmod_lt (x := x) (m := 24) (by decide))
  exact h.sign h1 h2 (by rw [h1, h3])
theorem inv6_one (n : Nat) : Inv6 (n + 1) (Str.ofString "*") (Str.ofString "") (Str.ofString "") 1 := by
  have := (inv6_start n).star0 rfl
  have e1 : Str.ofString "" ++ Str.ofString "*" = Str.ofString "*" := by decide +kernel
  have e2 : Str.ofString "" ++ Str.ofString "" = Str.ofString "" := by decide +kernel
  rw [e1, e2] at this
  exact this
theorem bne_of_eq {x y : Str} (h : x = y) : ¬ (x != y) = true := by subst h; simp
end Mine
namespace Mine
theorem ite_no {c : Prop} [Decidable c] {a b : Prop} (hc : ¬ c) (h : b) : if c then a else b := by rw [if_neg hc]; exact h
end Mine
end

section
open PySem.Calls
namespace Mine

/-- a way of a call's end, the heaps before and behind in hand -/
def PuRH (s : Shared) (V : Heap → Heap → Value → Prop) (r : Result) (s' : Shared) : Prop :=
  match r with | .ok (.ret v) => V s.heap s'.heap v ∧ ∃ h' tk', s' = { s with heap := h', toks := tk' } | _ => False

section
variable {prog : Program} {w : World} {A A₀ : Around} {E : Value → Shared → Prop} {s : Shared} {K : Frag} {L : Addr} {h₀ base : Heap} {m mg mb : Str → Option Value} {p : Program} {loose : List Str} {mean : ExcName → Option Value}

theorem code_pureH {env : Env} {outer : List Env} {R : Result → Shared → Prop} {name qual : Str} {params : Arguments} {body : List Stmt} {scope : Scope} {dV kV doc pm cdv ct oc : Value} {an od : Option Addr} {osl : Array (Option Value)} {f : Addr} {args : Args} {binds : List (Str × Value)}
    (V : Heap → Heap → Value → Prop) (hR : ∀ v h' tk', V s.heap h' v → Grow s.heap h' → R (.ok (.ret v)) { s with heap := h', toks := tk' })
    (B : Below A₀ base outer h₀) (F : Fr h₀ L s.heap m) (X₀ : K.In h₀) (T : Top p loose mean mg mb h₀) (hA : A.frames = some (env :: outer)) (hf : env.frame = some L) (hke : env.scope.kind = .function)
    (ho : K.lookup f = some ⟨oc, od, .func (fnOf name qual params body scope dV kV doc pm an cdv ct), osl⟩) (hcd : codeIn K cdv qual = true) (hroom : A.depth < recursionLimit)
    (hbind : BindsTo s (fnOf name qual params body scope dV kV doc pm an cdv ct) args binds) (hloc : ∀ y ∈ binds, scope.names.lookup y.1 = some .local)
    (h : ∀ L' h₁, Fr h₀ L s.heap m → Fr s.heap L' h₁ (fun y => binds.reverse.lookup y) → News s.heap L' h₁ [] → Below A base (env :: outer) s.heap → K.In s.heap → Top p loose mean mg mb s.heap →
      wpAny (model prog w) (A.deeper (envOf qual scope L' f cdv)) (execs body (envOf qual scope L' f cdv))
        (fun fl s' => LeaveK h₀ L m s.heap (PuRH s V) (match fl with | .ret v => v | _ => .none) s')
        (fun _ _ => False)
        { s with heap := h₁, toks := s.toks + binds.length })
    (hco : scope.isCoroutine = false) (hgen : scope.isGenerator = false) (hk : scope.kind = .function)
    (hcell : ∀ x ∈ scope.names, x.2 ≠ .cell) : codeAny (model prog w) A (.call (.ref f) args) R s := by
  obtain ⟨FG, BG, st, lv⟩ := groundX (R := PuRH s V) B F News.nil hA hf hke
  have X := X₀.keeps F.keep
  refine codeAny_call_def (fd := fnOf name qual params body scope dV kV doc pm an cdv ct) (body := body) (binds := binds) hroom (X _ _ ho) rfl (T.nolimit.keeps F.keep) (codeRec_of X hcd) rfl hbind hcell hloc (fun h₁ hns hk₁ => ?_) hco hgen hk
  refine wpAny_mono (h s.heap.objs.size h₁ F ⟨hns, hk₁, Nat.le_refl _⟩ News.nil BG X (T.keeps F.keep)) (fun fl s' hl => ?_) fun _ _ y => y.elim
  have hg : Grow s.heap s'.heap := by obtain ⟨_, _, _, F', _, _⟩ := hl; exact F'.keep
  obtain ⟨hv, h', tk', rfl⟩ := lv _ _ hl
  exact hR _ _ _ hv hg

/-- a def that changes nothing that stood: what it hands back, and what of it is new -/
abbrev PureFnH (n : Nat) (prog : Program) (w : World) (K : Frag) (p : Program) (loose : List Str) (mean : ExcName → Option Value) (mg mb : Str → Option Value) (f : Addr) (vs : List Value) (V : Heap → Heap → Value → Prop) : Prop :=
  ∀ (dp un : Nat) (gd : Option (List Code)) (cn : Str) (cs : Scope) (a : Addr) (ccd : Value) (cl : List (Str × Addr)) (outer : List Env) (A₀ : Around) (base h₀ : Heap) (L : Addr) (m : Str → Option Value) (s : Shared) (Q E : Value → Shared → Prop),
    Below A₀ base outer h₀ → Fr h₀ L s.heap m → K.In h₀ → Top p loose mean mg mb h₀ → cs.kind = .function → dp + n < recursionLimit → un + 8 * n < cLine →
      (∀ v h' tk', V s.heap h' v → Grow s.heap h' → Q v { s with heap := h', toks := tk' }) →
      wpAny (model prog w) (ktrTop dp un gd cn cs L a ccd cl outer) (call (.ref f) vs) Q E s

abbrev tupObj (vs : List Value) : Obj := { cls := .type "tuple", data := .seq vs.toArray }
/-- a new object -/
def New1 (o : Obj) (h h' : Heap) (v : Value) : Prop := ∃ T, v = .ref T ∧ h.get? T = none ∧ h'.get? T = some o

/-- a new pair of a text and a number -/
abbrev PairV (p : Str) (n : Int) (h h' : Heap) (v : Value) : Prop := ∃ o, (∃ t1 t2, o = tupObj [.str p t1, .int n t2]) ∧ New1 o h h' v

theorem new1_of {h h' : Heap} {L : Addr} {news : List (Addr × Obj)} {T : Addr} {o : Obj} (N : News h L h' news) (hm : (T, o) ∈ news) : New1 o h h' (.ref T) := ⟨T, rfl, (N _ hm).2.2, (N _ hm).1⟩

theorem use_pureN {k : Nat} {f : Addr} {vs : List Value} {O : Obj → Prop} {Q : Value → Shared → Prop} {dp un : Nat} {gd : Option (List Code)} {cn : Str} {cs : Scope} {a : Addr} {ccd : Value} {cl : List (Str × Addr)} {outer : List Env} {news : List (Addr × Obj)}
    (P : PureFnH k prog w K p loose mean mg mb f vs (fun h h' v => ∃ o, O o ∧ New1 o h h' v))
    (B : Below A₀ base outer h₀) (F : Fr h₀ L s.heap m) (N : News h₀ L s.heap news) (X : K.In h₀) (Tp : Top p loose mean mg mb h₀) (hck : cs.kind = .function) (hd : dp + k < recursionLimit) (hu : un + 8 * k < cLine)
    (h : ∀ T o h' tk', O o → Fr h₀ L h' m → News h₀ L h' ((T, o) :: news) → (∀ q ∈ news, q.1 ≠ T) → Q (.ref T) { s with heap := h', toks := tk' }) :
    wpAny (model prog w) (ktrTop dp un gd cn cs L a ccd cl outer) (call (.ref f) vs) Q E s :=
  P dp un gd cn cs a ccd cl outer A₀ base h₀ L m s Q E B F X Tp hck hd hu fun v h' tk' hv hg => by
    obtain ⟨o, ho, T, rfl, h1, h2⟩ := hv
    obtain ⟨oL, _, _, hL, _⟩ := F.ns
    refine h T o h' tk' ho (Fr.grow F hg) (fun q hq => ?_) (fun q hq e => ?_)
    · rcases List.mem_cons.mp hq with rfl | hq
      · refine ⟨h2, ?_, ?_⟩
        · rintro rfl; rw [hL] at h1; cases h1
        · cases q : h₀.get? T with
          | none => rfl
          | some o' => rw [F.keep _ _ q] at h1; cases h1
      · exact ⟨hg _ _ (N q hq).1, (N q hq).2⟩
    · have := (N q hq).1; rw [e, h1] at this; cases this
end
end Mine
end

section
open PySem.Calls
namespace Mine

theorem lis_getElem (x : Str) (i : Nat) : x.cps[i]? = (lis x)[i]? := by simp [lis]
theorem item_of {x : Str} {k : Int} {c : Nat} {rest : List Nat} (h0 : 0 ≤ k) (hd : (lis x).drop k.toNat = c :: rest) : Txt.item x k = ofL [c] := by
  have h1 : x.cps[k.toNat]? = some c := by
    rw [lis_getElem]
    have := congrArg List.head? hd
    rwa [List.head?_drop] at this
  unfold Txt.item Txt.charAt
  rw [StrLaws.at_nonneg h0 h1]
  rfl
theorem drop_lt {x : Str} {k : Int} {c : Nat} {rest : List Nat} (h0 : 0 ≤ k) (hd : (lis x).drop k.toNat = c :: rest) : k < x.length := by
  have := congrArg List.length hd
  rw [List.length_drop, ← length_lis] at this
  simp at this; omega

theorem sliceIdx_clip (len : Nat) {i j : Int} (hi : 0 ≤ i) (hj : 0 ≤ j) : Builtin.Str.strSliceIndices (some i) (some j) 1 len = Builtin.Str.strSliceIndices (some (min i (len : Int))) (some (min j (len : Int))) 1 len := by
  have a1 : ¬ i < 0 := by omega
  have a2 : ¬ j < 0 := by omega
  have a3 : ¬ min i (len : Int) < 0 := by omega
  have a4 : ¬ min j (len : Int) < 0 := by omega
  have e1 : min (min i (len : Int)) (len : Int) = min i (len : Int) := by omega
  have e2 : min (min j (len : Int)) (len : Int) = min j (len : Int) := by omega
  simp [Builtin.Str.strSliceIndices, a1, a2, a3, a4, e1, e2]
theorem slice_of (x : Str) {i j : Int} (hi : 0 ≤ i) (hij : i ≤ j) : Txt.slice x (some i) (some j) = ofL (((lis x).drop i.toNat).take (j - i).toNat) := by
  have e : Txt.slice x (some i) (some j) = StrLaws.sliceText x (some (min i (x.length : Int))) (some (min j (x.length : Int))) := by
    show StrLaws.sliceText x (some i) (some j) = _
    unfold StrLaws.sliceText
    rw [sliceIdx_clip x.length hi (by omega)]
  rw [e]
  have hn : ∀ a : Int, 0 ≤ a → min a (x.length : Int) = ((min a.toNat x.length : Nat) : Int) := by intro a ha; omega
  rw [hn i hi, hn j (by omega), StrLaws.sliceText_nat x (by omega) (by omega)]
  unfold ofL lis
  congr 2
  have hl : x.cps.toList.length = x.length := by simp [Str.length]
  generalize x.cps.toList = l at hl
  by_cases h1 : i.toNat ≤ x.length
  · rw [Nat.min_eq_left h1]
    by_cases h2 : j.toNat ≤ x.length
    · rw [Nat.min_eq_left h2]; congr 1; omega
    · rw [Nat.min_eq_right (by omega)]
      rw [List.take_of_length_le (by simp; omega), List.take_of_length_le (by simp; omega)]
  · rw [List.drop_of_length_le (by rw [Nat.min_eq_right (by omega)]; omega), List.drop_of_length_le (by omega)]; simp

section
variable {prog : Program} {w : World} {A : Around} {E : Value → Shared → Prop} {s : Shared} {h₀ : Heap} {L : Addr} {m : Str → Option Value} {news : List (Addr × Obj)}
theorem sub_str {value slice : Expr} {x : Str} {t u : Tok} {k : Int} {c : Nat} {rest : List Nat} {Q : Value → Shared → Prop} (h0 : 0 ≤ k) (hl : x.length < 2 ^ 60) (hd : (lis x).drop k.toNat = c :: rest)
    (h : Q (.str (ofL [c]) s.toks) { s with toks := s.toks + 1 })
    (hs : subscripted slice false (.str x t) (.int k u) = operate [.str x t, .int k u] (getItem (.str x t) (.int k u)) := by with_unfolding_all rfl)
    (ht : ∀ r, letTemporaryGo value (.str x t) r = pure () := by intro _; with_unfolding_all rfl) :
    wpAny (model prog w) A (subscriptTail value slice (.str x t) (.int k u)) Q E s := by
  have hlt := drop_lt h0 hd
  refine item_str (fitsSsize_of (N := 9223372036854775808) (by omega) (by omega) (Int.le_refl _)) (by omega) hlt (fun _ => ?_) hs ht
  rw [item_of h0 hd]; exact h
theorem slice_ss {value slice : Expr} {x : Str} {t ui uj : Tok} {i j : Int} {l : List Nat} {Q : Value → Shared → Prop} (F : Fr h₀ L s.heap m) (N : News h₀ L s.heap news) (hi : 0 ≤ i) (hij : i ≤ j) (hl : x.length ≤ sizeLine) (he : ((lis x).drop i.toNat).take (j - i).toNat = l)
    (h : ∀ h' t' k, Fr h₀ L h' m → News h₀ L h' news → Q (.str (ofL l) t') { s with heap := h', toks := k })
    (hs : subscripted slice false (.str x t) (.ref s.heap.objs.size) = operate [.ref s.heap.objs.size, .str x t] (getItem (.str x t) (.ref s.heap.objs.size)) := by with_unfolding_all rfl)
    (ht : ∀ r, letTemporaryGo value (.str x t) r = pure () := by intro _; with_unfolding_all rfl) :
    wpAny (model prog w) A (subscriptTail value slice (.str x t) (.ref s.heap.objs.size)) Q E { s with heap := s.heap.push { cls := .type "slice", data := .fields #[.int i ui, .int j uj, .none] } } := by
  refine slice_strN_ss F N (fun h' t' k F' N' => ?_) hs ht hl
  rw [slice_of x hi hij, he]; exact h h' t' k F' N'
theorem in_one {x : Str} {t u : Tok} {c : Nat} {Q : Value → Shared → Prop} (h : Q (.bool (decide (c ∈ lis x))) s) : wpAny (model prog w) A (compareOp .In (.str (ofL [c]) u) (.str x t)) Q E s := by
  refine PyProof.Rows.in_str ?_
  have := StrLaws.found_one x c
  show Q (.bool !(Builtin.Str.occurrences x ⟨#[c]⟩ 0 x.length 1).isEmpty) s
  rw [this]; exact h
end
section
variable {prog : Program} {w : World} {A : Around} {E : Value → Shared → Prop} {s : Shared}
theorem notin_one {x : Str} {t u : Tok} {c : Nat} {Q : Value → Shared → Prop} (h : Q (.bool (!decide (c ∈ lis x))) s) : wpAny (model prog w) A (compareOp .NotIn (.str (ofL [c]) u) (.str x t)) Q E s := by
  refine PyProof.Rows.notIn_str ?_
  have := StrLaws.found_one x c
  show Q (.bool (!(!(Builtin.Str.occurrences x ⟨#[c]⟩ 0 x.length 1).isEmpty))) s
  rw [this]; exact h
end
theorem lis_ofS (s : Str) (l : List Nat) (h : lis s = l) : s = ofL l := by rw [← h, ofL_lis]
theorem back_is : Str.ofString "\\" = ofL [92] := lis_ofS _ _ lis_back
theorem star_is : Str.ofString "*" = ofL [42] := lis_ofS _ _ lis_star
theorem ofL_inj {a b : List Nat} (h : ofL a = ofL b) : a = b := by rw [← lis_ofL a, h, lis_ofL]
theorem one_ne {c d : Nat} {y : Str} (hy : y = ofL [d]) (h : c ≠ d) : ¬ (ofL [c] == y) = true := by
  intro e
  have := ofL_inj ((beq_iff_eq.mp e).trans hy)
  exact h (by simpa using this)
theorem one_eq {c : Nat} {y : Str} (hy : y = ofL [c]) : (ofL [c] == y) = true := beq_iff_eq.mpr hy.symm
theorem one_none {c : Nat} : ¬ (ofL [c] == Str.ofString "") = true := by
  intro e
  have := congrArg lis (beq_iff_eq.mp e)
  rw [lis_ofL, lis_none] at this; cases this
theorem ite_yes {c : Prop} [Decidable c] {a b : Prop} (hc : c) (h : a) : if c then a else b := by rw [if_pos hc]; exact h
/-- the signs of '()[]{}?*+-|^$\\.&~# \t\n\r\x0b\x0c' -/
def specT : Str := Str.ofString "()[]{}?*+-|^$\\.&~# \t\n\r\x0b\x0c"
theorem lis_spec : lis specT = specs := by decide +kernel
theorem in_spec {c : Nat} (h : c ∈ specs) : decide (c ∈ lis (Str.ofString "()[]{}?*+-|^$\\.&~# \t\n\r\x0b\x0c")) = true := decide_eq_true (by have := lis_spec; unfold specT at this; rw [this]; exact h)
theorem out_spec {c : Nat} (h : c ∉ specs) : ¬ decide (c ∈ lis (Str.ofString "()[]{}?*+-|^$\\.&~# \t\n\r\x0b\x0c")) = true := by have := lis_spec; unfold specT at this; rw [this]; simpa using h
theorem nin_spec {c : Nat} (h : c ∈ specs) : ¬ (!decide (c ∈ lis (Str.ofString "()[]{}?*+-|^$\\.&~# \t\n\r\x0b\x0c"))) = true := by rw [in_spec h]; simp
theorem escL_cons (c : Nat) (p : List Nat) : escL (c :: p) = (if c ∈ specs then [92, c] else [c]) ++ escL p := by
  unfold escL
  rw [List.flatMap_cons]
  congr 1
  unfold trC specP
  by_cases h : c ∈ specs
  · rw [if_pos h, if_pos h]
  · rw [if_neg h, if_neg h]
theorem escL_ge : ∀ l : List Nat, l.length ≤ (escL l).length
  | [] => Nat.le_refl _
  | c :: r => by
    have ih := escL_ge r
    rw [escL_cons, List.length_append, List.length_cons]
    split
    · simp; omega
    · simp; omega
theorem escL_append (a b : List Nat) : escL (a ++ b) = escL a ++ escL b := by simp [escL]
theorem one_len (c : Nat) : (ofL [c]).length = 1 := rfl
end Mine
end

section
open PySem.Calls
namespace Mine
section
variable {prog : Program} {w : World} {A : Around} {E : Value → Shared → Prop} {s : Shared} {a b : Addr} {xs : List Value} {Q : Value → Shared → Prop}
theorem eq_none (ha : s.heap.IsList a xs.toArray) (hb : s.heap.IsList b #[]) (hu : A.units < cLine) (hx : xs = []) (h : Q (.bool true) s) : wpAny (model prog w) A (compareOp .Eq (.ref a) (.ref b)) Q E s := by
  subst hx
  exact PySem.SeqAt.RcAt.lists (e := fun _ => true) ha hb rfl hu (fun j h1 _ => absurd h1 (by simp)) prog w E Q (by simpa using h)
theorem eq_some (ha : s.heap.IsList a xs.toArray) (hb : s.heap.IsList b #[]) (hu : A.units < cLine) (hx : xs ≠ []) (h : Q (.bool false) s) : wpAny (model prog w) A (compareOp .Eq (.ref a) (.ref b)) Q E s :=
  PySem.SeqAt.RcAt.lists_lengths ha hb (by cases xs with | nil => exact absurd rfl hx | cons _ _ => simp) hu prog w E Q h
end
theorem stars_none {ys : List Value} {p : Str} (h : CarriedAll ys (List.map PyData.str (List.filter (fun a => a == Str.ofString "*") (signs p)))) (hp : 42 ∉ lis p) : ys = [] := by
  have hl := h.length_eq
  rw [List.length_map] at hl
  have : List.filter (fun a => a == Str.ofString "*") (signs p) = [] := by
    rw [List.filter_eq_nil_iff]
    intro x hx hs
    rw [beq_iff_eq, star_is] at hs
    subst hs
    unfold signs at hx
    rw [List.mem_map] at hx
    obtain ⟨n, hn, e⟩ := hx
    have : n = 42 := by
      have := congrArg lis e
      simpa [lis, ofL] using this
    subst this
    exact hp hn
  rw [this] at hl
  exact List.length_eq_zero_iff.mp hl
theorem stars_some {ys : List Value} {p : Str} (h : CarriedAll ys (List.map PyData.str (List.filter (fun a => a == Str.ofString "*") (signs p)))) (hp : 42 ∈ lis p) : ys ≠ [] := by
  intro e
  have hl := h.length_eq
  rw [e, List.length_map] at hl
  have hn := List.length_eq_zero_iff.mp hl.symm
  rw [List.filter_eq_nil_iff] at hn
  exact hn (ofL [42]) (by unfold signs; rw [List.mem_map]; exact ⟨42, hp, rfl⟩) (by rw [beq_iff_eq, star_is])

def midL (ms : List (List Nat)) : List Nat := ms.flatMap fun p => wrL (escL p)
def starL (ms : List (List Nat)) : List Nat := ms.flatMap fun p => 42 :: p
theorem cut_no (c : Nat) (l : List Nat) (h : c ∉ l) : cut c l = [l] := by
  have := cut_append c l [] h
  simpa [cut] using this
theorem cut_yes : ∀ l : List Nat, 42 ∈ l → ∃ p0 mids last, cut 42 l = p0 :: (mids ++ [last]) ∧ l = p0 ++ starL mids ++ 42 :: last ∧ 42 ∉ p0 ∧ (∀ p ∈ mids, 42 ∉ p) ∧ 42 ∉ last
  | [], h => nomatch h
  | a :: r, h => by
    by_cases ha : a = 42
    · subst ha
      by_cases hr : 42 ∈ r
      · obtain ⟨q0, ms, la, e1, e2, h0, hm, hl⟩ := cut_yes r hr
        refine ⟨[], q0 :: ms, la, ?_, ?_, by simp, ?_, hl⟩
        · simp [cut, e1]
        · simp only [starL, List.flatMap_cons, List.nil_append, List.cons_append] at e2 ⊢
          rw [e2]
        · intro p hp
          rcases List.mem_cons.mp hp with rfl | hp
          · exact h0
          · exact hm p hp
      · refine ⟨[], [], r, ?_, by simp [starL], by simp, by simp, hr⟩
        simp [cut, cut_no 42 r hr]
    · have hr : 42 ∈ r := by
        rcases List.mem_cons.mp h with e | e
        · exact absurd e.symm ha
        · exact e
      obtain ⟨q0, ms, la, e1, e2, h0, hm, hl⟩ := cut_yes r hr
      refine ⟨a :: q0, ms, la, ?_, ?_, ?_, hm, hl⟩
      · simp [cut, ha, e1]
      · rw [List.cons_append, List.cons_append, ← e2]
      · intro hc
        rcases List.mem_cons.mp hc with e | e
        · exact ha e.symm
        · exact h0 e
theorem escL_le : ∀ l : List Nat, (escL l).length ≤ 2 * l.length
  | [] => by simp [escL]
  | c :: p => by
    have ih := escL_le p
    rw [escL_cons, List.length_append, List.length_cons]
    split <;> simp <;> omega
theorem midL_le : ∀ ms : List (List Nat), (midL ms).length ≤ 7 * (starL ms).length
  | [] => by simp [midL, starL]
  | p :: r => by
    have ih := midL_le r
    have he := escL_le p
    simp only [midL, starL, List.flatMap_cons, List.length_append, List.length_cons, wrL, List.length_nil] at ih ⊢
    omega
theorem tpS_yes {p : Str} (h : 42 ∈ lis p) : ∃ p0 mids last, lis (tpS p) = escL p0 ++ (midL mids ++ (46 :: 42 :: escL last)) ∧ p = ofL (p0 ++ starL mids ++ 42 :: last) ∧ 42 ∉ p0 ∧ (∀ p ∈ mids, 42 ∉ p) ∧ 42 ∉ last ∧ (tpS p).length ≤ 7 * p.length + 2 := by
  obtain ⟨p0, mids, last, e1, e2, h0, hm, hl⟩ := cut_yes (lis p) h
  have e : lis (tpS p) = escL p0 ++ (midL mids ++ (46 :: 42 :: escL last)) := by
    rw [tpS_asm, e1]
    unfold asm
    rw [List.map_cons, List.map_append, List.map_cons, List.map_nil, ← List.cons_append, List.dropLast_concat, List.getLast?_concat]
    simp [fr, midL, List.flatMap_map]
  refine ⟨p0, mids, last, e, by rw [← e2, ofL_lis], h0, hm, hl, ?_⟩
  have a1 := escL_le p0
  have a2 := midL_le mids
  have a3 := escL_le last
  have b1 := congrArg List.length e
  have b2 := congrArg List.length e2
  rw [← length_lis] at b1 b2
  simp only [List.length_append, List.length_cons] at b1 b2
  omega
theorem tpS_no {p : Str} (h : 42 ∉ lis p) : lis (tpS p) = escL [] ++ (midL [] ++ (46 :: 42 :: escL (lis p))) ∧ (Str.ofString "*" ++ p) = ofL ([] ++ starL [] ++ 42 :: lis p) ∧ (tpS p).length ≤ 7 * p.length + 2 := by
  have e : lis (tpS p) = escL [] ++ (midL [] ++ (46 :: 42 :: escL (lis p))) := by
    rw [tpS_asm, cut_no 42 _ h]
    simp [asm, fr, midL, escL]
  refine ⟨e, ?_, ?_⟩
  · apply lis_inj
    rw [lis_append, lis_star, lis_ofL]; rfl
  · have a3 := escL_le (lis p)
    have b1 := congrArg List.length e
    rw [← length_lis] at b1 a3
    simp only [List.length_append, List.length_cons, escL, midL, List.flatMap_nil, List.length_nil] at b1
    have : (List.flatMap (trC specP) (lis p)) = escL (lis p) := rfl
    rw [this] at b1
    omega
theorem itemLen (m : Str) (i : Int) (h : 0 ≤ i ∧ i < m.length) : (Txt.item m i).length = 1 := by
  have h2 := length_lis m
  have hlt : i.toNat < (lis m).length := by omega
  obtain ⟨c, rest, e⟩ : ∃ c rest, (lis m).drop i.toNat = c :: rest := ⟨_, _, List.drop_eq_getElem_cons hlt⟩
  rw [item_of h.1 e]; rfl
theorem len_meaning : meaningT.length = 23 := by decide +kernel
theorem len_meaningless : meaninglessT.length = 24 := by decide +kernel
theorem in_meaning (x : Int) : 0 ≤ x.fmod 23 ∧ x.fmod 23 < (Str.ofString "()[]{}?+-|^$\\.&~# \t\n\r\x0b\x0c").length := by
  have := len_meaning
  unfold meaningT at this
  rw [this]; exact fmod_lt (by decide)
theorem in_meaningless (x : Int) : 0 ≤ x.fmod 24 ∧ x.fmod 24 < (Str.ofString "abBdDsSwWAZzxuN09_/%=,!:").length := by
  have := len_meaningless
  unfold meaninglessT at this
  rw [this]; exact fmod_lt (by decide)
end Mine
end

section
open PySem.Calls
namespace Mine
def GrowEnd (h₀ : Heap) (L : Addr) (J : (Str → Option Value) → List (Addr × Obj) → Prop) (own : List (Addr × Obj)) (s₁ s₂ : Shared) : Prop :=
  ∃ h' tk m' news' nx, s₂ = { s₁ with heap := h', toks := tk } ∧ Fr h₀ L h' m' ∧ News h₀ L h' news' ∧ (∀ p ∈ nx, p ∈ news') ∧ (∀ p ∈ own, p ∈ news') ∧ OwnOff own (nx.map (·.1)) ∧ J m' nx
def GrowPost (h₀ : Heap) (L : Addr) (J : (Str → Option Value) → List (Addr × Obj) → Prop) (own : List (Addr × Obj)) (s₁ : Shared) (Q : Flow → Shared → Prop) (f : Flow) (s₂ : Shared) : Prop :=
  match f with
  | .ret v => Q (.ret v) s₂
  | .brk => Q .next s₂
  | _ => GrowEnd h₀ L J own s₁ s₂
section
variable {prog : Program} {w : World} {A : Around} {E : Value → Shared → Prop} {s : Shared} {env : Env} {h₀ : Heap} {x : Str} {body : List Stmt} {Q : Flow → Shared → Prop}
theorem iter_grow {l : Addr} {vs : List Value} {ns : List Int} {m₀ : Str → Option Value} {news : List (Addr × Obj)} (J : Nat → (Str → Option Value) → List (Addr × Obj) → Prop)
    (hh : A.handled = none) (hl : h₀.IsList l vs.toArray) (hi : IntsAre vs ns) (F : Fr h₀ env.locals s.heap m₀) (N : News h₀ env.locals s.heap news) (hj : J 0 m₀ news)
    (turn : ∀ i n t m₁ news₁ h tk own, ns[i]? = some n → OwnOff own (news₁.map (·.1)) → J i m₁ news₁ → Fr h₀ env.locals h (fun y => if y = x then some (.int n t) else m₁ y) → News h₀ env.locals h (news₁ ++ own) →
      wpAny (model prog w) A (execs body env) (GrowPost h₀ env.locals (J (i + 1)) own { s with heap := h, toks := tk } Q) E { s with heap := h, toks := tk })
    (done : ∀ m₁ news₁ h tk, J ns.length m₁ news₁ → Fr h₀ env.locals h m₁ → News h₀ env.locals h news₁ → Q .next { s with heap := h, toks := tk }) :
    wpAny (model prog w) A (pyIter (.ref l)) (fun it s₂ => LoopAtV prog w A h₀ env x body Q E it s₂) E s := by
  have hls : s.heap.IsList l vs.toArray := hl.at fun o e => F.keep l o e
  obtain ⟨ol, hol, _⟩ := id hl
  have hlt : l < h₀.objs.size := Heap.lt_size hol
  have hne : l ≠ s.heap.objs.size := Nat.ne_of_lt (Nat.lt_trans (Nat.lt_of_lt_of_le hlt F.above) F.ns.lt)
  refine wpAny_pyIter_list hls ?_
  have W := Walks.list (prog := prog) (w := w) hh s.heap.objs.size l hne vs.toArray
  have hlen : vs.toArray.size = ns.length := by simp [hi.length]
  rw [hlen] at W
  have hI₀ : h₀.get? s.heap.objs.size = none := next_is_new F
  refine ⟨_, _, _, ns.length, _, _, m₀, news, J, rfl, W, ?_, ?_, ?_, ⟨⟨_, Heap.get?_push_size _ rfl, rfl, rfl⟩, hls.at fun o e => Heap.get?_push_of_some _ e⟩, F.push _, (fun p hp => ⟨Heap.get?_push_of_some _ (N p hp).1, (N p hp).2⟩), hj, ?_, ?_⟩
  · intro hm
    rcases List.mem_cons.mp hm with e | hm
    · exact absurd F.ns.lt (e ▸ Nat.lt_irrefl _)
    · exact absurd (Nat.lt_of_lt_of_le hlt F.above) ((List.mem_singleton.mp hm) ▸ Nat.lt_irrefl _)
  · intro b hb
    rw [List.mem_singleton.mp hb]
    exact hI₀
  · intro p hp hI
    exact absurd (Heap.lt_size (N p hp).1) ((List.mem_singleton.mp hI) ▸ Nat.lt_irrefl _)
  · rintro i v m₁ news₁ s₁ own ⟨hh', tk', rfl⟩ hin hP hJ hoff hown _ hfull hst F₁ N₁
    have hsep : OwnOff own (news₁.map (·.1)) := by
      intro p hp b hb e
      obtain ⟨q, hq, rfl⟩ := List.mem_map.mp hb
      rcases List.mem_cons.mp (hown p hp) with h1 | h1
      · exact hoff q hq (List.mem_singleton.mpr (by rw [← e, h1]))
      · have h2 := List.mem_singleton.mp h1
        have h3 := (N₁ p (List.mem_append.mpr (.inl hp))).2.2
        rw [h2, hol] at h3
        cases h3
    have hlt' : i < ns.length := hin
    obtain ⟨t, hx⟩ := hi.get i ns[i] (by simp [hlt'])
    have hv : v = .int ns[i] t := by
      have hP' : vs[i]? = some v := by simpa using hP
      rw [hx] at hP'; exact (Option.some.inj hP').symm
    subst hv
    have N₂ : News h₀ env.locals hh' (news₁ ++ own) := fun p hp => N₁ p ((List.mem_append.mp hp).elim (fun h => List.mem_append.mpr (.inr h)) fun h => List.mem_append.mpr (.inl h))
    obtain ⟨oI, heI, _⟩ := hst.1
    have hIown := hfull s.heap.objs.size (List.mem_cons_self ..) hI₀ oI heI
    refine wpAny_mono (turn i ns[i] t m₁ news₁ hh' tk' own (by simp [hlt']) hsep hJ F₁ N₂) (fun f s₂ p => ?_) fun _ _ e => e
    have fin : GrowEnd h₀ env.locals (J (i + 1)) own { s with heap := hh', toks := tk' } s₂ → LoopStepU h₀ env.locals [s.heap.objs.size] own (J (i + 1)) { s with heap := hh', toks := tk' } .next s₂ := by
      rintro ⟨h', tk, m', news', nx, e, F', N', hn, ho, ha, hm⟩
      refine ⟨rfl, h', tk, m', nx, e, F', fun p hp => N' p ((List.mem_append.mp hp).elim (ho p) (hn p)), fun p hp hq => ?_, hm⟩
      exact ha _ hIown p.1 (List.mem_map.mpr ⟨p, hp, rfl⟩) (List.mem_singleton.mp hq).symm
    cases f with
    | ret v => exact .ret p
    | brk => exact .brk p
    | next => exact .next (fin p)
    | cont => exact .cont (fin p)
  · rintro h' tk m' news' F' N' _ hJ
    exact done m' news' h' tk hJ F' N'

theorem grow_list {σ : Type} {l : Addr} {vs : List Value} {ns : List Int} {m₀ : Str → Option Value} (Led : σ → List (Addr × Obj)) (ps : σ → List (Str × Value)) (Facts : σ → Prop) (stored : List Str) (P : List Int → σ → Prop) (c₀ : σ)
    (hh : A.handled = none) (hl : h₀.IsList l vs.toArray) (hi : IntsAre vs ns) (F : Fr h₀ env.locals s.heap m₀) (N : News h₀ env.locals s.heap (Led c₀)) (hf : Facts c₀) (hk : ∀ p ∈ ps c₀, m₀ p.1 = some p.2) (hp : P [] c₀)
    (turn : ∀ (c : σ) pre post n t (u : Str → Option Value) h tk own, ns = pre ++ n :: post → n ∈ ns → OwnOff own ((Led c).map (·.1)) → Facts c → P pre c →
      Fr h₀ env.locals h (fun y => if y = x then some (.int n t) else kstB (fun z => if stored.contains z then u z else m₀ z) (ps c) y) → News h₀ env.locals h (Led c ++ own) →
      wpAny (model prog w) A (execs body env) (GrowPost h₀ env.locals (KstS Led ps Facts x stored m₀ P (pre ++ [n])) own { s with heap := h, toks := tk } Q) E { s with heap := h, toks := tk })
    (done : ∀ (c : σ) (u : Str → Option Value) h tk, Facts c → P ns c → Fr h₀ env.locals h (fun y => if y = x then u y else kstB (fun z => if stored.contains z then u z else m₀ z) (ps c) y) → News h₀ env.locals h (Led c) → Q .next { s with heap := h, toks := tk }) :
    wpAny (model prog w) A (pyIter (.ref l)) (fun it s₂ => LoopAtV prog w A h₀ env x body Q E it s₂) E s := by
  refine iter_grow (fun i m nx => KstS Led ps Facts x stored m₀ P (ns.take i) m nx) hh hl hi F N ⟨c₀, rfl, hf, hk, fun _ _ _ _ => rfl, by simpa using hp⟩ ?_ ?_
  · rintro i n t m₁ nx h tk own hn hoff ⟨c, rfl, hf', h1, h2, hp'⟩ F₁ N₁
    have hs : ns.take (i + 1) = ns.take i ++ [n] := by simp [List.take_add_one, hn]
    have e : ns = ns.take i ++ n :: ns.drop (i + 1) := by
      have ht := List.take_append_drop (i + 1) ns
      rw [hs, List.append_assoc] at ht
      exact ht.symm
    rw [hs]
    exact turn c _ _ n t m₁ h tk own e (List.mem_of_getElem? hn) hoff hf' hp' (kst_fr h1 h2 F₁) N₁
  · rintro m₁ nx h tk ⟨c, rfl, hf', h1, h2, hp'⟩ F₁ N₁
    rw [List.take_length] at hp'
    exact done c m₁ h tk hf' hp' (kst_frOut h1 h2 F₁) N₁
theorem grow_end {σ : Type} {Led : σ → List (Addr × Obj)} {ps : σ → List (Str × Value)} {Facts : σ → Prop} {stored : List Str} {m₀ : Str → Option Value} {P : List Int → σ → Prop} {pre : List Int} (c : σ) {L : Addr} {m' : Str → Option Value} {own news' : List (Addr × Obj)} {s₁ : Shared} {h' : Heap} {tk : Nat}
    (F : Fr h₀ L h' m') (N : News h₀ L h' news') (hn : ∀ p ∈ Led c, p ∈ news') (ho : ∀ p ∈ own, p ∈ news') (ha : OwnOff own ((Led c).map (·.1))) (hf : Facts c) (hk : ∀ p ∈ ps c, m' p.1 = some p.2) (hr : ∀ z, z ≠ x → (∀ p ∈ ps c, z ≠ p.1) → stored.contains z = false → m' z = m₀ z) (hp : P pre c) :
    GrowEnd h₀ L (KstS Led ps Facts x stored m₀ P pre) own s₁ { s₁ with heap := h', toks := tk } :=
  ⟨h', tk, m', news', Led c, rfl, F, N, hn, ho, ha, c, rfl, hf, hk, hr, hp⟩
theorem iter_none {D : Addr} {c : Nat} {m₀ : Str → Option Value} {news : List (Addr × Obj)} (hh : A.handled = none) (F : Fr h₀ env.locals s.heap m₀) (N : News h₀ env.locals s.heap news) (hm : (D, listOf #[] c) ∈ news)
    (done : ∀ h tk, Fr h₀ env.locals h m₀ → News h₀ env.locals h news → Q .next { s with heap := h, toks := tk }) :
    wpAny (model prog w) A (pyIter (.ref D)) (fun it s₂ => LoopAtV prog w A h₀ env x body Q E it s₂) E s := by
  have hls : s.heap.IsList D #[] := ⟨_, (N _ hm).1, rfl, c, rfl⟩
  obtain ⟨ol, hol, _⟩ := id hls
  have hlt : D < s.heap.objs.size := Heap.lt_size hol
  have hne : D ≠ s.heap.objs.size := Nat.ne_of_lt hlt
  refine wpAny_pyIter_list hls ?_
  have W := Walks.list (prog := prog) (w := w) hh s.heap.objs.size D hne #[]
  have hI₀ : h₀.get? s.heap.objs.size = none := next_is_new F
  refine ⟨_, _, _, _, _, _, m₀, news, fun _ m n => m = m₀ ∧ n = news, rfl, W, ?_, ?_, ?_, ⟨⟨_, Heap.get?_push_size _ rfl, rfl, rfl⟩, hls.at fun o e => Heap.get?_push_of_some _ e⟩, F.push _, (fun p hp => ⟨Heap.get?_push_of_some _ (N p hp).1, (N p hp).2⟩), ⟨rfl, rfl⟩, ?_, ?_⟩
  · intro hm'
    rcases List.mem_cons.mp hm' with e | hm'
    · exact absurd F.ns.lt (e ▸ Nat.lt_irrefl _)
    · exact (N _ hm).2.1 (List.mem_singleton.mp hm').symm
  · intro b hb
    rw [List.mem_singleton.mp hb]
    exact hI₀
  · intro p hp hI
    exact absurd (Heap.lt_size (N p hp).1) ((List.mem_singleton.mp hI) ▸ Nat.lt_irrefl _)
  · rintro i v m₁ news₁ s₁ own _ hin
    exact absurd hin (Nat.not_lt_zero _)
  · rintro h' tk m' news' F' N' _ ⟨rfl, rfl⟩
    exact done h' tk F' N'
end
end Mine
end

section
open PySem.Calls
namespace Mine
/-- a way of a call's end: cells that were read stand as they were -/
def PuRC (s : Shared) (cells : List (Addr × Obj)) (V : Value → Prop) (r : Result) (s' : Shared) : Prop :=
  match r with | .ok (.ret v) => V v ∧ (∃ h' tk', s' = { s with heap := h', toks := tk' }) ∧ ∀ q ∈ cells, s'.heap.get? q.1 = some q.2 | _ => False

section
variable {prog : Program} {w : World} {A A₀ : Around} {E : Value → Shared → Prop} {s : Shared} {K : Frag} {L : Addr} {h₀ base : Heap} {m mg mb : Str → Option Value} {p : Program} {loose : List Str} {mean : ExcName → Option Value}

theorem code_pureC {env : Env} {outer : List Env} {R : Result → Shared → Prop} {name qual : Str} {params : Arguments} {body : List Stmt} {scope : Scope} {dV kV doc pm cdv ct oc : Value} {an od : Option Addr} {osl : Array (Option Value)} {f : Addr} {args : Args} {binds : List (Str × Value)} {cells : List (Addr × Obj)}
    (V : Value → Prop) (hR : ∀ v h' tk', V v → Grow s.heap h' → R (.ok (.ret v)) { s with heap := h', toks := tk' })
    (B : Below A₀ base outer h₀) (F : Fr h₀ L s.heap m) (N : News h₀ L s.heap cells) (X₀ : K.In h₀) (T : Top p loose mean mg mb h₀) (hA : A.frames = some (env :: outer)) (hf : env.frame = some L) (hke : env.scope.kind = .function)
    (ho : K.lookup f = some ⟨oc, od, .func (fnOf name qual params body scope dV kV doc pm an cdv ct), osl⟩) (hcd : codeIn K cdv qual = true) (hroom : A.depth < recursionLimit)
    (hbind : BindsTo s (fnOf name qual params body scope dV kV doc pm an cdv ct) args binds) (hloc : ∀ y ∈ binds, scope.names.lookup y.1 = some .local)
    (h : ∀ g L' h₁, Fr h₀ L g m → Fr g L' h₁ (fun y => binds.reverse.lookup y) → News g L' h₁ cells → Below A base (env :: outer) g → K.In g → Top p loose mean mg mb g →
      wpAny (model prog w) (A.deeper (envOf qual scope L' f cdv)) (execs body (envOf qual scope L' f cdv))
        (fun fl s' => LeaveK h₀ L m g (PuRC s cells V) (match fl with | .ret v => v | _ => .none) s')
        (fun _ _ => False)
        { s with heap := h₁, toks := s.toks + binds.length })
    (hco : scope.isCoroutine = false) (hgen : scope.isGenerator = false) (hk : scope.kind = .function)
    (hcell : ∀ x ∈ scope.names, x.2 ≠ .cell) : codeAny (model prog w) A (.call (.ref f) args) R s := by
  obtain ⟨FG, BG, st, lv⟩ := groundX (R := PuRC s cells V) B F N hA hf hke
  have X := X₀.keeps F.keep
  refine codeAny_call_def (fd := fnOf name qual params body scope dV kV doc pm an cdv ct) (body := body) (binds := binds) hroom (X _ _ ho) rfl (T.nolimit.keeps F.keep) (codeRec_of X hcd) rfl hbind hcell hloc (fun h₁ hns hk₁ => ?_) hco hgen hk
  refine wpAny_mono (h (hideAll s.heap (cells.map (fun q : Addr × Obj => q.1))) s.heap.objs.size h₁ FG ⟨hns, fun b o e => hk₁ b o (of_hideAll _ e), Nat.le_of_eq (hideAll_size _ _)⟩ (fun q hq => ⟨hk₁ _ _ (N q hq).1, Nat.ne_of_lt (Heap.lt_size (N q hq).1), hideAll_none _ (List.mem_map_of_mem hq)⟩) BG (X₀.keeps st) (T.keeps st)) (fun fl s' hl => ?_) fun _ _ y => y.elim
  have hg : ∀ b o, b ∉ cells.map (·.1) → s.heap.get? b = some o → s'.heap.get? b = some o := by
    obtain ⟨_, _, _, F', _, _⟩ := hl
    exact fun b o hb e => F'.keep b o (hideAll_get _ e hb)
  obtain ⟨hv, ⟨h', tk', rfl⟩, hc⟩ := lv _ _ hl
  refine hR _ _ _ hv fun b o e => ?_
  by_cases hb : b ∈ cells.map (·.1)
  · obtain ⟨q, hq, rfl⟩ := List.mem_map.mp hb
    have e' := (N q hq).1
    rw [e] at e'
    cases e'
    exact hc q hq
  · exact hg b o hb e

/-- a def that reads cells and changes nothing that stood -/
abbrev PureFnC (n : Nat) (prog : Program) (w : World) (K : Frag) (p : Program) (loose : List Str) (mean : ExcName → Option Value) (mg mb : Str → Option Value) (f : Addr) (vs : List Value) (cells : List (Addr × Obj)) (V : Value → Prop) : Prop :=
  ∀ (dp un : Nat) (gd : Option (List Code)) (cn : Str) (cs : Scope) (a : Addr) (ccd : Value) (cl : List (Str × Addr)) (outer : List Env) (A₀ : Around) (base h₀ : Heap) (L : Addr) (m : Str → Option Value) (s : Shared) (Q E : Value → Shared → Prop),
    Below A₀ base outer h₀ → Fr h₀ L s.heap m → News h₀ L s.heap cells → K.In h₀ → Top p loose mean mg mb h₀ → cs.kind = .function → dp + n < recursionLimit → un + 8 * n < cLine →
      (∀ v h' tk', V v → Grow s.heap h' → Q v { s with heap := h', toks := tk' }) →
      wpAny (model prog w) (ktrTop dp un gd cn cs L a ccd cl outer) (call (.ref f) vs) Q E s

theorem use_pureC {k : Nat} {f : Addr} {vs : List Value} {v : Value} {Q : Value → Shared → Prop} {dp un : Nat} {gd : Option (List Code)} {cn : Str} {cs : Scope} {a : Addr} {ccd : Value} {cl : List (Str × Addr)} {outer : List Env} {news cells : List (Addr × Obj)}
    (P : PureFnC k prog w K p loose mean mg mb f vs cells (fun x => x = v))
    (B : Below A₀ base outer h₀) (F : Fr h₀ L s.heap m) (N : News h₀ L s.heap news) (X : K.In h₀) (Tp : Top p loose mean mg mb h₀) (hck : cs.kind = .function) (hd : dp + k < recursionLimit) (hu : un + 8 * k < cLine) (hc : ∀ q ∈ cells, q ∈ news)
    (h : ∀ h' tk', Fr h₀ L h' m → News h₀ L h' news → Q v { s with heap := h', toks := tk' }) :
    wpAny (model prog w) (ktrTop dp un gd cn cs L a ccd cl outer) (call (.ref f) vs) Q E s :=
  P dp un gd cn cs a ccd cl outer A₀ base h₀ L m s Q E B F (fun q hq => N q (hc q hq)) X Tp hck hd hu fun v' h' tk' hv hg => by
    subst hv
    exact h h' tk' (Fr.grow F hg) (News.grow N hg)

/-- the same, called by the law itself -/
abbrev LawFnC (prog : Program) (w : World) (K : Frag) (p : Program) (loose : List Str) (mean : ExcName → Option Value) (mg mb : Str → Option Value) (f : Addr) (vs : List Value) (cells : List (Addr × Obj)) (V : Value → Prop) : Prop :=
  ∀ (cn : Str) (cs : Scope) (a : Addr) (ccd : Value) (base h₀ : Heap) (L : Addr) (m : Str → Option Value) (s : Shared) (Q E : Value → Shared → Prop),
    Below callerA base [] h₀ → Fr h₀ L s.heap m → News h₀ L s.heap cells → K.In h₀ → Top p loose mean mg mb h₀ → cs.kind = .function →
      (∀ v h' tk', V v → Grow s.heap h' → Q v { s with heap := h', toks := tk' }) →
      wpAny (model prog w) (callerA.deeper (envOf cn cs L a ccd)) (call (.ref f) vs) Q E s

theorem use_lawC {f : Addr} {vs : List Value} {v : Value} {Q : Value → Shared → Prop} {cn : Str} {cs : Scope} {a : Addr} {ccd : Value} {news cells : List (Addr × Obj)}
    (P : LawFnC prog w K p loose mean mg mb f vs cells (fun x => x = v))
    (B : Below callerA base [] h₀) (F : Fr h₀ L s.heap m) (N : News h₀ L s.heap news) (X : K.In h₀) (Tp : Top p loose mean mg mb h₀) (hck : cs.kind = .function) (hc : ∀ q ∈ cells, q ∈ news)
    (h : ∀ h' tk', Fr h₀ L h' m → News h₀ L h' news → Q v { s with heap := h', toks := tk' }) :
    wpAny (model prog w) (callerA.deeper (envOf cn cs L a ccd)) (call (.ref f) vs) Q E s :=
  P cn cs a ccd base h₀ L m s Q E B F (fun q hq => N q (hc q hq)) X Tp hck fun v' h' tk' hv hg => by
    subst hv
    exact h h' tk' (Fr.grow F hg) (News.grow N hg)
end
end Mine
end

section
open PySem.Calls
namespace Mine
/-- the dict of a record -/
def entD (q : Params) (t1 t2 t3 t4 : Tok) (u r : Addr) (dl rt : Value) : Obj :=
  dictOf [⟨PyData.keyHash q (Str.ofString "useragents"), .str (Str.ofString "useragents") t1, .ref u⟩, ⟨PyData.keyHash q (Str.ofString "rulelines"), .str (Str.ofString "rulelines") t2, .ref r⟩,
    ⟨PyData.keyHash q (Str.ofString "delay"), .str (Str.ofString "delay") t3, dl⟩, ⟨PyData.keyHash q (Str.ofString "req_rate"), .str (Str.ofString "req_rate") t4, rt⟩] 4
section
variable {prog : Program} {w : World} {A : Around} {E : Value → Shared → Prop} {s : Shared} {a b : Addr} {xs : List Value} {Q : Value → Shared → Prop}
theorem ne_none (ha : s.heap.IsList a xs.toArray) (hb : s.heap.IsList b #[]) (hu : A.units < cLine) (hx : xs = []) (h : Q (.bool false) s) : wpAny (model prog w) A (compareOp .NotEq (.ref a) (.ref b)) Q E s := by
  subst hx
  exact PySem.SeqAt.RcNeAt.lists (e := fun _ => true) ha hb rfl hu (fun j h1 _ => absurd h1 (by simp)) prog w E Q (by simpa using h)
end

/-- a record with the book kept of it -/
structure Ent where
  (x d u r b bu br : Addr) (t1 t2 t3 t4 : Tok) (ag rl bag brl : List (Str × Tok)) (nu nr nb nbu nbr : Nat) (dl rt bdl brt : Value)
def Ent.cells (q : Params) (e : Ent) : List (Addr × Obj) :=
  [(e.x, instObj 52 e.d), (e.d, entD q e.t1 e.t2 e.t3 e.t4 e.u e.r e.dl e.rt), (e.u, listOf (strValues e.ag).toArray e.nu), (e.r, listOf (strValues e.rl).toArray e.nr),
   (e.b, listOf [.ref e.bu, .ref e.br, e.bdl, e.brt].toArray e.nb), (e.bu, listOf (strValues e.bag).toArray e.nbu), (e.br, listOf (strValues e.brl).toArray e.nbr)]
def Ent.adr (e : Ent) : List Addr := [e.x, e.d, e.u, e.r, e.b, e.bu, e.br]
theorem Ent.cells_adr (q : Params) (e : Ent) : (e.cells q).map (·.1) = e.adr := rfl

def led (q : Params) (B O R A : Addr) (oR oA : Obj) (c : List Ent × Nat × Nat) : List (Addr × Obj) :=
  (B, listOf (c.1.map fun e => Value.ref e.b).toArray c.2.1) :: (O, listOf (c.1.map fun e => Value.ref e.x).toArray c.2.2) :: (R, oR) :: (A, oA) :: c.1.flatMap (Ent.cells q)
def adrs (B O R A : Addr) (es : List Ent) : List Addr := B :: O :: R :: A :: es.flatMap Ent.adr
theorem led_adr (q : Params) (B O R A : Addr) (oR oA : Obj) (c : List Ent × Nat × Nat) : (led q B O R A oR oA c).map (·.1) = adrs B O R A c.1 := by
  unfold led adrs
  simp only [List.map_cons, List.map_flatMap]
  rfl
theorem mem_adr {q : Params} {es : List Ent} {p : Addr × Obj} (h : p ∈ es.flatMap (Ent.cells q)) : p.1 ∈ es.flatMap Ent.adr := by
  obtain ⟨e, he, hp⟩ := List.mem_flatMap.mp h
  exact List.mem_flatMap.mpr ⟨e, he, by rw [← Ent.cells_adr q]; exact List.mem_map_of_mem hp⟩

theorem led_put {q : Params} {B O R A : Addr} {oR oA : Obj} {pre post : List Ent} {e e' : Ent} {n1 n2 : Nat} {own : List (Addr × Obj)} {D : Addr} {o' : Obj}
    (hnd : (adrs B O R A (pre ++ e :: post)).Nodup) (hoff : OwnOff own (adrs B O R A (pre ++ e :: post))) (hD : D ∈ e.adr) (hx : e'.x = e.x) (hb : e'.b = e.b)
    (hc : ∀ p ∈ e'.cells q, p = (D, o') ∨ (p ∈ e.cells q ∧ p.1 ≠ D)) :
    ∀ p ∈ led q B O R A oR oA (pre ++ e' :: post, n1, n2) ++ own, p = (D, o') ∨ (p ∈ led q B O R A oR oA (pre ++ e :: post, n1, n2) ++ own ∧ p.1 ≠ D) := by
  have hDa : D ∈ (pre ++ e :: post).flatMap Ent.adr := List.mem_flatMap.mpr ⟨e, by simp, hD⟩
  have hn := hnd
  simp only [adrs, List.nodup_cons] at hn
  obtain ⟨hB, hO, hR, hA, hF⟩ := hn
  have off1 : ∀ a, a ∉ (pre ++ e :: post).flatMap Ent.adr → a ≠ D := fun a h1 h2 => h1 (h2 ▸ hDa)
  have hB' : B ≠ D := off1 B fun h => hB (by simp only [List.mem_cons]; exact .inr (.inr (.inr h)))
  have hO' : O ≠ D := off1 O fun h => hO (by simp only [List.mem_cons]; exact .inr (.inr h))
  have hR' : R ≠ D := off1 R fun h => hR (by simp only [List.mem_cons]; exact .inr h)
  have hA' : A ≠ D := off1 A hA
  rw [List.flatMap_append, List.flatMap_cons, List.nodup_append] at hF
  obtain ⟨_, hF2, hF3⟩ := hF
  rw [List.nodup_append] at hF2
  intro p hp
  rcases List.mem_append.mp hp with hp | hp
  · unfold led at hp
    simp only [List.mem_cons, List.flatMap_append, List.flatMap_cons, List.mem_append, List.map_append, List.map_cons, hx, hb] at hp
    have big : ∀ z, z ∈ (pre ++ e :: post).flatMap (Ent.cells q) → z.1 ≠ D → z = (D, o') ∨ (z ∈ led q B O R A oR oA (pre ++ e :: post, n1, n2) ++ own ∧ z.1 ≠ D) := fun z h1 h2 =>
      .inr ⟨List.mem_append.mpr (.inl (by unfold led; simp only [List.mem_cons]; exact .inr (.inr (.inr (.inr h1))))), h2⟩
    have two : ∀ z, z ∈ led q B O R A oR oA (pre ++ e :: post, n1, n2) → z.1 ≠ D → z = (D, o') ∨ (z ∈ led q B O R A oR oA (pre ++ e :: post, n1, n2) ++ own ∧ z.1 ≠ D) := fun z h1 h2 => .inr ⟨List.mem_append.mpr (.inl h1), h2⟩
    rcases hp with rfl | rfl | rfl | rfl | hp | hp | hp
    · exact two _ (by unfold led; simp) hB'
    · exact two _ (by unfold led; simp) hO'
    · exact two _ (by unfold led; simp) hR'
    · exact two _ (by unfold led; simp) hA'
    · refine big p (by simp only [List.flatMap_append, List.mem_append]; exact .inl hp) fun h => ?_
      exact hF3 p.1 (mem_adr hp) D (List.mem_append.mpr (.inl hD)) h
    · rcases hc p hp with h | ⟨h1, h2⟩
      · exact .inl h
      · exact big p (by simp only [List.flatMap_append, List.flatMap_cons, List.mem_append]; exact .inr (.inl h1)) h2
    · refine big p (by simp only [List.flatMap_append, List.flatMap_cons, List.mem_append]; exact .inr (.inr hp)) fun h => ?_
      exact hF2.2.2 D hD p.1 (mem_adr hp) h.symm
  · refine .inr ⟨List.mem_append.mpr (.inr hp), ?_⟩
    exact hoff p hp D (by unfold adrs; simp only [List.mem_cons]; exact .inr (.inr (.inr (.inr hDa))))

theorem adrs0 {A R O B : Nat} (h1 : A < R) (h2 : R < O) (h3 : O < B) : (adrs B O R A []).Nodup := by
  unfold adrs
  simp only [List.flatMap_nil, List.nodup_cons, List.mem_cons, List.not_mem_nil, not_false_eq_true, or_false, not_or, List.nodup_nil, and_true]
  refine ⟨⟨?_, ?_, ?_⟩, ⟨?_, ?_⟩, ?_⟩ <;> exact Nat.ne_of_gt (by omega)
theorem adrs_new {A R O B : Addr} {es : List Ent} {e : Ent} (h : (adrs B O R A es).Nodup) (he : e.adr.Nodup) (hb : ∀ z ∈ e.adr, ∀ a ∈ adrs B O R A es, @LT.lt Nat _ a z) : (adrs B O R A (es ++ [e])).Nodup := by
  have e1 : adrs B O R A (es ++ [e]) = adrs B O R A es ++ e.adr := by simp [adrs]
  rw [e1, List.nodup_append]
  exact ⟨h, he, fun a ha b hb' => Nat.ne_of_lt (hb b hb' a ha)⟩
theorem led_new {q : Params} {B O R A : Addr} {oR oA : Obj} {es : List Ent} {e : Ent} {n1 n2 : Nat} :
    led q B O R A oR oA (es ++ [e], n1, n2) = (B, listOf (es.map (fun e : Ent => Value.ref e.b) ++ [Value.ref e.b]).toArray n1) :: (O, listOf (es.map (fun e : Ent => Value.ref e.x) ++ [Value.ref e.x]).toArray n2) :: (R, oR) :: (A, oA) :: (es.flatMap (Ent.cells q) ++ e.cells q) := by
  simp [led]
theorem off_tail {q : Params} {B O R A : Addr} {es : List Ent} {own : List (Addr × Obj)} (hnd : (adrs B O R A es).Nodup) (hoff : OwnOff own (adrs B O R A es)) : OwnOff (es.flatMap (Ent.cells q) ++ own) [B, O, R, A] := by
  have hn := hnd
  simp only [adrs, List.nodup_cons] at hn
  obtain ⟨hB, hO, hR, hA, hF⟩ := hn
  intro p hp b hb
  rcases List.mem_append.mp hp with hp | hp
  · have h1 := mem_adr hp
    simp only [List.mem_cons, List.not_mem_nil, or_false] at hb
    rintro rfl
    rcases hb with rfl | rfl | rfl | rfl
    · exact hB (by simp only [List.mem_cons]; exact .inr (.inr (.inr h1)))
    · exact hO (by simp only [List.mem_cons]; exact .inr (.inr h1))
    · exact hR (by simp only [List.mem_cons]; exact .inr h1)
    · exact hA h1
  · refine hoff p hp b ?_
    simp only [List.mem_cons, List.not_mem_nil, or_false] at hb
    unfold adrs
    simp only [List.mem_cons]
    rcases hb with h | h | h | h
    · exact .inl h
    · exact .inr (.inl h)
    · exact .inr (.inr (.inl h))
    · exact .inr (.inr (.inr (.inl h)))
/-- the rest of a ledger, one address left out -/
def rest (D : Addr) (l : List (Addr × Obj)) : List (Addr × Obj) := l.filter fun p => decide (p.1 ≠ D)
theorem rest_off {D : Addr} {l : List (Addr × Obj)} : OwnOff (rest D l) [D] := fun p hp b hb => by
  rw [List.mem_singleton.mp hb]
  simpa using (List.mem_filter.mp hp).2
theorem rest_sub {D : Addr} {l : List (Addr × Obj)} : ∀ p ∈ rest D l, p ∈ l := fun p hp => (List.mem_filter.mp hp).1
theorem rest_mem {D : Addr} {l : List (Addr × Obj)} {p : Addr × Obj} (h : p ∈ l) (hn : p.1 ≠ D) : p ∈ rest D l := List.mem_filter.mpr ⟨h, by simpa using hn⟩
theorem split_place {α : Type} {l : List α} {i : Nat} (h : i < l.length) : ∃ pre x post, l = pre ++ x :: post ∧ pre.length = i :=
  ⟨l.take i, l[i], l.drop (i + 1), by rw [← List.drop_eq_getElem_cons h, List.take_append_drop], by rw [List.length_take]; omega⟩
theorem place_at {α β : Type} (f : α → β) (pre : List α) (x : α) (post : List α) : ((pre ++ x :: post).map f)[pre.length]? = some (f x) := by simp

theorem allLt_mem {d : Addr} : ∀ {l : List (Addr × Obj)}, AllLt d l → ∀ p ∈ l, @LT.lt Nat _ p.1 d
  | _ :: _, h, p, hp => by
    rcases List.mem_cons.mp hp with rfl | hp
    · exact h.1
    · exact allLt_mem h.2 p hp
  | [], _, _, hp => nomatch hp

section
variable {q : Params} {B O R A : Addr} {oR oA : Obj} {h₀ h : Heap} {L : Addr} {own : List (Addr × Obj)} {es : List Ent} {nB nO : Nat}
theorem open_put {news : List (Addr × Obj)} {p1 p2 : List Ent} {e : Ent} (N : News h₀ L h news) (hl : ∀ p ∈ led q B O R A oR oA (p1 ++ e :: p2, nB, nO) ++ own, p ∈ news)
    (D : Addr) (front : List (Addr × Obj)) (hf : ∀ p ∈ front, p ∈ e.cells q) :
    News h₀ L h (front ++ (O, listOf ((p1 ++ e :: p2).map fun e : Ent => Value.ref e.x).toArray nO) :: (B, listOf ((p1 ++ e :: p2).map fun e : Ent => Value.ref e.b).toArray nB) :: (R, oR) :: (A, oA) :: rest D (led q B O R A oR oA (p1 ++ e :: p2, nB, nO) ++ own)) := by
  intro p hp
  have two : ∀ z, z ∈ led q B O R A oR oA (p1 ++ e :: p2, nB, nO) → z ∈ news := fun z hz => hl z (List.mem_append.mpr (.inl hz))
  refine N p ?_
  rcases List.mem_append.mp hp with hp | hp
  · refine two p ?_
    unfold led
    simp only [List.mem_cons, List.flatMap_append, List.flatMap_cons, List.mem_append]
    exact .inr (.inr (.inr (.inr (.inr (.inl (hf p hp))))))
  · simp only [List.mem_cons] at hp
    rcases hp with rfl | rfl | rfl | rfl | hp
    · exact two _ (by unfold led; simp)
    · exact two _ (by unfold led; simp)
    · exact two _ (by unfold led; simp)
    · exact two _ (by unfold led; simp)
    · exact hl p (rest_sub p hp)
theorem close_put {news l0 l1 : List (Addr × Obj)} {D : Addr} {o' : Obj} (N : News h₀ L h news) (h1 : (D, o') ∈ news) (h2 : ∀ p ∈ rest D l0, p ∈ news) (hp : ∀ p ∈ l1, p = (D, o') ∨ (p ∈ l0 ∧ p.1 ≠ D)) : ∀ p ∈ l1, p ∈ news :=
  fun p h => by
    rcases hp p h with rfl | ⟨a, b⟩
    · exact h1
    · exact h2 p (rest_mem a b)
theorem open_at {news : List (Addr × Obj)} {p1 p2 : List Ent} {e : Ent} (N : News h₀ L h news) (hl : ∀ p ∈ led q B O R A oR oA (p1 ++ e :: p2, nB, nO) ++ own, p ∈ news)
    (D : Addr) (front : List (Addr × Obj)) (hf : ∀ p ∈ front, p ∈ e.cells q) :
    ∃ T, News h₀ L h (front ++ (O, listOf ((p1 ++ e :: p2).map fun e : Ent => Value.ref e.x).toArray nO) :: (B, listOf ((p1 ++ e :: p2).map fun e : Ent => Value.ref e.b).toArray nB) :: (R, oR) :: (A, oA) :: T) ∧ OwnOff T [D] ∧
      ∀ (h' : Heap) (news' l1 : List (Addr × Obj)) (o' : Obj), News h₀ L h' news' → (D, o') ∈ news' → (∀ p ∈ T, p ∈ news') → (∀ p ∈ l1, p = (D, o') ∨ (p ∈ led q B O R A oR oA (p1 ++ e :: p2, nB, nO) ++ own ∧ p.1 ≠ D)) → ∀ p ∈ l1, p ∈ news' :=
  ⟨_, open_put N hl D front hf, rest_off, fun _ news' l1 o' _ h1 h2 hp p h => by
    rcases hp p h with rfl | ⟨a, b⟩
    · exact h1
    · exact h2 p (rest_mem a b)⟩
/-- the addresses of one record are apart from each other and from the others -/
theorem ent_apart {p1 p2 : List Ent} {e : Ent} (h : (adrs B O R A (p1 ++ e :: p2)).Nodup) : e.adr.Nodup ∧ ∀ D ∈ e.adr, O ≠ D ∧ B ≠ D ∧ R ≠ D ∧ A ≠ D := by
  simp only [adrs, List.nodup_cons] at h
  obtain ⟨hB, hO, hR, hA, hF⟩ := h
  have hF' := hF
  rw [List.flatMap_append, List.flatMap_cons, List.nodup_append] at hF
  obtain ⟨_, hF2, _⟩ := hF
  rw [List.nodup_append] at hF2
  refine ⟨hF2.1, fun D hD => ?_⟩
  have hDa : D ∈ (p1 ++ e :: p2).flatMap Ent.adr := List.mem_flatMap.mpr ⟨e, by simp, hD⟩
  refine ⟨?_, ?_, ?_, ?_⟩
  · rintro rfl; exact hO (by simp only [List.mem_cons]; exact .inr (.inr hDa))
  · rintro rfl; exact hB (by simp only [List.mem_cons]; exact .inr (.inr (.inr hDa)))
  · rintro rfl; exact hR (by simp only [List.mem_cons]; exact .inr hDa)
  · rintro rfl; exact hA hDa
theorem adrs_same {p1 p2 : List Ent} {e e' : Ent} (h : e'.adr = e.adr) : adrs B O R A (p1 ++ e' :: p2) = adrs B O R A (p1 ++ e :: p2) := by
  simp [adrs, h]
/-- what is put into a record -/
def Ent.u1 (e : Ent) (v : Str × Tok) : Ent := { e with ag := e.ag ++ [v], nu := e.nu + 1 }
def Ent.u2 (e : Ent) (v : Str × Tok) : Ent := { e with bag := e.bag ++ [v], nbu := e.nbu + 1 }
def Ent.r1 (e : Ent) (v : Str × Tok) : Ent := { e with rl := e.rl ++ [v], nr := e.nr + 1 }
def Ent.r2 (e : Ent) (v : Str × Tok) : Ent := { e with brl := e.brl ++ [v], nbr := e.nbr + 1 }
def Ent.d1 (e : Ent) (v : Value) : Ent := { e with dl := v }
def Ent.d2 (e : Ent) (v : Value) (k : Nat) : Ent := { e with bdl := v, nb := k }
def Ent.q1 (e : Ent) (v : Value) : Ent := { e with rt := v }
def Ent.q2 (e : Ent) (v : Value) (k : Nat) : Ent := { e with brt := v, nb := k }
theorem push_texts (ys : List (Str × Tok)) (v : Str × Tok) : (strValues ys).toArray.push (.str v.1 v.2) = (strValues (ys ++ [v])).toArray := by simp [strValues]

local macro_rules | `(tactic| walk_at "ent_cells") => `(tactic| (
  intro hn
  simp only [Ent.adr, List.nodup_cons, List.mem_cons, List.not_mem_nil, or_false, not_or, not_false_eq_true, List.nodup_nil, and_true] at hn
  obtain ⟨⟨a1, a2, a3, a4, a5, a6⟩, ⟨b2, b3, b4, b5, b6⟩, ⟨c3, c4, c5, c6⟩, ⟨d4, d5, d6⟩, ⟨e5, e6⟩, f6⟩ := hn
  intro p hp
  simp only [Ent.cells, Ent.u1, Ent.u2, Ent.r1, Ent.r2, Ent.d1, Ent.d2, Ent.q1, Ent.q2, List.mem_cons, List.not_mem_nil, or_false] at hp ⊢
  rcases hp with hp | hp | hp | hp | hp | hp | hp <;> subst hp <;> first | exact .inl rfl | (refine .inr ⟨by simp, ?_⟩; first | assumption | exact Ne.symm (by assumption))))
theorem put_u1 {e : Ent} {v : Str × Tok} (hn : e.adr.Nodup) : ∀ p ∈ (e.u1 v).cells q, p = (e.u, listOf (strValues (e.ag ++ [v])).toArray (e.nu + 1)) ∨ (p ∈ e.cells q ∧ p.1 ≠ e.u) := by revert hn; walk_at "ent_cells"
theorem put_u2 {e : Ent} {v : Str × Tok} (hn : e.adr.Nodup) : ∀ p ∈ (e.u2 v).cells q, p = (e.bu, listOf (strValues (e.bag ++ [v])).toArray (e.nbu + 1)) ∨ (p ∈ e.cells q ∧ p.1 ≠ e.bu) := by revert hn; walk_at "ent_cells"
theorem put_r1 {e : Ent} {v : Str × Tok} (hn : e.adr.Nodup) : ∀ p ∈ (e.r1 v).cells q, p = (e.r, listOf (strValues (e.rl ++ [v])).toArray (e.nr + 1)) ∨ (p ∈ e.cells q ∧ p.1 ≠ e.r) := by revert hn; walk_at "ent_cells"
theorem put_r2 {e : Ent} {v : Str × Tok} (hn : e.adr.Nodup) : ∀ p ∈ (e.r2 v).cells q, p = (e.br, listOf (strValues (e.brl ++ [v])).toArray (e.nbr + 1)) ∨ (p ∈ e.cells q ∧ p.1 ≠ e.br) := by revert hn; walk_at "ent_cells"
theorem put_d1 {e : Ent} {v : Value} (hn : e.adr.Nodup) : ∀ p ∈ (e.d1 v).cells q, p = (e.d, entD q e.t1 e.t2 e.t3 e.t4 e.u e.r v e.rt) ∨ (p ∈ e.cells q ∧ p.1 ≠ e.d) := by revert hn; walk_at "ent_cells"
theorem put_q1 {e : Ent} {v : Value} (hn : e.adr.Nodup) : ∀ p ∈ (e.q1 v).cells q, p = (e.d, entD q e.t1 e.t2 e.t3 e.t4 e.u e.r e.dl v) ∨ (p ∈ e.cells q ∧ p.1 ≠ e.d) := by revert hn; walk_at "ent_cells"
theorem put_d2 {e : Ent} {v : Value} {k : Nat} (hn : e.adr.Nodup) : ∀ p ∈ (e.d2 v k).cells q, p = (e.b, listOf [.ref e.bu, .ref e.br, v, e.brt].toArray k) ∨ (p ∈ e.cells q ∧ p.1 ≠ e.b) := by revert hn; walk_at "ent_cells"
theorem put_q2 {e : Ent} {v : Value} {k : Nat} (hn : e.adr.Nodup) : ∀ p ∈ (e.q2 v k).cells q, p = (e.b, listOf [.ref e.bu, .ref e.br, e.bdl, v].toArray k) ∨ (p ∈ e.cells q ∧ p.1 ≠ e.b) := by revert hn; walk_at "ent_cells"

theorem new_all {g1 g2 g3 g4 z : Addr × Obj} {b bu br r u x d : Addr} {t1 t2 t3 t4 : Tok} {T : List (Addr × Obj)} {h' : Heap}
    (hnd : (adrs B O R A es).Nodup) (hoff : OwnOff own (adrs B O R A es)) (hT : es.flatMap (Ent.cells q) ++ own = T)
    (N : News h₀ L h' (g1 :: g2 :: g3 :: g4 :: (b, listOf #[.ref bu, .ref br, .none, .none] 0) :: (br, listOf #[] 0) :: (bu, listOf #[] 0) :: (r, listOf #[] 0) :: (u, listOf #[] 0) :: (x, instObj 52 d) :: (d, entD q t1 t2 t3 t4 u r .none .none) :: z ::
      (B, listOf ((es.map fun e : Ent => Value.ref e.b).toArray.push (.ref b)) (nB + 1)) :: (O, listOf ((es.map fun e : Ent => Value.ref e.x).toArray.push (.ref x)) (nO + 1)) :: (R, oR) :: (A, oA) :: T))
    (o1 : @LT.lt Nat _ d x) (o2 : @LT.lt Nat _ x u) (o3 : @LT.lt Nat _ u r) (o4 : @LT.lt Nat _ r bu) (o5 : @LT.lt Nat _ bu br) (o6 : @LT.lt Nat _ br b) (oT : AllLt d T) (oB : @LT.lt Nat _ B d) (oO : @LT.lt Nat _ O d) (oR' : @LT.lt Nat _ R d) (oA' : @LT.lt Nat _ A d) :
    ∃ e : Ent, e = ⟨x, d, u, r, b, bu, br, t1, t2, t3, t4, [], [], [], [], 0, 0, 0, 0, 0, .none, .none, .none, .none⟩ ∧ (adrs B O R A (es ++ [e])).Nodup ∧ OwnOff own (adrs B O R A (es ++ [e])) ∧
      ∀ p ∈ led q B O R A oR oA (es ++ [e], nB + 1, nO + 1), p ∈ g1 :: g2 :: g3 :: g4 :: (b, listOf #[.ref bu, .ref br, .none, .none] 0) :: (br, listOf #[] 0) :: (bu, listOf #[] 0) :: (r, listOf #[] 0) :: (u, listOf #[] 0) :: (x, instObj 52 d) :: (d, entD q t1 t2 t3 t4 u r .none .none) :: z ::
      (B, listOf ((es.map fun e : Ent => Value.ref e.b).toArray.push (.ref b)) (nB + 1)) :: (O, listOf ((es.map fun e : Ent => Value.ref e.x).toArray.push (.ref x)) (nO + 1)) :: (R, oR) :: (A, oA) :: T := by
  subst hT
  have oT' := allLt_mem oT
  have up : ∀ a ∈ adrs B O R A es, @LT.lt Nat _ a d := by
    intro a ha
    simp only [adrs, List.mem_cons] at ha
    rcases ha with rfl | rfl | rfl | rfl | ha
    · exact oB
    · exact oO
    · exact oR'
    · exact oA'
    · obtain ⟨e, he, ha⟩ := List.mem_flatMap.mp ha
      rw [← Ent.cells_adr q] at ha
      obtain ⟨p, hp, rfl⟩ := List.mem_map.mp ha
      exact oT' p (List.mem_append.mpr (.inl (List.mem_flatMap.mpr ⟨e, he, hp⟩)))
  refine ⟨_, rfl, ?_, ?_, ?_⟩
  · refine adrs_new hnd ?_ ?_
    · simp only [Ent.adr, List.nodup_cons, List.mem_cons, List.not_mem_nil, or_false, not_or, not_false_eq_true, List.nodup_nil, and_true]
      refine ⟨⟨?_, ?_, ?_, ?_, ?_, ?_⟩, ⟨?_, ?_, ?_, ?_, ?_⟩, ⟨?_, ?_, ?_, ?_⟩, ⟨?_, ?_, ?_⟩, ⟨?_, ?_⟩, ?_⟩ <;> first | exact Nat.ne_of_lt (by omega) | exact Nat.ne_of_gt (by omega)
    · intro z hz a ha
      have h1 := up a ha
      simp only [Ent.adr, List.mem_cons, List.not_mem_nil, or_false] at hz
      rcases hz with rfl | rfl | rfl | rfl | rfl | rfl | rfl <;> first | exact h1 | (refine Nat.lt_trans h1 ?_; omega)
  · intro p hp a ha
    have e1 : adrs B O R A (es ++ [(⟨x, d, u, r, b, bu, br, t1, t2, t3, t4, [], [], [], [], 0, 0, 0, 0, 0, .none, .none, .none, .none⟩ : Ent)]) = adrs B O R A es ++ [x, d, u, r, b, bu, br] := by simp [adrs, Ent.adr]
    rw [e1] at ha
    rcases List.mem_append.mp ha with ha | ha
    · exact hoff p hp a ha
    · have h1 := oT' p (List.mem_append.mpr (.inr hp))
      simp only [List.mem_cons, List.not_mem_nil, or_false] at ha
      rcases ha with rfl | rfl | rfl | rfl | rfl | rfl | rfl <;> first | exact Nat.ne_of_lt h1 | (refine Nat.ne_of_lt (Nat.lt_trans h1 ?_); omega)
  · rw [led_new]
    intro p hp
    simp only [List.push_toArray]
    simp only [List.mem_cons, List.mem_append] at hp ⊢
    rcases hp with rfl | rfl | rfl | rfl | hp | hp
    · simp
    · simp
    · simp
    · simp
    · simp only [hp, true_or, or_true]
    · simp only [Ent.cells, List.mem_cons, List.not_mem_nil, or_false] at hp
      rcases hp with rfl | rfl | rfl | rfl | rfl | rfl | rfl <;> simp [strValues]
end

def Vi (v : Value) : Prop := v = .none ∨ ∃ (x : Int) (t : Tok), v = .int x t
/-- a record holds what its book says, and no more than k of each -/
def Ok (k : Nat) (e : Ent) : Prop := (Vi e.dl ∧ Vi e.rt) ∧ e.bag = e.ag ∧ e.brl = e.rl ∧ e.bdl = e.dl ∧ e.brt = e.rt ∧ e.ag.length ≤ k ∧ e.rl.length ≤ k
theorem Ok.up {k : Nat} {e : Ent} (h : Ok k e) : Ok (k + 1) e := ⟨h.1, h.2.1, h.2.2.1, h.2.2.2.1, h.2.2.2.2.1, Nat.le_succ_of_le h.2.2.2.2.2.1, Nat.le_succ_of_le h.2.2.2.2.2.2⟩
theorem ok_put {k : Nat} {p1 p2 : List Ent} {e e' : Ent} (h : ∀ x ∈ p1 ++ e :: p2, Ok k x) (h' : Ok (k + 1) e') : ∀ x ∈ p1 ++ e' :: p2, Ok (k + 1) x := by
  intro x hx
  rcases List.mem_append.mp hx with hx | hx
  · exact (h x (List.mem_append.mpr (.inl hx))).up
  · rcases List.mem_cons.mp hx with rfl | hx
    · exact h'
    · exact (h x (List.mem_append.mpr (.inr (.tail _ hx)))).up
theorem ok_new {k : Nat} {es : List Ent} {e' : Ent} (h : ∀ x ∈ es, Ok k x) (h' : Ok (k + 1) e') : ∀ x ∈ es ++ [e'], Ok (k + 1) x := by
  intro x hx
  rcases List.mem_append.mp hx with hx | hx
  · exact (h x hx).up
  · rw [List.mem_singleton.mp hx]; exact h'
section
variable {prog : Program} {w : World} {A : Around} {E : Value → Shared → Prop} {s : Shared} {h₀ : Heap} {L D : Addr} {news : List (Addr × Obj)}
theorem sub_three {value slice : Expr} {k : Int} {u : Tok} {s0 s1 s2 : Str} {t0 t1 t2 : Tok} {c : Nat} {Q : Value → Shared → Prop} (N : News h₀ L s.heap news) (hm : (D, listOf #[.str s0 t0, .str s1 t1, .str s2 t2] c) ∈ news) (h0 : 0 ≤ k) (h1 : k < 3)
    (h : ∀ v : Str × Tok, [(s0, t0), (s1, t1), (s2, t2)][k.toNat]? = some v → Q (.str v.1 v.2) s)
    (hs : subscripted slice false (.ref D) (.int k u) = operate [.ref D, .int k u] (getItem (.ref D) (.int k u)) := by with_unfolding_all rfl) :
    wpAny (model prog w) A (subscriptTail value slice (.ref D) (.int k u)) Q E s := by
  have hlt : k.toNat < [(s0, t0), (s1, t1), (s2, t2)].length := by simp only [List.length_cons, List.length_nil]; omega
  refine sub_T (ys := [(s0, t0), (s1, t1), (s2, t2)]) (c := c) (x := [(s0, t0), (s1, t1), (s2, t2)][k.toNat]) N hm (by simp only [List.length_cons, List.length_nil]; omega) (by simp only [List.length_cons, List.length_nil]; omega) (by simp) ?_ (h _ (List.getElem?_eq_getElem hlt)) hs
  unfold place
  rw [if_neg (by omega)]
  exact List.getElem?_eq_getElem hlt
end
theorem fr_tok {h₀ h : Heap} {L : Addr} {m : Str → Option Value} {y : Str} {X : Int} {t : Tok} (_F : Fr h₀ L h m) (_e : m y = some (.int X t)) : ∃ t', t' = t := ⟨_, rfl⟩
end Mine
end

section
open PySem.Calls
namespace Mine
theorem allObj_mono : ∀ {ws : List (Addr × String)} {k k' : List (Addr × Obj) → Prop}, AllObj ws k → (∀ its, k its → k' its) → AllObj ws k'
  | [], _, _, h, f => f [] h
  | w :: _, _, _, h, f => fun o ho => allObj_mono (h o ho) (fun its => f ((w.1, o) :: its))
section
variable {prog : Program} {w : World} {A : Around} {E : Value → Shared → Prop} {s : Shared} {h₀ : Heap} {env : Env} {Q : Flow → Shared → Prop}
theorem zip_items {target : Expr} {body : List Stmt} {ws : List (Addr × String)} {keep : List (Addr × Obj)} (es : List Ent) (M : (Str → Option Value) → Str → Option Value) (Led : List Ent → Nat → List (Addr × Obj))
    (turn : ∀ (done : List Ent) (e : Ent) (post : List Ent) (u : Str → Option Value) (k : Nat) (T : Addr) (h : Heap) (tk : Nat), es = done ++ e :: post → IsTup h T #[.ref e.x, .ref e.b] → Fr h₀ env.locals h (M u) → AllObj ws (fun its => News h₀ env.locals h (its ++ Led done k) →
      wpAny (model prog w) A (assign target env (.ref T)) (fun _ s₂ => wpAny (model prog w) A (execs body env) (UnrPostW h₀ env.locals { s with heap := h, toks := tk } its (fun m' n' => SubL keep n' ∧ ∃ u' k', m' = M u' ∧ n' = Led (done ++ [e]) k') Q) E s₂) E { s with heap := h, toks := tk }))
    (fin : ∀ (u : Str → Option Value) (k : Nat) (h : Heap) (tk : Nat), Fr h₀ env.locals h (M u) → News h₀ env.locals h (Led es k) → Q .next { s with heap := h, toks := tk }) :
    ∀ (todo done : List Ent) (u : Str → Option Value) (k : Nat), es = done ++ todo → ItemsRest prog w A E h₀ env target body Q s ws keep (zipItems (todo.map fun e : Ent => Value.ref e.x) (todo.map fun e : Ent => Value.ref e.b)) (M u) (Led done k)
  | [], done, u, k, he => by
    rw [List.append_nil] at he
    subst he
    exact ItemsRest.zero fun h tk F N => fin u k h tk F N
  | e :: todo, done, u, k, he => by
    refine ItemsRest.pair (fun T t h tk hT F => ?_)
    refine allObj_mono (turn done e todo u k T h tk he hT F) (fun its hk N => ?_)
    refine wpAny_mono (hk N) (fun _ s₂ h2 => wpAny_mono h2 (fun f s₃ h3 => ?_) fun _ _ x => x) fun _ _ x => x
    have up : UnrEndW h₀ env.locals { s with heap := h, toks := tk } its (fun m' n' => SubL keep n' ∧ ∃ u' k', m' = M u' ∧ n' = Led (done ++ [e]) k') s₃ →
        UnrEndW h₀ env.locals { s with heap := h, toks := tk } its (fun m' n' => SubL keep n' ∧ ItemsRest prog w A E h₀ env target body Q s ws keep (zipItems (todo.map fun e : Ent => Value.ref e.x) (todo.map fun e : Ent => Value.ref e.b)) m' n') s₃ := by
      rintro ⟨h', tk', m', news', e', F', N', off, hs, u', k', rfl, rfl⟩
      exact ⟨h', tk', _, _, e', F', N', off, hs, zip_items es M Led turn fin todo (done ++ [e]) u' k' (by rw [he]; simp)⟩
    cases f with
    | ret v => exact h3
    | brk => exact h3
    | next => exact up h3
    | cont => exact up h3
end

def zl (es : List Ent) : List Value := es.flatMap fun e => [Value.ref e.u, Value.ref e.r]
theorem eq_texts {A : Around} {s : Shared} {a b : Addr} {xs : Array Value} (ha : s.heap.IsList a xs) (hb : s.heap.IsList b xs) (hne : a ≠ b) (hu : A.units < cLine) : PySem.SeqAt.EqAt A s (.ref a) (.ref b) true := by
  refine PySem.SeqAt.EqAt.of_refs hne ?_
  have := PySem.SeqAt.RcAt.lists (A := A) (e := fun _ => true) ha hb rfl hu (fun j h1 _ => PySem.SeqAt.EqAt.same _)
  have e : (List.range xs.size).all (fun _ => true) = true := by simp
  rw [e] at this
  exact this
section
variable {prog : Program} {w : World} {A : Around} {E : Value → Shared → Prop} {s : Shared}
theorem ne_book {a b u bu r br : Addr} {xs ys : Array Value} {dl rt : Value} {Q : Value → Shared → Prop} (ha : s.heap.IsList a #[.ref u, .ref r, dl, rt]) (hb : s.heap.IsList b #[.ref bu, .ref br, dl, rt])
    (h1 : s.heap.IsList u xs) (h2 : s.heap.IsList bu xs) (h3 : s.heap.IsList r ys) (h4 : s.heap.IsList br ys) (n1 : u ≠ bu) (n2 : r ≠ br) (hu : A.units < cLine) (hu1 : A.in1.units < cLine)
    (h : Q (.bool false) s) : wpAny (model prog w) A (compareOp .NotEq (.ref a) (.ref b)) Q E s := by
  have e4 : (!(List.range 4).all fun _ => true) = false := by decide
  refine PySem.SeqAt.RcNeAt.lists (e := fun _ => true) ha hb rfl hu (fun j h1' h2' => ?_) prog w E Q (by rw [← e4] at h; exact h)
  match j, h1' with
  | 0, _ => exact eq_texts h1 h2 n1 hu1
  | 1, _ => exact eq_texts h3 h4 n2 hu1
  | 2, _ => exact PySem.SeqAt.EqAt.same _
  | 3, _ => exact PySem.SeqAt.EqAt.same _
  | j + 4, h => exact absurd h (by simp)
end

section
variable {prog : Program} {w : World} {A : Around} {E : Value → Shared → Prop} {s : Shared} {h₀ : Heap} {env : Env} {Q : Flow → Shared → Prop}
theorem zip_start {target : Expr} {body : List Stmt} {ws : List (Addr × String)} {keep : List (Addr × Obj)} (names : List Str) (es : List Ent) {m : Str → Option Value} {D : Addr} {X : List (Addr × Obj)}
    (turn : ∀ (done : List Ent) (e : Ent) (post : List Ent) (u : Str → Option Value) (k : Nat) (T : Addr) (h : Heap) (tk : Nat), es = done ++ e :: post → IsTup h T #[.ref e.x, .ref e.b] → Fr h₀ env.locals h (fun y => if names.contains y = true then u y else m y) → AllObj ws (fun its => News h₀ env.locals h (its ++ (D, listOf (zl done).toArray k) :: X) →
      wpAny (model prog w) A (assign target env (.ref T)) (fun _ s₂ => wpAny (model prog w) A (execs body env) (UnrPostW h₀ env.locals { s with heap := h, toks := tk } its (fun m' n' => SubL keep n' ∧ ∃ (u' : Str → Option Value) (k' : Nat), m' = (fun y => if names.contains y = true then u' y else m y) ∧ n' = (D, listOf (zl (done ++ [e])).toArray k') :: X) Q) E s₂) E { s with heap := h, toks := tk }))
    (fin : ∀ (u : Str → Option Value) (k : Nat) (h : Heap) (tk : Nat), Fr h₀ env.locals h (fun y => if names.contains y = true then u y else m y) → News h₀ env.locals h ((D, listOf (zl es).toArray k) :: X) → Q .next { s with heap := h, toks := tk }) :
    ItemsRest prog w A E h₀ env target body Q s ws keep (zipItems (es.map fun e : Ent => Value.ref e.x) (es.map fun e : Ent => Value.ref e.b)) m ((D, listOf (zl []).toArray 0) :: X) := by
  have em : (fun y => if names.contains y = true then m y else m y) = m := by funext y; simp
  have := zip_items (ws := ws) (keep := keep) es (fun u y => if names.contains y = true then u y else m y) (fun done k => (D, listOf (zl done).toArray k) :: X) turn fin es [] m 0 rfl
  rw [em] at this
  exact this
end
theorem zend {h₀ h h' : Heap} {L : Addr} {its X news : List (Addr × Obj)} {D I : Addr} {o o' : Obj} (_N : News h₀ L h (its ++ (D, o) :: X)) (N : News h₀ L h' news) (h1 : (D, o') ∈ news) (h2 : ∀ p ∈ rest D (its ++ X), p ∈ news) (hX : ∀ p ∈ X, @LT.lt Nat _ p.1 D) (hD : @LT.lt Nat _ D I) (hits : ∀ p ∈ its, @LE.le Nat _ I p.1) :
    News h₀ L h' (its ++ (D, o') :: X) ∧ ∀ p ∈ (D, o') :: X, ∀ q ∈ its, p.1 ≠ q.1 := by
  refine ⟨fun p hp => ?_, fun p hp q hq => ?_⟩
  · rcases List.mem_append.mp hp with hp | hp
    · exact N p (h2 p (rest_mem (List.mem_append.mpr (.inl hp)) (Nat.ne_of_gt (Nat.lt_of_lt_of_le hD (hits p hp)))))
    · rcases List.mem_cons.mp hp with rfl | hp
      · exact N _ h1
      · exact N p (h2 p (rest_mem (List.mem_append.mpr (.inr hp)) (Nat.ne_of_lt (hX p hp))))
  · have h3 := hits q hq
    rcases List.mem_cons.mp hp with rfl | hp
    · exact Nat.ne_of_lt (Nat.lt_of_lt_of_le hD h3)
    · exact Nat.ne_of_lt (Nat.lt_of_lt_of_le (Nat.lt_trans (hX p hp) hD) h3)
theorem zl_snoc (done : List Ent) (e : Ent) : zl (done ++ [e]) = zl done ++ [.ref e.u, .ref e.r] := by simp [zl]
theorem zl_length : ∀ es : List Ent, (zl es).length = 2 * es.length
  | [] => rfl
  | e :: r => by
    have ih := zl_length r
    simp only [zl, List.flatMap_cons, List.length_append, List.length_cons, List.length_nil] at ih ⊢
    omega
/-- a record's cells stand in front, one address is left to be changed -/
theorem open_zip {q : Params} {h₀ h : Heap} {L : Addr} {its X : List (Addr × Obj)} {D : Addr} {o : Obj} {e : Ent} (N : News h₀ L h (its ++ (D, o) :: X)) (he : ∀ p ∈ e.cells q, p ∈ X) :
    News h₀ L h ((D, o) :: (e.cells q ++ rest D (its ++ X))) := fun p hp => by
  refine N p (List.mem_append.mpr ?_)
  rcases List.mem_cons.mp hp with rfl | hp
  · exact .inr (.head _)
  · rcases List.mem_append.mp hp with hp | hp
    · exact .inr (.tail _ (he p hp))
    · rcases List.mem_append.mp (rest_sub p hp) with h | h
      · exact .inl h
      · exact .inr (.tail _ h)
theorem same_names {names : List Str} {m m' u : Str → Option Value} (h : ∀ y, names.contains y = false → m' y = if names.contains y = true then u y else m y) : m' = fun y => if names.contains y = true then m' y else m y := by
  funext y
  by_cases hc : names.contains y = true
  · rw [if_pos hc]
  · rw [if_neg hc, h y (by simpa using hc), if_neg hc]
theorem cells_in {q : Params} {B O R A : Addr} {oR oA : Obj} {es p1 p2 : List Ent} {e : Ent} {n1 n2 : Nat} (hsp : es = p1 ++ e :: p2) : ∀ p ∈ e.cells q, p ∈ led q B O R A oR oA (es, n1, n2) := by
  intro p hp
  rw [hsp]
  unfold led
  simp only [List.mem_cons, List.flatMap_append, List.flatMap_cons, List.mem_append]
  exact .inr (.inr (.inr (.inr (.inr (.inl hp)))))
theorem with_off {h₀ h : Heap} {L : Addr} {D : Addr} {c0 c1 c2 c3 c4 c5 c6 c7 : Addr × Obj} {l : List (Addr × Obj)} (N : News h₀ L h (c0 :: c1 :: c2 :: c3 :: c4 :: c5 :: c6 :: c7 :: rest D l)) :
    ∃ T, T = rest D l ∧ News h₀ L h (c0 :: c1 :: c2 :: c3 :: c4 :: c5 :: c6 :: c7 :: T) ∧ OwnOff T [D] := ⟨_, rfl, N, rest_off⟩
theorem ext_ok {xs : List Value} {a b : Value} (h : xs.length ≤ 16) : ¬(!xs.toArray.isEmpty && Builtin.List.listTooLong (xs.toArray.size + #[a, b].size)) = true := by
  have : Builtin.List.listTooLong (xs.toArray.size + #[a, b].size) = false := by
    unfold Builtin.List.listTooLong
    simp [sizeLine]
    omega
  rw [this]; simp
theorem ext_ok1 {xs : List Value} (h : xs.length ≤ 16) : xs.toArray.toList.length ≤ sizeLine := by simp [sizeLine]; omega
theorem ext_ok2 {xs : List Value} {a b : Value} (h : xs.length ≤ 16) : xs.toArray.size + #[a, b].size ≤ sizeLine + 1 := by simp [sizeLine]; omega
section
variable {prog : Program} {w : World} {A : Around} {E : Value → Shared → Prop} {s : Shared} {h₀ : Heap} {L : Addr} {news : List (Addr × Obj)}
theorem ne_bookN {a b u bu r br : Addr} {xs ys : Array Value} {dl rt : Value} {c0 c1 c2 c3 c4 c5 : Nat} {Q : Value → Shared → Prop} (N : News h₀ L s.heap news) (ha : (a, listOf #[.ref u, .ref r, dl, rt] c0) ∈ news) (hb : (b, listOf #[.ref bu, .ref br, dl, rt] c1) ∈ news)
    (h1 : (u, listOf xs c2) ∈ news) (h2 : (bu, listOf xs c3) ∈ news) (h3 : (r, listOf ys c4) ∈ news) (h4 : (br, listOf ys c5) ∈ news) (n1 : u ≠ bu) (n2 : r ≠ br) (hu : A.units < cLine) (hu1 : A.in1.units < cLine)
    (h : Q (.bool false) s) : wpAny (model prog w) A (compareOp .NotEq (.ref a) (.ref b)) Q E s :=
  ne_book ⟨_, (N _ ha).1, rfl, _, rfl⟩ ⟨_, (N _ hb).1, rfl, _, rfl⟩ ⟨_, (N _ h1).1, rfl, _, rfl⟩ ⟨_, (N _ h2).1, rfl, _, rfl⟩ ⟨_, (N _ h3).1, rfl, _, rfl⟩ ⟨_, (N _ h4).1, rfl, _, rfl⟩ n1 n2 hu hu1 h
end
section
variable {prog : Program} {w : World} {A : Around} {E : Value → Shared → Prop} {s : Shared} {h₀ : Heap} {env : Env} {x : Str} {body : List Stmt} {Q : Flow → Shared → Prop}
/-- a range loop that leaves the ledger as it is -/
theorem range_fix {r : Addr} {a₀ b₀ : Int} {t₀ u₀ v₀ : Tok} {n : Nat} {m₀ : Str → Option Value} {news : List (Addr × Obj)} (stored : List Str)
    (hh : A.handled = none) (hr : IsRange s.heap r a₀ b₀ 1 t₀ u₀ v₀) (hsmall : Builtin.Range.small a₀ b₀ 1 = true) (hn : Builtin.Range.rangeSize a₀ b₀ 1 = (n : Int)) (F : Fr h₀ env.locals s.heap m₀) (N : News h₀ env.locals s.heap news)
    (turn : ∀ (pre : List Int) (k : Int) (t : Tok) (u : Str → Option Value) (h : Heap) (tk : Nat) (own : List (Addr × Obj)), k = a₀ + (pre.length : Int) → pre.length < n → OwnOff own (news.map (·.1)) →
      Fr h₀ env.locals h (fun y => if y = x then some (.int k t) else if stored.contains y then u y else m₀ y) → News h₀ env.locals h (news ++ own) →
      wpAny (model prog w) A (execs body env) (InvPostN h₀ env.locals (KstS (fun _ : Unit => news) (fun _ => []) (fun _ => True) x stored m₀ (fun _ _ => True) (pre ++ [k])) own (news.map (·.1)) { s with heap := h, toks := tk } Q) E { s with heap := h, toks := tk })
    (done : ∀ (u : Str → Option Value) (h : Heap) (tk : Nat), Fr h₀ env.locals h (fun y => if y = x then u y else if stored.contains y then u y else m₀ y) → News h₀ env.locals h news → Q .next { s with heap := h, toks := tk }) :
    wpAny (model prog w) A (pyIter (.ref r)) (fun it s₂ => LoopAtV prog w A h₀ env x body Q E it s₂) E s :=
  kst_range (σ := Unit) (fun _ => news) (fun _ => []) (fun _ => True) stored (fun _ _ => True) () hh hr hsmall hn F N trivial (fun _ h => nomatch h) trivial
    (fun _ pre k t u h tk own h1 h2 h3 _ _ F' N' => turn pre k t u h tk own h1 h2 h3 F' N') (fun _ u h tk _ _ F' N' => done u h tk F' N')
end
def za (es : List Ent) : List Addr := es.flatMap fun e => [e.u, e.r]
theorem zl_za : ∀ es : List Ent, zl es = (za es).map Value.ref
  | [] => rfl
  | e :: r => by
    have ih := zl_za r
    simp only [zl, za, List.flatMap_cons, List.map_append] at ih ⊢
    rw [ih]; rfl
theorem za_sub : ∀ es : List Ent, (za es).Sublist (es.flatMap Ent.adr)
  | [] => .slnil
  | e :: r => by
    have ih := za_sub r
    simp only [za, List.flatMap_cons] at ih ⊢
    refine List.Sublist.append ?_ ih
    exact .cons _ (.cons _ (.cons₂ _ (.cons₂ _ (.cons _ (.cons _ (.cons _ .slnil))))))
theorem za_nodup {B O R A : Addr} {es : List Ent} (h : (adrs B O R A es).Nodup) : (za es).Nodup := by
  simp only [adrs, List.nodup_cons] at h
  exact (za_sub es).nodup h.2.2.2.2
theorem za_cell {q : Params} {B O R A : Addr} {oR oA : Obj} {es : List Ent} {n1 n2 : Nat} {a : Addr} (h : a ∈ za es) : ∃ o, (a, o) ∈ led q B O R A oR oA (es, n1, n2) ∧ o.cls = .type "list" := by
  obtain ⟨e, he, ha⟩ := List.mem_flatMap.mp h
  obtain ⟨p1, p2, rfl⟩ := List.append_of_mem he
  simp only [List.mem_cons, List.not_mem_nil, or_false] at ha
  rcases ha with rfl | rfl
  · exact ⟨_, cells_in rfl (e.u, listOf (strValues e.ag).toArray e.nu) (by simp [Ent.cells]), rfl⟩
  · exact ⟨_, cells_in rfl (e.r, listOf (strValues e.rl).toArray e.nr) (by simp [Ent.cells]), rfl⟩
theorem zl_at {es : List Ent} {i : Int} {n : Nat} (hn : (zl es).length = n) (h0 : 0 ≤ i) (h1 : i < n) : ∃ a, (za es)[i.toNat]? = some a ∧ (zl es)[place i (zl es).length]? = some (.ref a) := by
  have hl : (za es).length = n := by rw [← hn, zl_za, List.length_map]
  have hlt : i.toNat < (za es).length := by omega
  refine ⟨(za es)[i.toNat], List.getElem?_eq_getElem hlt, ?_⟩
  unfold place
  rw [if_neg (by omega), zl_za, List.getElem?_map, List.getElem?_eq_getElem hlt]
  rfl
theorem za_ne {es : List Ent} {i j : Nat} {a b : Addr} (hnd : (za es).Nodup) (hi : (za es)[i]? = some a) (hj : (za es)[j]? = some b) (h : j < i) : a ≠ b := by
  rintro rfl
  obtain ⟨h1, e1⟩ := List.getElem?_eq_some_iff.mp hi
  obtain ⟨h2, e2⟩ := List.getElem?_eq_some_iff.mp hj
  exact List.pairwise_iff_getElem.mp hnd j i h2 h1 h (by rw [e1, e2])
section
variable {prog : Program} {w : World} {A : Around} {E : Value → Shared → Prop} {s : Shared} {h₀ : Heap} {L : Addr} {news : List (Addr × Obj)}
theorem is_no {q : Params} {B O R A' : Addr} {oR oA : Obj} {es : List Ent} {n1 n2 : Nat} {a b : Addr} {Q : Value → Shared → Prop} (N : News h₀ L s.heap news) (hl : ∀ p ∈ led q B O R A' oR oA (es, n1, n2), p ∈ news) (ha : a ∈ za es) (hb : b ∈ za es) (hne : a ≠ b)
    (hq : Q (.bool false) s) : wpAny (model prog w) A (compareOp .Is (.ref a) (.ref b)) Q E s := by
  obtain ⟨oa, h1, c1⟩ := za_cell (q := q) (B := B) (O := O) (R := R) (A := A') (oR := oR) (oA := oA) (n1 := n1) (n2 := n2) ha
  obtain ⟨ob, h2, _⟩ := za_cell (q := q) (B := B) (O := O) (R := R) (A := A') (oR := oR) (oA := oA) (n1 := n1) (n2 := n2) hb
  exact wpAny_is_ref_other hne (N _ (hl _ h1)).1 (N _ (hl _ h2)).1 (by rw [c1]; decide) hq
end
end Mine
end

section
set_option maxRecDepth 100000 in
set_option maxHeartbeats 8000000 in
open_top hd for PySem.Challenge.rw_kn0090_10
end

section
namespace Mine
local macro_rules | `(tactic| walk_at "pyIter ref") => `(tactic| (k_here; k_dflt (refine' Mine.iter_none ?k0 ?k1 ?k2 ?k3 ?_; (case k0 => exact rfl); (case k1 => k_asm); (case k2 => k_asm); (case k3 => k_mem); k_whole); intro h' tk' F' N'))
local macro_rules | `(tactic| walk_at "compareOp NotEq ref ref") => `(tactic| (k_here; k_dflt (refine' Mine.ne_none (xs := []) ?k1 ?k2 ?ku rfl ?_; (case k1 => is_list); (case k2 => is_list); (case ku => ke_room); k_whole)))
set_option maxHeartbeats 2000000 in
theorem empty_ok (w : World) (mean : ExcName → Option Value) (mg mb : Str → Option Value) (x d u r : Addr) (t1 t2 t3 t4 : Tok) :
   Mine.LawFnC Challenge.rw_kn0090_10.row.prog w (hd.heap_39 w.params) hd.view_39 (looseW hd.view_39 []) mean mg mb 63 [.ref x] [(x, instObj 52 d), (d, Mine.entD w.params t1 t2 t3 t4 u r .none .none), (u, listOf #[] 0), (r, listOf #[] 0)] (fun v => v = .bool true) := by
  intro cn cs a ccd base h₀ L m s Q E B F N X T hk hret
  refine wpAny_call ?_
  k_dflt (refine' Mine.code_pureC (fun v => v = .bool true) (fun v h' tk' hv hg => hret v h' tk' hv hg) B F N X T ?kA ?kF ?kK ?k6 ?k7 ?k8 ?k9 ?kB ?_ ?c2 ?c3 ?c4 ?c5; (case kA => exact rfl); (case kF => exact rfl); (case kK => assumption);  (case k6 => k_is); (case k7 => k_is); (case k8 => k_room); (case k9 => exact BindsTo.of_eq rfl); (case c5 => decide); (case kB => exact locs rfl); (case c2 => exact rfl); (case c3 => exact rfl); (case c4 => exact rfl); k_whole; intro g' L' h' FG' F' N' B' X' T'; (try dsimp only); (try k_fold))
  unfold Mine.entD at N'
  k_steps
  rename News h₀ L _ _ => NE
  exact ⟨rfl, ⟨_, _, rfl⟩, fun q hq => (NE q (.tail _ (.tail _ (.tail _ (.tail _ hq))))).1⟩
end Mine
end

section
namespace Mine
local macro_rules | `(tactic| walk_at "exec For Name Name cons nil") => `(tactic| (k_here; refine Mine.stop ?_))
local macro_rules | `(tactic| walk_at "exec For Tuple Call") => `(tactic| (k_here; refine Mine.stop ?_))
local macro_rules | `(tactic| walk_at "compareOp Eq ref ref") => `(tactic| (refine Mine.stop ?_))
local macro_rules | `(tactic| walk_at "subscriptTail Name Name ref int") => `(tactic| (refine Mine.stop ?_))
local macro_rules | `(tactic| walk_at "GrowPost") => `(tactic| (dsimp only [Mine.GrowPost]))
local macro_rules | `(tactic| walk_at "GrowEnd") => `(tactic| (refine Mine.stop ?_))
local macro_rules | `(tactic| walk_at "call builtin:len") => `(tactic| (k_here; k_dflt (refine' Mine.len_L ?k1 ?k2 ?k3 ?_; (case k1 => k_asm); (case k2 => k_mem); (case k3 => first | (simp only [List.length_map]; omega) | (rw [Mine.zl_length]; omega)); k_whole)))
local macro_rules | `(tactic| walk_at "call ref") => `(tactic| (k_here; k_dflt (refine' Mine.use_lawC (empty_ok _ _ _ _ _ _ _ _ _ _ _ _) ?k1 ?k2 ?k3 ?k4 ?k5 ?kK ?kc ?_; (case k1 => k_asm); (case k2 => k_asm); (case k3 => k_asm); (case k4 => k_asm); (case k5 => k_asm); (case kK => exact rfl); (case kc => exact List.forall_mem_cons.mpr ⟨by k_mem, List.forall_mem_cons.mpr ⟨by k_mem, List.forall_mem_cons.mpr ⟨by k_mem, List.forall_mem_cons.mpr ⟨by k_mem, List.forall_mem_nil _⟩⟩⟩⟩); k_whole); intro h' tk' F' N'))
local macro_rules | `(tactic| walk_at "call type:zip") => `(tactic| (refine Mine.stop ?_))
local macro_rules | `(tactic| walk_at "UnrPostW") => `(tactic| (dsimp only [UnrPostW]))
local macro_rules | `(tactic| walk_at "UnrEndW") => `(tactic| (refine Mine.stop ?_))
local macro_rules | `(tactic| walk_at "compareOp NotEq ref ref") => `(tactic| (refine Mine.stop ?_))
local macro_rules | `(tactic| walk_at "call builtin:list.extend") => `(tactic| (refine Mine.stop ?_))
local macro_rules | `(tactic| walk_at "pyIter ref") => `(tactic| (refine Mine.stop ?_))
local macro_rules | `(tactic| walk_at "compareOp Is ref ref") => `(tactic| (refine Mine.stop ?_))
local macro_rules | `(tactic| walk_at "InvEndN") => `(tactic| (refine Mine.stop ?_))
set_option maxHeartbeats 2000000 in
theorem law10 : PySem.Challenge.rw_kn0090_10.Holds := by
  refine hd ?_
  k_go0; (all_goals try k_fold); k_steps
  unfold Mine.Stop
  with_unfolding_all refine' For_invVF (by assumption) ?k1 ?k2 ?_; (case k1 => exact rfl); (case k2 => exact rfl)
  walk1
  rename_i A h7 l3 h6 tk1 R h5 l2 h4 tk0 O h3 l1 h2 B h1 l0 h0 F2 N2
  rename ¬ (_ < _) => hlen
  rename World => w
  with_unfolding_all refine' Mine.grow_list (σ := List Ent × Nat × Nat) (fun c => Mine.led w.params B O R A _ _ c) (fun c => []) (fun _ => True) [Str.ofString "step", Str.ofString "rest", Str.ofString "k", Str.ofString "what"] (fun pre c => (adrs B O R A c.1).Nodup ∧ c.1.length ≤ 8 ∧ ∀ e ∈ c.1, Mine.Ok pre.length e) ([], 0, 0) (by rfl) (by assumption) (by assumption) F2 N2 trivial ?hk ?hp ?turn ?done
  case hk => kst_all
  case hp => refine ⟨?_, by simp, by simp⟩; exact Mine.adrs0 (by omega) (by omega) (by omega)
  case turn =>
    rintro ⟨es, nB, nO⟩ pre post n t u h tk own hsc hmem hoff _ hP Ft Nt
    dsimp only at hP Ft Nt
    simp only [kstB] at Ft
    rw [Mine.led_adr] at hoff
    obtain ⟨hnd, hes8, hE⟩ := hP
    dsimp only at hoff hnd hes8 hE
    have hn63 : pre.length ≤ 62 := by
      have := congrArg List.length hsc
      rw [List.length_append, List.length_cons] at this
      omega
    have hMk := kstMark
    have Nt' := Nt
    unfold Mine.led at Nt
    dsimp only at Nt
    simp only [List.cons_append] at Nt
    have hTo : OwnOff (es.flatMap (Ent.cells w.params) ++ own) [B, O, R, A] := Mine.off_tail hnd hoff
    generalize hT : (List.flatMap (Ent.cells _) es ++ own) = T at Nt hTo
    have hlx : (es.map fun e => Value.ref e.x).length = es.length := List.length_map _
    have hlb : (es.map fun e => Value.ref e.b).length = es.length := List.length_map _
    (try k_fold)
    k_steps
    unfold Mine.Stop
    by_cases hes : es = []
    · refine Mine.eq_none (by is_list) (by is_list) (by ke_room) (by rw [hes]; rfl) ?_
      k_steps
      unfold Mine.Stop
      rename Fr _ _ _ _ => F9
      rename News _ _ _ _ => N9
      have hes7 : es.length < 8 := by first | (rw [hes]; decide) | omega
      repeat (with_reducible rename _ ∧ _ => hand; obtain ⟨_, _⟩ := hand)
      obtain ⟨e', he', hn', ho', hl'⟩ := Mine.new_all (q := w.params) hnd hoff hT N9 (by with_reducible assumption) (by with_reducible assumption) (by with_reducible assumption) (by with_reducible assumption) (by with_reducible assumption) (by with_reducible assumption) (by with_reducible assumption) (by with_reducible assumption) (by with_reducible assumption) (by with_reducible assumption) (by with_reducible assumption)
      refine' Mine.grow_end (es ++ [e'], nB + 1, nO + 1) F9 N9 hl' ?ho ?ha trivial ?hk ?hr ?hp
      case ho => (intro p hp; have hq : p ∈ T := by rw [← hT]; exact List.mem_append.mpr (.inr hp)); repeat (first | exact hq | refine List.Mem.tail _ ?_)
      case ha => rw [Mine.led_adr]; exact ho'
      case hk => kst_all
      case hr => kst_same
      case hp => refine ⟨hn', ?_, ?_⟩; (dsimp only; rw [List.length_append, List.length_singleton]; omega); (rw [List.length_append]; exact Mine.ok_new hE (by rw [he']; exact ⟨⟨.inl rfl, .inl rfl⟩, rfl, rfl, rfl, rfl, Nat.zero_le _, Nat.zero_le _⟩))
    · have hpos : 0 < es.length := List.length_pos_iff.mpr hes
      refine Mine.eq_some (by is_list) (by is_list) (by ke_room) (by intro h; exact hes (List.map_eq_nil_iff.mp h)) ?_
      k_steps
      all_goals (try (exfalso; omega))
      · unfold Mine.Stop
        rename Fr _ _ _ _ => F9
        rename News _ _ _ _ => N9
        have hes7 : es.length < 8 := by first | (rw [hes]; decide) | omega
        repeat (with_reducible rename _ ∧ _ => hand; obtain ⟨_, _⟩ := hand)
        obtain ⟨e', he', hn', ho', hl'⟩ := Mine.new_all (q := w.params) hnd hoff hT N9 (by with_reducible assumption) (by with_reducible assumption) (by with_reducible assumption) (by with_reducible assumption) (by with_reducible assumption) (by with_reducible assumption) (by with_reducible assumption) (by with_reducible assumption) (by with_reducible assumption) (by with_reducible assumption) (by with_reducible assumption)
        refine' Mine.grow_end (es ++ [e'], nB + 1, nO + 1) F9 N9 hl' ?ho ?ha trivial ?hk ?hr ?hp
        case ho => (intro p hp; have hq : p ∈ T := by rw [← hT]; exact List.mem_append.mpr (.inr hp)); repeat (first | exact hq | refine List.Mem.tail _ ?_)
        case ha => rw [Mine.led_adr]; exact ho'
        case hk => kst_all
        case hr => kst_same
        case hp => refine ⟨hn', ?_, ?_⟩; (dsimp only; rw [List.length_append, List.length_singleton]; omega); (rw [List.length_append]; exact Mine.ok_new hE (by rw [he']; exact ⟨⟨.inl rfl, .inl rfl⟩, rfl, rfl, rfl, rfl, Nat.zero_le _, Nat.zero_le _⟩))
      · unfold Mine.Stop
        have hm0 : (0 : Int) < ((es.map fun e : Ent => Value.ref e.x).length : Int) := by rw [hlx]; omega
        have hkk := Mine.fmod_lt (x := n.fdiv 5) hm0
        obtain ⟨p1, e, p2, hsp, hpl⟩ := Mine.split_place (l := es) (i := ((n.fdiv 5).fmod ((es.map fun e : Ent => Value.ref e.x).length : Int)).toNat) (by omega)
        subst hsp
        subst hT
        obtain ⟨hea, hfix⟩ := Mine.ent_apart hnd
        have hea' := hea
        simp only [Ent.adr, List.nodup_cons, List.mem_cons, List.not_mem_nil, or_false, not_or, not_false_eq_true, List.nodup_nil, and_true] at hea'
        obtain ⟨⟨a1, a2, a3, a4, a5, a6⟩, ⟨b2, b3, b4, b5, b6⟩, ⟨c3, c4, c5, c6⟩, ⟨d4, d5, d6⟩, ⟨e5, e6⟩, f6⟩ := hea'
        obtain ⟨hVi, hOk⟩ := hE e (by simp)
        rename News _ _ _ _ => N9
        have hw := Mine.fmod_lt (x := (n.fdiv 5).fdiv ((List.map (fun e : Ent => Value.ref e.x) (p1 ++ e :: p2)).length : Int)) (m := 3) (by decide)
        rename Fr _ _ _ _ => F9
        obtain ⟨tw, htw⟩ := Mine.fr_tok F9 (y := Str.ofString "what") (X := ((n.fdiv 5).fdiv ((List.map (fun e : Ent => Value.ref e.x) (p1 ++ e :: p2)).length : Int)).fmod 3) (by rfl)
        obtain ⟨fO1, fB1, fR1, fA1⟩ := hfix e.d (by simp [Ent.adr])
        obtain ⟨T1, M1, hro1, cl1⟩ := Mine.open_at (e := e) N9 ((fun p hp => .tail _ hp)) (e.d) [(e.d, Mine.entD w.params e.t1 e.t2 e.t3 e.t4 e.u e.r e.dl e.rt), (e.x, instObj 52 e.d)] (by simp [Ent.cells, Ent.u1, Ent.r1, Ent.d1, Ent.q1])
        unfold Mine.entD at M1
        simp only [List.cons_append, List.nil_append] at M1
        refine Mine.sub_L M1 (by k_mem) (by omega) (by omega) (by first | (simp only [List.length_map]; omega) | (rw [hlm]; simp only [List.length_map]; omega) | (simp only [List.length_map, List.length_append, List.length_cons] at hes8 ⊢; omega)) (x := .ref e.x) (by unfold Mine.place; rw [if_neg (by omega), ← hpl]; exact Mine.place_at _ _ _ _) ?_
        k_steps
        unfold Mine.Stop
        rename News _ _ _ _ => N11
        rw [← htw] at N11
        have hl1 := cl1 _ _ _ _ N11 (by k_mem) (by intro p hp; repeat (first | exact hp | refine List.Mem.tail _ ?_)) (Mine.led_put (e' := (e.q1 (.int (((n.fdiv 5).fdiv ((List.map (fun e : Ent => Value.ref e.x) (p1 ++ e :: p2)).length : Int)).fmod 3) tw))) hnd hoff (by simp [Ent.adr]) rfl rfl (Mine.put_q1 hea))
        obtain ⟨fO2, fB2, fR2, fA2⟩ := hfix e.b (by simp [Ent.adr])
        obtain ⟨T2, M2, hro2, cl2⟩ := Mine.open_at (e := (e.q1 (.int (((n.fdiv 5).fdiv ((List.map (fun e : Ent => Value.ref e.x) (p1 ++ e :: p2)).length : Int)).fmod 3) tw))) N11 (hl1) (e.b) [(e.b, listOf [.ref e.bu, .ref e.br, e.bdl, e.brt].toArray e.nb)] (by simp [Ent.cells, Ent.u1, Ent.r1, Ent.d1, Ent.q1])
        simp only [List.cons_append, List.nil_append] at M2
        have hlm : ((p1 ++ (e.q1 (.int (((n.fdiv 5).fdiv ((List.map (fun e : Ent => Value.ref e.x) (p1 ++ e :: p2)).length : Int)).fmod 3) tw)) :: p2).map (fun e : Ent => Value.ref e.b)).length = ((p1 ++ e :: p2).map (fun e : Ent => Value.ref e.x)).length := by simp
        refine Mine.sub_L M2 (by k_mem) (by omega) (by omega) (by first | (simp only [List.length_map]; omega) | (rw [hlm]; simp only [List.length_map]; omega) | (simp only [List.length_map, List.length_append, List.length_cons] at hes8 ⊢; omega)) (x := .ref e.b) (by unfold Mine.place; rw [if_neg (by omega), ← hpl]; exact Mine.place_at _ _ _ _) ?_
        k_steps
        unfold Mine.Stop
        rename Fr _ _ _ _ => F13
        rename News _ _ _ _ => N13
        have hA1 : adrs B O R A (p1 ++ (e.q1 (.int (((n.fdiv 5).fdiv ((List.map (fun e : Ent => Value.ref e.x) (p1 ++ e :: p2)).length : Int)).fmod 3) tw)) :: p2) = adrs B O R A (p1 ++ e :: p2) := Mine.adrs_same rfl
        have hA2 : adrs B O R A (p1 ++ ((e.q1 (.int (((n.fdiv 5).fdiv ((List.map (fun e : Ent => Value.ref e.x) (p1 ++ e :: p2)).length : Int)).fmod 3) tw)).q2 (.int (((n.fdiv 5).fdiv ((List.map (fun e : Ent => Value.ref e.x) (p1 ++ e :: p2)).length : Int)).fmod 3) tw) e.nb) :: p2) = adrs B O R A (p1 ++ e :: p2) := Mine.adrs_same rfl
        have hl3 := cl2 _ _ _ _ N13 (by rw [htw];  k_mem) (by intro p hp; repeat (first | exact hp | refine List.Mem.tail _ ?_)) (Mine.led_put (e := (e.q1 (.int (((n.fdiv 5).fdiv ((List.map (fun e : Ent => Value.ref e.x) (p1 ++ e :: p2)).length : Int)).fmod 3) tw))) (e' := ((e.q1 (.int (((n.fdiv 5).fdiv ((List.map (fun e : Ent => Value.ref e.x) (p1 ++ e :: p2)).length : Int)).fmod 3) tw)).q2 (.int (((n.fdiv 5).fdiv ((List.map (fun e : Ent => Value.ref e.x) (p1 ++ e :: p2)).length : Int)).fmod 3) tw) e.nb)) (by rw [hA1]; exact hnd) (by rw [hA1]; exact hoff) (by simp [Ent.adr, Ent.u1, Ent.r1, Ent.d1, Ent.q1]) rfl rfl (Mine.put_q2 (e := (e.q1 (.int (((n.fdiv 5).fdiv ((List.map (fun e : Ent => Value.ref e.x) (p1 ++ e :: p2)).length : Int)).fmod 3) tw))) hea))
        refine' Mine.grow_end (p1 ++ ((e.q1 (.int (((n.fdiv 5).fdiv ((List.map (fun e : Ent => Value.ref e.x) (p1 ++ e :: p2)).length : Int)).fmod 3) tw)).q2 (.int (((n.fdiv 5).fdiv ((List.map (fun e : Ent => Value.ref e.x) (p1 ++ e :: p2)).length : Int)).fmod 3) tw) e.nb) :: p2, nB, nO) F13 N13 (fun p hp => hl3 p (List.mem_append.mpr (.inl hp))) (fun p hp => hl3 p (List.mem_append.mpr (.inr hp))) ?ha trivial ?hk ?hr ?hp
        case ha => rw [Mine.led_adr]; dsimp only; rw [hA2]; exact hoff
        case hk => kst_all
        case hr => kst_same
        case hp => refine ⟨by dsimp only; rw [hA2]; exact hnd, ?_, ?_⟩; (dsimp only; rw [List.length_append, List.length_cons] at hes8 ⊢; exact hes8); (rw [List.length_append]; exact Mine.ok_put hE ⟨⟨hVi.1, .inr ⟨_, _, rfl⟩⟩, hOk.1, hOk.2.1, hOk.2.2.1, rfl, Nat.le_succ_of_le hOk.2.2.2.2.1, Nat.le_succ_of_le hOk.2.2.2.2.2⟩)
      · unfold Mine.Stop
        have hm0 : (0 : Int) < ((es.map fun e : Ent => Value.ref e.x).length : Int) := by rw [hlx]; omega
        have hkk := Mine.fmod_lt (x := n.fdiv 5) hm0
        obtain ⟨p1, e, p2, hsp, hpl⟩ := Mine.split_place (l := es) (i := ((n.fdiv 5).fmod ((es.map fun e : Ent => Value.ref e.x).length : Int)).toNat) (by omega)
        subst hsp
        subst hT
        obtain ⟨hea, hfix⟩ := Mine.ent_apart hnd
        have hea' := hea
        simp only [Ent.adr, List.nodup_cons, List.mem_cons, List.not_mem_nil, or_false, not_or, not_false_eq_true, List.nodup_nil, and_true] at hea'
        obtain ⟨⟨a1, a2, a3, a4, a5, a6⟩, ⟨b2, b3, b4, b5, b6⟩, ⟨c3, c4, c5, c6⟩, ⟨d4, d5, d6⟩, ⟨e5, e6⟩, f6⟩ := hea'
        obtain ⟨hVi, hOk⟩ := hE e (by simp)
        rename News _ _ _ _ => N9
        have hw := Mine.fmod_lt (x := (n.fdiv 5).fdiv ((List.map (fun e : Ent => Value.ref e.x) (p1 ++ e :: p2)).length : Int)) (m := 3) (by decide)
        obtain ⟨fO1, fB1, fR1, fA1⟩ := hfix e.u (by simp [Ent.adr])
        obtain ⟨T1, M1, hro1, cl1⟩ := Mine.open_at (e := e) N9 ((fun p hp => .tail _ hp)) (e.u) [(e.u, listOf (strValues e.ag).toArray e.nu), (e.x, instObj 52 e.d), (e.d, Mine.entD w.params e.t1 e.t2 e.t3 e.t4 e.u e.r e.dl e.rt)] (by simp [Ent.cells, Ent.u1, Ent.r1, Ent.d1, Ent.q1])
        unfold Mine.entD at M1
        simp only [List.cons_append, List.nil_append] at M1
        refine Mine.sub_L M1 (by k_mem) (by omega) (by omega) (by first | (simp only [List.length_map]; omega) | (rw [hlm]; simp only [List.length_map]; omega) | (simp only [List.length_map, List.length_append, List.length_cons] at hes8 ⊢; omega)) (x := .ref e.x) (by unfold Mine.place; rw [if_neg (by omega), ← hpl]; exact Mine.place_at _ _ _ _) ?_
        k_steps
        unfold Mine.Stop
        rename News _ _ _ _ => N10
        refine Mine.sub_three N10 (by k_mem) hw.1 hw.2 ?_
        intro v hv
        have hag : (strValues e.ag).toArray.size ≤ sizeLine := by have := hOk.2.2.2.2.1; simp [strValues, sizeLine]; omega
        k_steps
        unfold Mine.Stop
        rename News _ _ _ _ => N11
        rw [Mine.push_texts] at N11
        have hl1 := cl1 _ _ _ _ N11 (by k_mem) (by intro p hp; repeat (first | exact hp | refine List.Mem.tail _ ?_)) (Mine.led_put (e' := (e.u1 v)) hnd hoff (by simp [Ent.adr]) rfl rfl (Mine.put_u1 hea))
        obtain ⟨fO2, fB2, fR2, fA2⟩ := hfix e.bu (by simp [Ent.adr])
        obtain ⟨T2, M2, hro2, cl2⟩ := Mine.open_at (e := (e.u1 v)) N11 (hl1) (e.bu) [(e.bu, listOf (strValues e.bag).toArray e.nbu), (e.b, listOf [.ref e.bu, .ref e.br, e.bdl, e.brt].toArray e.nb)] (by simp [Ent.cells, Ent.u1, Ent.r1, Ent.d1, Ent.q1])
        simp only [List.cons_append, List.nil_append] at M2
        have hlm : ((p1 ++ (e.u1 v) :: p2).map (fun e : Ent => Value.ref e.b)).length = ((p1 ++ e :: p2).map (fun e : Ent => Value.ref e.x)).length := by simp
        refine Mine.sub_L M2 (by k_mem) (by omega) (by omega) (by first | (simp only [List.length_map]; omega) | (rw [hlm]; simp only [List.length_map]; omega) | (simp only [List.length_map, List.length_append, List.length_cons] at hes8 ⊢; omega)) (x := .ref e.b) (by unfold Mine.place; rw [if_neg (by omega), ← hpl]; exact Mine.place_at _ _ _ _) ?_
        k_steps
        unfold Mine.Stop
        rename News _ _ _ _ => N12
        refine Mine.sub_three N12 (by k_mem) hw.1 hw.2 ?_
        intro v2 hv2
        obtain rfl : v = v2 := Option.some.inj (hv.symm.trans hv2)
        have hbg : (strValues e.bag).toArray.size ≤ sizeLine := by have := hOk.2.2.2.2.1; rw [hOk.1]; simp [strValues, sizeLine]; omega
        k_steps
        unfold Mine.Stop
        rename Fr _ _ _ _ => F13
        rename News _ _ _ _ => N13
        rw [Mine.push_texts] at N13
        have hA1 : adrs B O R A (p1 ++ (e.u1 v) :: p2) = adrs B O R A (p1 ++ e :: p2) := Mine.adrs_same rfl
        have hA2 : adrs B O R A (p1 ++ ((e.u1 v).u2 v) :: p2) = adrs B O R A (p1 ++ e :: p2) := Mine.adrs_same rfl
        have hl3 := cl2 _ _ _ _ N13 (by  k_mem) (by intro p hp; repeat (first | exact hp | refine List.Mem.tail _ ?_)) (Mine.led_put (e := (e.u1 v)) (e' := ((e.u1 v).u2 v)) (by rw [hA1]; exact hnd) (by rw [hA1]; exact hoff) (by simp [Ent.adr, Ent.u1, Ent.r1, Ent.d1, Ent.q1]) rfl rfl (Mine.put_u2 (e := (e.u1 v)) hea))
        refine' Mine.grow_end (p1 ++ ((e.u1 v).u2 v) :: p2, nB, nO) F13 N13 (fun p hp => hl3 p (List.mem_append.mpr (.inl hp))) (fun p hp => hl3 p (List.mem_append.mpr (.inr hp))) ?ha trivial ?hk ?hr ?hp
        case ha => rw [Mine.led_adr]; dsimp only; rw [hA2]; exact hoff
        case hk => kst_all
        case hr => kst_same
        case hp => refine ⟨by dsimp only; rw [hA2]; exact hnd, ?_, ?_⟩; (dsimp only; rw [List.length_append, List.length_cons] at hes8 ⊢; exact hes8); (rw [List.length_append]; exact Mine.ok_put hE ⟨hVi, congrArg (· ++ [v]) hOk.1, hOk.2.1, hOk.2.2.1, hOk.2.2.2.1, (by show (e.ag ++ [v]).length ≤ _; rw [List.length_append]; exact Nat.succ_le_succ hOk.2.2.2.2.1), Nat.le_succ_of_le hOk.2.2.2.2.2⟩)
      · unfold Mine.Stop
        have hm0 : (0 : Int) < ((es.map fun e : Ent => Value.ref e.x).length : Int) := by rw [hlx]; omega
        have hkk := Mine.fmod_lt (x := n.fdiv 5) hm0
        obtain ⟨p1, e, p2, hsp, hpl⟩ := Mine.split_place (l := es) (i := ((n.fdiv 5).fmod ((es.map fun e : Ent => Value.ref e.x).length : Int)).toNat) (by omega)
        subst hsp
        subst hT
        obtain ⟨hea, hfix⟩ := Mine.ent_apart hnd
        have hea' := hea
        simp only [Ent.adr, List.nodup_cons, List.mem_cons, List.not_mem_nil, or_false, not_or, not_false_eq_true, List.nodup_nil, and_true] at hea'
        obtain ⟨⟨a1, a2, a3, a4, a5, a6⟩, ⟨b2, b3, b4, b5, b6⟩, ⟨c3, c4, c5, c6⟩, ⟨d4, d5, d6⟩, ⟨e5, e6⟩, f6⟩ := hea'
        obtain ⟨hVi, hOk⟩ := hE e (by simp)
        rename News _ _ _ _ => N9
        have hw := Mine.fmod_lt (x := (n.fdiv 5).fdiv ((List.map (fun e : Ent => Value.ref e.x) (p1 ++ e :: p2)).length : Int)) (m := 3) (by decide)
        obtain ⟨fO1, fB1, fR1, fA1⟩ := hfix e.r (by simp [Ent.adr])
        obtain ⟨T1, M1, hro1, cl1⟩ := Mine.open_at (e := e) N9 ((fun p hp => .tail _ hp)) (e.r) [(e.r, listOf (strValues e.rl).toArray e.nr), (e.x, instObj 52 e.d), (e.d, Mine.entD w.params e.t1 e.t2 e.t3 e.t4 e.u e.r e.dl e.rt)] (by simp [Ent.cells, Ent.u1, Ent.r1, Ent.d1, Ent.q1])
        unfold Mine.entD at M1
        simp only [List.cons_append, List.nil_append] at M1
        refine Mine.sub_L M1 (by k_mem) (by omega) (by omega) (by first | (simp only [List.length_map]; omega) | (rw [hlm]; simp only [List.length_map]; omega) | (simp only [List.length_map, List.length_append, List.length_cons] at hes8 ⊢; omega)) (x := .ref e.x) (by unfold Mine.place; rw [if_neg (by omega), ← hpl]; exact Mine.place_at _ _ _ _) ?_
        k_steps
        unfold Mine.Stop
        rename News _ _ _ _ => N10
        refine Mine.sub_three N10 (by k_mem) hw.1 hw.2 ?_
        intro v hv
        have hag : (strValues e.rl).toArray.size ≤ sizeLine := by have := hOk.2.2.2.2.2; simp [strValues, sizeLine]; omega
        k_steps
        unfold Mine.Stop
        rename News _ _ _ _ => N11
        rw [Mine.push_texts] at N11
        have hl1 := cl1 _ _ _ _ N11 (by k_mem) (by intro p hp; repeat (first | exact hp | refine List.Mem.tail _ ?_)) (Mine.led_put (e' := (e.r1 v)) hnd hoff (by simp [Ent.adr]) rfl rfl (Mine.put_r1 hea))
        obtain ⟨fO2, fB2, fR2, fA2⟩ := hfix e.br (by simp [Ent.adr])
        obtain ⟨T2, M2, hro2, cl2⟩ := Mine.open_at (e := (e.r1 v)) N11 (hl1) (e.br) [(e.br, listOf (strValues e.brl).toArray e.nbr), (e.b, listOf [.ref e.bu, .ref e.br, e.bdl, e.brt].toArray e.nb)] (by simp [Ent.cells, Ent.u1, Ent.r1, Ent.d1, Ent.q1])
        simp only [List.cons_append, List.nil_append] at M2
        have hlm : ((p1 ++ (e.r1 v) :: p2).map (fun e : Ent => Value.ref e.b)).length = ((p1 ++ e :: p2).map (fun e : Ent => Value.ref e.x)).length := by simp
        refine Mine.sub_L M2 (by k_mem) (by omega) (by omega) (by first | (simp only [List.length_map]; omega) | (rw [hlm]; simp only [List.length_map]; omega) | (simp only [List.length_map, List.length_append, List.length_cons] at hes8 ⊢; omega)) (x := .ref e.b) (by unfold Mine.place; rw [if_neg (by omega), ← hpl]; exact Mine.place_at _ _ _ _) ?_
        k_steps
        unfold Mine.Stop
        rename News _ _ _ _ => N12
        refine Mine.sub_three N12 (by k_mem) hw.1 hw.2 ?_
        intro v2 hv2
        obtain rfl : v = v2 := Option.some.inj (hv.symm.trans hv2)
        have hbg : (strValues e.brl).toArray.size ≤ sizeLine := by have := hOk.2.2.2.2.2; rw [hOk.2.1]; simp [strValues, sizeLine]; omega
        k_steps
        unfold Mine.Stop
        rename Fr _ _ _ _ => F13
        rename News _ _ _ _ => N13
        rw [Mine.push_texts] at N13
        have hA1 : adrs B O R A (p1 ++ (e.r1 v) :: p2) = adrs B O R A (p1 ++ e :: p2) := Mine.adrs_same rfl
        have hA2 : adrs B O R A (p1 ++ ((e.r1 v).r2 v) :: p2) = adrs B O R A (p1 ++ e :: p2) := Mine.adrs_same rfl
        have hl3 := cl2 _ _ _ _ N13 (by  k_mem) (by intro p hp; repeat (first | exact hp | refine List.Mem.tail _ ?_)) (Mine.led_put (e := (e.r1 v)) (e' := ((e.r1 v).r2 v)) (by rw [hA1]; exact hnd) (by rw [hA1]; exact hoff) (by simp [Ent.adr, Ent.u1, Ent.r1, Ent.d1, Ent.q1]) rfl rfl (Mine.put_r2 (e := (e.r1 v)) hea))
        refine' Mine.grow_end (p1 ++ ((e.r1 v).r2 v) :: p2, nB, nO) F13 N13 (fun p hp => hl3 p (List.mem_append.mpr (.inl hp))) (fun p hp => hl3 p (List.mem_append.mpr (.inr hp))) ?ha trivial ?hk ?hr ?hp
        case ha => rw [Mine.led_adr]; dsimp only; rw [hA2]; exact hoff
        case hk => kst_all
        case hr => kst_same
        case hp => refine ⟨by dsimp only; rw [hA2]; exact hnd, ?_, ?_⟩; (dsimp only; rw [List.length_append, List.length_cons] at hes8 ⊢; exact hes8); (rw [List.length_append]; exact Mine.ok_put hE ⟨hVi, hOk.1, congrArg (· ++ [v]) hOk.2.1, hOk.2.2.1, hOk.2.2.2.1, Nat.le_succ_of_le hOk.2.2.2.2.1, (by show (e.rl ++ [v]).length ≤ _; rw [List.length_append]; exact Nat.succ_le_succ hOk.2.2.2.2.2)⟩)
      · unfold Mine.Stop
        have hm0 : (0 : Int) < ((es.map fun e : Ent => Value.ref e.x).length : Int) := by rw [hlx]; omega
        have hkk := Mine.fmod_lt (x := n.fdiv 5) hm0
        obtain ⟨p1, e, p2, hsp, hpl⟩ := Mine.split_place (l := es) (i := ((n.fdiv 5).fmod ((es.map fun e : Ent => Value.ref e.x).length : Int)).toNat) (by omega)
        subst hsp
        subst hT
        obtain ⟨hea, hfix⟩ := Mine.ent_apart hnd
        have hea' := hea
        simp only [Ent.adr, List.nodup_cons, List.mem_cons, List.not_mem_nil, or_false, not_or, not_false_eq_true, List.nodup_nil, and_true] at hea'
        obtain ⟨⟨a1, a2, a3, a4, a5, a6⟩, ⟨b2, b3, b4, b5, b6⟩, ⟨c3, c4, c5, c6⟩, ⟨d4, d5, d6⟩, ⟨e5, e6⟩, f6⟩ := hea'
        obtain ⟨hVi, hOk⟩ := hE e (by simp)
        rename News _ _ _ _ => N9
        have hw := Mine.fmod_lt (x := (n.fdiv 5).fdiv ((List.map (fun e : Ent => Value.ref e.x) (p1 ++ e :: p2)).length : Int)) (m := 3) (by decide)
        rename Fr _ _ _ _ => F9
        obtain ⟨tw, htw⟩ := Mine.fr_tok F9 (y := Str.ofString "what") (X := ((n.fdiv 5).fdiv ((List.map (fun e : Ent => Value.ref e.x) (p1 ++ e :: p2)).length : Int)).fmod 3) (by rfl)
        obtain ⟨fO1, fB1, fR1, fA1⟩ := hfix e.d (by simp [Ent.adr])
        obtain ⟨T1, M1, hro1, cl1⟩ := Mine.open_at (e := e) N9 ((fun p hp => .tail _ hp)) (e.d) [(e.d, Mine.entD w.params e.t1 e.t2 e.t3 e.t4 e.u e.r e.dl e.rt), (e.x, instObj 52 e.d)] (by simp [Ent.cells, Ent.u1, Ent.r1, Ent.d1, Ent.q1])
        unfold Mine.entD at M1
        simp only [List.cons_append, List.nil_append] at M1
        refine Mine.sub_L M1 (by k_mem) (by omega) (by omega) (by first | (simp only [List.length_map]; omega) | (rw [hlm]; simp only [List.length_map]; omega) | (simp only [List.length_map, List.length_append, List.length_cons] at hes8 ⊢; omega)) (x := .ref e.x) (by unfold Mine.place; rw [if_neg (by omega), ← hpl]; exact Mine.place_at _ _ _ _) ?_
        k_steps
        unfold Mine.Stop
        rename News _ _ _ _ => N11
        rw [← htw] at N11
        have hl1 := cl1 _ _ _ _ N11 (by k_mem) (by intro p hp; repeat (first | exact hp | refine List.Mem.tail _ ?_)) (Mine.led_put (e' := (e.d1 (.int (((n.fdiv 5).fdiv ((List.map (fun e : Ent => Value.ref e.x) (p1 ++ e :: p2)).length : Int)).fmod 3) tw))) hnd hoff (by simp [Ent.adr]) rfl rfl (Mine.put_d1 hea))
        obtain ⟨fO2, fB2, fR2, fA2⟩ := hfix e.b (by simp [Ent.adr])
        obtain ⟨T2, M2, hro2, cl2⟩ := Mine.open_at (e := (e.d1 (.int (((n.fdiv 5).fdiv ((List.map (fun e : Ent => Value.ref e.x) (p1 ++ e :: p2)).length : Int)).fmod 3) tw))) N11 (hl1) (e.b) [(e.b, listOf [.ref e.bu, .ref e.br, e.bdl, e.brt].toArray e.nb)] (by simp [Ent.cells, Ent.u1, Ent.r1, Ent.d1, Ent.q1])
        simp only [List.cons_append, List.nil_append] at M2
        have hlm : ((p1 ++ (e.d1 (.int (((n.fdiv 5).fdiv ((List.map (fun e : Ent => Value.ref e.x) (p1 ++ e :: p2)).length : Int)).fmod 3) tw)) :: p2).map (fun e : Ent => Value.ref e.b)).length = ((p1 ++ e :: p2).map (fun e : Ent => Value.ref e.x)).length := by simp
        refine Mine.sub_L M2 (by k_mem) (by omega) (by omega) (by first | (simp only [List.length_map]; omega) | (rw [hlm]; simp only [List.length_map]; omega) | (simp only [List.length_map, List.length_append, List.length_cons] at hes8 ⊢; omega)) (x := .ref e.b) (by unfold Mine.place; rw [if_neg (by omega), ← hpl]; exact Mine.place_at _ _ _ _) ?_
        k_steps
        unfold Mine.Stop
        rename Fr _ _ _ _ => F13
        rename News _ _ _ _ => N13
        have hA1 : adrs B O R A (p1 ++ (e.d1 (.int (((n.fdiv 5).fdiv ((List.map (fun e : Ent => Value.ref e.x) (p1 ++ e :: p2)).length : Int)).fmod 3) tw)) :: p2) = adrs B O R A (p1 ++ e :: p2) := Mine.adrs_same rfl
        have hA2 : adrs B O R A (p1 ++ ((e.d1 (.int (((n.fdiv 5).fdiv ((List.map (fun e : Ent => Value.ref e.x) (p1 ++ e :: p2)).length : Int)).fmod 3) tw)).d2 (.int (((n.fdiv 5).fdiv ((List.map (fun e : Ent => Value.ref e.x) (p1 ++ e :: p2)).length : Int)).fmod 3) tw) e.nb) :: p2) = adrs B O R A (p1 ++ e :: p2) := Mine.adrs_same rfl
        have hl3 := cl2 _ _ _ _ N13 (by rw [htw];  k_mem) (by intro p hp; repeat (first | exact hp | refine List.Mem.tail _ ?_)) (Mine.led_put (e := (e.d1 (.int (((n.fdiv 5).fdiv ((List.map (fun e : Ent => Value.ref e.x) (p1 ++ e :: p2)).length : Int)).fmod 3) tw))) (e' := ((e.d1 (.int (((n.fdiv 5).fdiv ((List.map (fun e : Ent => Value.ref e.x) (p1 ++ e :: p2)).length : Int)).fmod 3) tw)).d2 (.int (((n.fdiv 5).fdiv ((List.map (fun e : Ent => Value.ref e.x) (p1 ++ e :: p2)).length : Int)).fmod 3) tw) e.nb)) (by rw [hA1]; exact hnd) (by rw [hA1]; exact hoff) (by simp [Ent.adr, Ent.u1, Ent.r1, Ent.d1, Ent.q1]) rfl rfl (Mine.put_d2 (e := (e.d1 (.int (((n.fdiv 5).fdiv ((List.map (fun e : Ent => Value.ref e.x) (p1 ++ e :: p2)).length : Int)).fmod 3) tw))) hea))
        refine' Mine.grow_end (p1 ++ ((e.d1 (.int (((n.fdiv 5).fdiv ((List.map (fun e : Ent => Value.ref e.x) (p1 ++ e :: p2)).length : Int)).fmod 3) tw)).d2 (.int (((n.fdiv 5).fdiv ((List.map (fun e : Ent => Value.ref e.x) (p1 ++ e :: p2)).length : Int)).fmod 3) tw) e.nb) :: p2, nB, nO) F13 N13 (fun p hp => hl3 p (List.mem_append.mpr (.inl hp))) (fun p hp => hl3 p (List.mem_append.mpr (.inr hp))) ?ha trivial ?hk ?hr ?hp
        case ha => rw [Mine.led_adr]; dsimp only; rw [hA2]; exact hoff
        case hk => kst_all
        case hr => kst_same
        case hp => refine ⟨by dsimp only; rw [hA2]; exact hnd, ?_, ?_⟩; (dsimp only; rw [List.length_append, List.length_cons] at hes8 ⊢; exact hes8); (rw [List.length_append]; exact Mine.ok_put hE ⟨⟨.inr ⟨_, _, rfl⟩, hVi.2⟩, hOk.1, hOk.2.1, rfl, hOk.2.2.2.1, Nat.le_succ_of_le hOk.2.2.2.2.1, Nat.le_succ_of_le hOk.2.2.2.2.2⟩)
      · unfold Mine.Stop
        have hm0 : (0 : Int) < ((es.map fun e : Ent => Value.ref e.x).length : Int) := by rw [hlx]; omega
        have hkk := Mine.fmod_lt (x := n.fdiv 5) hm0
        obtain ⟨p1, e, p2, hsp, hpl⟩ := Mine.split_place (l := es) (i := ((n.fdiv 5).fmod ((es.map fun e : Ent => Value.ref e.x).length : Int)).toNat) (by omega)
        subst hsp
        subst hT
        obtain ⟨hea, hfix⟩ := Mine.ent_apart hnd
        have hea' := hea
        simp only [Ent.adr, List.nodup_cons, List.mem_cons, List.not_mem_nil, or_false, not_or, not_false_eq_true, List.nodup_nil, and_true] at hea'
        obtain ⟨⟨a1, a2, a3, a4, a5, a6⟩, ⟨b2, b3, b4, b5, b6⟩, ⟨c3, c4, c5, c6⟩, ⟨d4, d5, d6⟩, ⟨e5, e6⟩, f6⟩ := hea'
        obtain ⟨hVi, hOk⟩ := hE e (by simp)
        rename News _ _ _ _ => N9
        have hw := Mine.fmod_lt (x := (n.fdiv 5).fdiv ((List.map (fun e : Ent => Value.ref e.x) (p1 ++ e :: p2)).length : Int)) (m := 3) (by decide)
        rename Fr _ _ _ _ => F9
        obtain ⟨tw, htw⟩ := Mine.fr_tok F9 (y := Str.ofString "what") (X := ((n.fdiv 5).fdiv ((List.map (fun e : Ent => Value.ref e.x) (p1 ++ e :: p2)).length : Int)).fmod 3) (by rfl)
        obtain ⟨fO1, fB1, fR1, fA1⟩ := hfix e.d (by simp [Ent.adr])
        obtain ⟨T1, M1, hro1, cl1⟩ := Mine.open_at (e := e) N9 ((fun p hp => .tail _ hp)) (e.d) [(e.d, Mine.entD w.params e.t1 e.t2 e.t3 e.t4 e.u e.r e.dl e.rt), (e.x, instObj 52 e.d)] (by simp [Ent.cells, Ent.u1, Ent.r1, Ent.d1, Ent.q1])
        unfold Mine.entD at M1
        simp only [List.cons_append, List.nil_append] at M1
        refine Mine.sub_L M1 (by k_mem) (by omega) (by omega) (by first | (simp only [List.length_map]; omega) | (rw [hlm]; simp only [List.length_map]; omega) | (simp only [List.length_map, List.length_append, List.length_cons] at hes8 ⊢; omega)) (x := .ref e.x) (by unfold Mine.place; rw [if_neg (by omega), ← hpl]; exact Mine.place_at _ _ _ _) ?_
        k_steps
        unfold Mine.Stop
        rename News _ _ _ _ => N11
        rw [← htw] at N11
        have hl1 := cl1 _ _ _ _ N11 (by k_mem) (by intro p hp; repeat (first | exact hp | refine List.Mem.tail _ ?_)) (Mine.led_put (e' := (e.q1 (.int (((n.fdiv 5).fdiv ((List.map (fun e : Ent => Value.ref e.x) (p1 ++ e :: p2)).length : Int)).fmod 3) tw))) hnd hoff (by simp [Ent.adr]) rfl rfl (Mine.put_q1 hea))
        obtain ⟨fO2, fB2, fR2, fA2⟩ := hfix e.b (by simp [Ent.adr])
        obtain ⟨T2, M2, hro2, cl2⟩ := Mine.open_at (e := (e.q1 (.int (((n.fdiv 5).fdiv ((List.map (fun e : Ent => Value.ref e.x) (p1 ++ e :: p2)).length : Int)).fmod 3) tw))) N11 (hl1) (e.b) [(e.b, listOf [.ref e.bu, .ref e.br, e.bdl, e.brt].toArray e.nb)] (by simp [Ent.cells, Ent.u1, Ent.r1, Ent.d1, Ent.q1])
        simp only [List.cons_append, List.nil_append] at M2
        have hlm : ((p1 ++ (e.q1 (.int (((n.fdiv 5).fdiv ((List.map (fun e : Ent => Value.ref e.x) (p1 ++ e :: p2)).length : Int)).fmod 3) tw)) :: p2).map (fun e : Ent => Value.ref e.b)).length = ((p1 ++ e :: p2).map (fun e : Ent => Value.ref e.x)).length := by simp
        refine Mine.sub_L M2 (by k_mem) (by omega) (by omega) (by first | (simp only [List.length_map]; omega) | (rw [hlm]; simp only [List.length_map]; omega) | (simp only [List.length_map, List.length_append, List.length_cons] at hes8 ⊢; omega)) (x := .ref e.b) (by unfold Mine.place; rw [if_neg (by omega), ← hpl]; exact Mine.place_at _ _ _ _) ?_
        k_steps
        unfold Mine.Stop
        rename Fr _ _ _ _ => F13
        rename News _ _ _ _ => N13
        have hA1 : adrs B O R A (p1 ++ (e.q1 (.int (((n.fdiv 5).fdiv ((List.map (fun e : Ent => Value.ref e.x) (p1 ++ e :: p2)).length : Int)).fmod 3) tw)) :: p2) = adrs B O R A (p1 ++ e :: p2) := Mine.adrs_same rfl
        have hA2 : adrs B O R A (p1 ++ ((e.q1 (.int (((n.fdiv 5).fdiv ((List.map (fun e : Ent => Value.ref e.x) (p1 ++ e :: p2)).length : Int)).fmod 3) tw)).q2 (.int (((n.fdiv 5).fdiv ((List.map (fun e : Ent => Value.ref e.x) (p1 ++ e :: p2)).length : Int)).fmod 3) tw) e.nb) :: p2) = adrs B O R A (p1 ++ e :: p2) := Mine.adrs_same rfl
        have hl3 := cl2 _ _ _ _ N13 (by rw [htw];  k_mem) (by intro p hp; repeat (first | exact hp | refine List.Mem.tail _ ?_)) (Mine.led_put (e := (e.q1 (.int (((n.fdiv 5).fdiv ((List.map (fun e : Ent => Value.ref e.x) (p1 ++ e :: p2)).length : Int)).fmod 3) tw))) (e' := ((e.q1 (.int (((n.fdiv 5).fdiv ((List.map (fun e : Ent => Value.ref e.x) (p1 ++ e :: p2)).length : Int)).fmod 3) tw)).q2 (.int (((n.fdiv 5).fdiv ((List.map (fun e : Ent => Value.ref e.x) (p1 ++ e :: p2)).length : Int)).fmod 3) tw) e.nb)) (by rw [hA1]; exact hnd) (by rw [hA1]; exact hoff) (by simp [Ent.adr, Ent.u1, Ent.r1, Ent.d1, Ent.q1]) rfl rfl (Mine.put_q2 (e := (e.q1 (.int (((n.fdiv 5).fdiv ((List.map (fun e : Ent => Value.ref e.x) (p1 ++ e :: p2)).length : Int)).fmod 3) tw))) hea))
        refine' Mine.grow_end (p1 ++ ((e.q1 (.int (((n.fdiv 5).fdiv ((List.map (fun e : Ent => Value.ref e.x) (p1 ++ e :: p2)).length : Int)).fmod 3) tw)).q2 (.int (((n.fdiv 5).fdiv ((List.map (fun e : Ent => Value.ref e.x) (p1 ++ e :: p2)).length : Int)).fmod 3) tw) e.nb) :: p2, nB, nO) F13 N13 (fun p hp => hl3 p (List.mem_append.mpr (.inl hp))) (fun p hp => hl3 p (List.mem_append.mpr (.inr hp))) ?ha trivial ?hk ?hr ?hp
        case ha => rw [Mine.led_adr]; dsimp only; rw [hA2]; exact hoff
        case hk => kst_all
        case hr => kst_same
        case hp => refine ⟨by dsimp only; rw [hA2]; exact hnd, ?_, ?_⟩; (dsimp only; rw [List.length_append, List.length_cons] at hes8 ⊢; exact hes8); (rw [List.length_append]; exact Mine.ok_put hE ⟨⟨hVi.1, .inr ⟨_, _, rfl⟩⟩, hOk.1, hOk.2.1, hOk.2.2.1, rfl, Nat.le_succ_of_le hOk.2.2.2.2.1, Nat.le_succ_of_le hOk.2.2.2.2.2⟩)
  case done =>
    rintro ⟨es, nB, nO⟩ u h tk _ hP Ft Nt
    dsimp only at hP Ft Nt
    simp only [kstB] at Ft
    obtain ⟨hnd, hes8, hE⟩ := hP
    (try dsimp only at hnd hes8 hE)
    have hMk := kstMark
    (try k_fold)
    k_steps
    unfold Mine.Stop
    with_unfolding_all refine' For_turns (by assumption) ?_
    k_steps
    unfold Mine.Stop
    rename Fr _ _ _ _ => F8
    rename News _ _ _ _ => N8
    rename (∀ (p : Addr × Obj), p ∈ _ → @LT.lt Nat _ p.1 _) => hX
    with_unfolding_all refine' ktu_zip (xs := es.map fun e : Ent => Value.ref e.x) (ys := es.map fun e : Ent => Value.ref e.b) rfl F8 N8 (by k_mem) rfl rfl (by k_mem) rfl rfl ?_
    intro I hI
    refine Mine.zip_start [Str.ofString "one", Str.ofString "book"] es ?_ ?_
    · rintro done e post u3 k3 T3 h3 tk3 hsp hT3 F3
      ktu_objs
      have hnd' := hnd
      rw [hsp] at hnd'
      obtain ⟨hea, _⟩ := Mine.ent_apart hnd'
      have hea' := hea
      simp only [Ent.adr, List.nodup_cons, List.mem_cons, List.not_mem_nil, or_false, not_or, not_false_eq_true, List.nodup_nil, and_true] at hea'
      obtain ⟨⟨a1, a2, a3, a4, a5, a6⟩, ⟨b2, b3, b4, b5, b6⟩, ⟨c3, c4, c5, c6⟩, ⟨d4, d5, d6⟩, ⟨e5, e6⟩, f6⟩ := hea'
      obtain ⟨⟨hv1, hv2⟩, hOk⟩ := hE e (by rw [hsp]; simp)
      rename News _ _ _ _ => N3
      have hz := fun (h' : Heap) (news : List (Addr × Obj)) (o' : Obj) (N) (h1) (h2) => Mine.zend (its := [_, _, _, _, _]) (o' := o') (h' := h') (news := news) N3 N h1 h2 (fun p hp => ltN (hX p hp)) (ltN (hI _ (List.Mem.head _))) (by intro p hp; simp only [List.mem_cons, List.not_mem_nil, or_false] at hp; rcases hp with rfl | rfl | rfl | rfl | rfl <;> first | exact Nat.le_refl _ | exact Nat.le_add_right _ _)
      have N4 := Mine.open_zip (its := [_, _, _, _, _]) N3 (Mine.cells_in (q := w.params) hsp)
      have hlt := fun p hp => hX p (Mine.cells_in hsp p hp)
      simp only [Ent.cells, Mine.entD, List.cons_append, List.nil_append, List.forall_mem_cons, hOk.1, hOk.2.1, hOk.2.2.1, hOk.2.2.2.1] at N4 hlt
      obtain ⟨g1, g2, g3, g4, g5, g6, g7, _⟩ := hlt
      try dsimp only at g1 g2 g3 g4 g5 g6 g7
      k_lt2 g1; k_lt2 g2; k_lt2 g3; k_lt2 g4; k_lt2 g5; k_lt2 g6; k_lt2 g7
      have hlz : (Mine.zl done).length ≤ 16 := by rw [Mine.zl_length]; have := congrArg List.length hsp; rw [List.length_append, List.length_cons] at this; omega
      obtain ⟨T4, hT4, N5, hro⟩ := Mine.with_off N4
      clear N4
      rcases hv1 with hv1 | ⟨x1, y1, hv1⟩ <;> rcases hv2 with hv2 | ⟨x2, y2, hv2⟩
      all_goals rw [hv1, hv2] at N5
      all_goals k_steps
      · unfold Mine.Stop
        rename News _ _ _ _ => N6
        refine Mine.ne_bookN (xs := (strValues e.ag).toArray) (ys := (strValues e.rl).toArray) N6 (by k_mem) (by k_mem) (by k_mem) (by k_mem) (by k_mem) (by k_mem) c5 d6 (by ke_room) (by ke_room) ?_
        k_steps
        unfold Mine.Stop
        rename Fr _ _ _ _ => F9
        rename News _ _ _ _ => N9
        refine kl_extend (its := (Mine.zl done).toArray) (its2 := #[.ref e.u, .ref e.r]) (l := Mine.zl (done ++ [e])) F9 N9 (by k_mem) (by rw [Mine.zl_snoc]) (by simp) (by k_upd) (Mine.ext_ok hlz) (Mine.ext_ok1 hlz) (Mine.ext_ok2 hlz) (fun h9 F9' N9' => ?_)
        k_steps
        unfold Mine.Stop
        rename Fr _ _ _ _ => FE
        rename News _ _ _ _ => NE
        obtain ⟨hz1, hz2⟩ := hz _ _ _ NE (by k_mem) (by intro p hp; have hq : p ∈ T4 := (by rw [hT4]; exact hp); repeat (first | exact hq | refine List.Mem.tail _ ?_))
        refine ⟨_, _, _, _, rfl, FE, hz1, hz2, ⟨by k_mem, by k_mem, trivial⟩, _, _, Mine.same_names (u := u3) (fun y hy => ?_), rfl⟩
        have hy1 : ¬ y = Str.ofString "book" := by rintro rfl; revert hy; decide +kernel
        have hy2 : ¬ y = Str.ofString "one" := by rintro rfl; revert hy; decide +kernel
        simp only [if_neg hy1, if_neg hy2]
      · unfold Mine.Stop
        rename News _ _ _ _ => N6
        refine Mine.ne_bookN (xs := (strValues e.ag).toArray) (ys := (strValues e.rl).toArray) N6 (by k_mem) (by k_mem) (by k_mem) (by k_mem) (by k_mem) (by k_mem) c5 d6 (by ke_room) (by ke_room) ?_
        k_steps
        unfold Mine.Stop
        rename Fr _ _ _ _ => F9
        rename News _ _ _ _ => N9
        refine kl_extend (its := (Mine.zl done).toArray) (its2 := #[.ref e.u, .ref e.r]) (l := Mine.zl (done ++ [e])) F9 N9 (by k_mem) (by rw [Mine.zl_snoc]) (by simp) (by k_upd) (Mine.ext_ok hlz) (Mine.ext_ok1 hlz) (Mine.ext_ok2 hlz) (fun h9 F9' N9' => ?_)
        k_steps
        unfold Mine.Stop
        rename Fr _ _ _ _ => FE
        rename News _ _ _ _ => NE
        obtain ⟨hz1, hz2⟩ := hz _ _ _ NE (by k_mem) (by intro p hp; have hq : p ∈ T4 := (by rw [hT4]; exact hp); repeat (first | exact hq | refine List.Mem.tail _ ?_))
        refine ⟨_, _, _, _, rfl, FE, hz1, hz2, ⟨by k_mem, by k_mem, trivial⟩, _, _, Mine.same_names (u := u3) (fun y hy => ?_), rfl⟩
        have hy1 : ¬ y = Str.ofString "book" := by rintro rfl; revert hy; decide +kernel
        have hy2 : ¬ y = Str.ofString "one" := by rintro rfl; revert hy; decide +kernel
        simp only [if_neg hy1, if_neg hy2]
      · unfold Mine.Stop
        rename News _ _ _ _ => N6
        refine Mine.ne_bookN (xs := (strValues e.ag).toArray) (ys := (strValues e.rl).toArray) N6 (by k_mem) (by k_mem) (by k_mem) (by k_mem) (by k_mem) (by k_mem) c5 d6 (by ke_room) (by ke_room) ?_
        k_steps
        unfold Mine.Stop
        rename Fr _ _ _ _ => F9
        rename News _ _ _ _ => N9
        refine kl_extend (its := (Mine.zl done).toArray) (its2 := #[.ref e.u, .ref e.r]) (l := Mine.zl (done ++ [e])) F9 N9 (by k_mem) (by rw [Mine.zl_snoc]) (by simp) (by k_upd) (Mine.ext_ok hlz) (Mine.ext_ok1 hlz) (Mine.ext_ok2 hlz) (fun h9 F9' N9' => ?_)
        k_steps
        unfold Mine.Stop
        rename Fr _ _ _ _ => FE
        rename News _ _ _ _ => NE
        obtain ⟨hz1, hz2⟩ := hz _ _ _ NE (by k_mem) (by intro p hp; have hq : p ∈ T4 := (by rw [hT4]; exact hp); repeat (first | exact hq | refine List.Mem.tail _ ?_))
        refine ⟨_, _, _, _, rfl, FE, hz1, hz2, ⟨by k_mem, by k_mem, trivial⟩, _, _, Mine.same_names (u := u3) (fun y hy => ?_), rfl⟩
        have hy1 : ¬ y = Str.ofString "book" := by rintro rfl; revert hy; decide +kernel
        have hy2 : ¬ y = Str.ofString "one" := by rintro rfl; revert hy; decide +kernel
        simp only [if_neg hy1, if_neg hy2]
      · unfold Mine.Stop
        rename News _ _ _ _ => N6
        refine Mine.ne_bookN (xs := (strValues e.ag).toArray) (ys := (strValues e.rl).toArray) N6 (by k_mem) (by k_mem) (by k_mem) (by k_mem) (by k_mem) (by k_mem) c5 d6 (by ke_room) (by ke_room) ?_
        k_steps
        unfold Mine.Stop
        rename Fr _ _ _ _ => F9
        rename News _ _ _ _ => N9
        refine kl_extend (its := (Mine.zl done).toArray) (its2 := #[.ref e.u, .ref e.r]) (l := Mine.zl (done ++ [e])) F9 N9 (by k_mem) (by rw [Mine.zl_snoc]) (by simp) (by k_upd) (Mine.ext_ok hlz) (Mine.ext_ok1 hlz) (Mine.ext_ok2 hlz) (fun h9 F9' N9' => ?_)
        k_steps
        unfold Mine.Stop
        rename Fr _ _ _ _ => FE
        rename News _ _ _ _ => NE
        obtain ⟨hz1, hz2⟩ := hz _ _ _ NE (by k_mem) (by intro p hp; have hq : p ∈ T4 := (by rw [hT4]; exact hp); repeat (first | exact hq | refine List.Mem.tail _ ?_))
        refine ⟨_, _, _, _, rfl, FE, hz1, hz2, ⟨by k_mem, by k_mem, trivial⟩, _, _, Mine.same_names (u := u3) (fun y hy => ?_), rfl⟩
        have hy1 : ¬ y = Str.ofString "book" := by rintro rfl; revert hy; decide +kernel
        have hy2 : ¬ y = Str.ofString "one" := by rintro rfl; revert hy; decide +kernel
        simp only [if_neg hy1, if_neg hy2]
    · intro u3 k3 h3 tk3 F3 N3
      have hzl := Mine.zl_length es
      k_steps
      unfold Mine.Stop
      rename IsRange _ _ _ _ _ _ _ _ => rg
      rename Fr _ _ _ _ => F5
      rename News _ _ _ _ => N5
      with_unfolding_all refine' Mine.range_fix [Str.ofString "j"] rfl rg (small_one (by omega) (by omega) (by omega) (by omega)) (rangeSize_nat _ _) F5 N5 ?turn2 ?done2
      case turn2 =>
        rintro pre2 i t2 u2 h2' tk2 own2 hi2 hi3 hoff2 Ft2 Nt2
        (try dsimp only at Ft2 Nt2)
        (try simp only [List.cons_append] at Nt2)
        k_steps
        unfold Mine.Stop
        rename IsRange _ _ _ _ _ _ _ _ => rg2
        rename Fr _ _ _ _ => F6
        rename News _ _ _ _ => N6
        with_unfolding_all refine' Mine.range_fix [] rfl rg2 (small_one (by omega) (by omega) (by omega) (by omega)) (rangeSize_nat _ _) F6 N6 ?turn3 ?done3
        case turn3 =>
          rintro pre3 j t3 u4 h4' tk4 own3 hj2 hj3 hoff3 Ft3 Nt3
          (try dsimp only at Ft3 Nt3)
          k_steps
          unfold Mine.Stop
          rename News _ _ _ _ => N7
          obtain ⟨a1, ha1, ha2⟩ := Mine.zl_at (es := es) (i := i) (n := (Mine.zl es).length) rfl (by omega) (by omega)
          obtain ⟨b1, hb1, hb2⟩ := Mine.zl_at (es := es) (i := j) (n := (Mine.zl es).length) rfl (by omega) (by omega)
          refine Mine.sub_L N7 (by k_mem) (by omega) (by omega) (by omega) ha2 ?_
          k_steps
          unfold Mine.Stop
          rename News _ _ _ _ => N7
          refine Mine.sub_L N7 (by k_mem) (by omega) (by omega) (by omega) hb2 ?_
          k_steps
          unfold Mine.Stop
          rename News _ _ _ _ => N7
          refine Mine.is_no (q := w.params) (B := B) (O := O) (R := R) (A' := A) N7 (by intro p hp; repeat (first | exact hp | refine List.mem_append_left _ ?_ | refine List.Mem.tail _ ?_)) (List.mem_of_getElem? ha1) (List.mem_of_getElem? hb1) (Mine.za_ne (Mine.za_nodup hnd) ha1 hb1 (by omega)) ?_
          k_steps
          unfold Mine.Stop
          rename Fr _ _ _ _ => F9
          rename News _ _ _ _ => N9
          refine' kst_end () F9 N9 ?hn ?ho rfl trivial ?hk ?hr trivial
          case hk => intro p hp; cases hp
          case hn => intro p hp; exact List.mem_append_left _ hp
          case ho => intro p hp; exact List.mem_append_right _ hp
          case hr => kst_same
        case done3 =>
          rintro u5 h5 tk5 Ft5 Nt5
          k_steps
          unfold Mine.Stop
          refine' kst_end () Ft5 Nt5 ?hn ?ho rfl trivial ?hk ?hr trivial
          case hk => intro p hp; cases hp
          case hn => intro p hp; exact List.mem_append_left _ hp
          case ho => intro p hp; first | exact List.mem_append_right _ hp | exact List.Mem.tail _ (List.mem_append_right _ hp)
          case hr => kst_same
      case done2 =>
        rintro u6 h6 tk6 Ft6 Nt6
        k_steps
end Mine
open Mine

theorem PySem.Challenge.cw_kn0090_10_holds : PySem.Challenge.rw_kn0090_10.Holds := by
  exact law10
end

