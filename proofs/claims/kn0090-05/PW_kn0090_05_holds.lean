import PyProof.Rows.All
import Wide.All
import OpenK.AllK
import Wide.FinOn
import PySem.Challenge.RW_kn0090_05
open PySem PySem.W PyProof.Rows PySem.Spec
set_option Elab.async false
set_option maxRecDepth 100000

section
namespace Mine

def Grow (h h' : Heap) : Prop := ∀ b o, h.get? b = some o → h'.get? b = some o
theorem Grow.refl (h : Heap) : Grow h h := fun _ _ e => e
theorem Grow.trans {a b c : Heap} (x : Grow a b) (y : Grow b c) : Grow a c := fun i o e => y i o (x i o e)

section
variable {prog : Program} {w : World} {A : Around} {E : Value → Shared → Prop} {s : Shared}

/-- the table f tells of each sign's number -/
def Tells1 (f : Int → Option Value) (P : Nat → Option Str) : Prop :=
  ∀ c : Nat, match P c with | some x => ∃ u, f (c : Int) = some (.str x u) | none => f (c : Int) = none

theorem lookup_spec {d : Addr} {f : Int → Option Value} {P : Nat → Option Str} (hf : Tells1 f P) (c : Nat) {Q : Builtin.Str.Mapped → Shared → Prop}
    (hh : A.handled = none) (hd : (d == sysModules) = false) (hm : s.heap.MapOf (intKind prog w) d f)
    (hQ : ∀ h' tk', Grow s.heap h' → Q (match P c with | some x => .text x | none => .keep) { s with heap := h', toks := tk' }) :
    wpAny (model prog w) A (Builtin.Str.tableLookup (.ref d) c) Q E s := by
  unfold Builtin.Str.tableLookup
  have hc := hf c
  refine wpAny_bind (wpAny_attempt ?_)
  refine wpAny_bind (wpAny_mkInt ?_)
  cases hp : P c with
  | some x =>
    rw [hp] at hc hQ
    obtain ⟨u, hu⟩ := hc
    refine wpAny_getItem_of (intKind_is prog w c s.toks) (s := { s with toks := s.toks + 1 }) hm hu ?_
    dsimp only
    refine wpAny_bind (m := asInt? (.str x u)) (wpAny_pure ?_)
    dsimp only
    refine wpAny_bind (m := asStr? (.str x u)) (wpAny_pure ?_)
    dsimp only
    exact wpAny_pure (hQ _ _ (Grow.refl _))
  | none =>
    rw [hp] at hc hQ
    refine wpAny_getItem_missing_of (intKind_is prog w c s.toks) (s := { s with toks := s.toks + 1 }) hd hh hm hc ?_
    intro h' e hx
    dsimp only
    refine wpAny_bind (wpAny_isInstance (T := "KeyError") (b := true) ?_ (by rw [isSubtype_type]; kernel_rfl) ?_)
    · obtain ⟨ob, t, h1, h2, _⟩ := hx.there
      exact ⟨ob, h1, h2⟩
    · rw [if_pos rfl]
      refine wpAny_bind (wpAny_rule (wpAny_pure (hQ _ _ hx.1)))
end

/-- what a sign becomes -/
def trC (P : Nat → Option Str) (c : Nat) : List Nat := match P c with | some x => x.cps.toList | none => [c]
theorem trC_len {P : Nat → Option Str} (hb : ∀ c x, P c = some x → x.length ≤ 2) (c : Nat) : (trC P c).length ≤ 2 := by
  unfold trC
  cases h : P c with
  | none => simp
  | some x => have := hb c x h; simpa [Str.length] using this
theorem tr_len {P : Nat → Option Str} (hb : ∀ c x, P c = some x → x.length ≤ 2) : ∀ l : List Nat, (l.flatMap (trC P)).length ≤ 2 * l.length
  | [] => by simp
  | c :: r => by
    have h1 := trC_len hb c
    have h2 := tr_len hb r
    simp only [List.flatMap_cons, List.length_append, List.length_cons]
    omega
def trS (P : Nat → Option Str) (x : Str) : Str := ⟨(x.cps.toList.flatMap (trC P)).toArray⟩

structure TrInv (P : Nat → Option Str) (all rest : List Nat) (b : List Str × Nat × Bool × List (Nat × Option Nat) × Bool) : Prop where
  d : ∃ done, all = done ++ rest ∧ b.1.reverse.flatMap (fun p => p.cps.toList) = done.flatMap (trC P) ∧ b.2.1 = (done.flatMap (trC P)).length
  known : ∀ c a, b.2.2.2.1.lookup c = some a → ∃ d, a = some d ∧ trC P c = [d]
  drop : b.2.2.2.2 = false

theorem TrInv.step {P : Nat → Option Str} {all rest : List Nat} {c : Nat} {pieces : List Str} {total : Nat} {fast fast' : Bool} {known known' : List (Nat × Option Nat)} {ad : Bool} (I : TrInv P all (c :: rest) (pieces, total, fast, known, ad))
    (x : Str) (hx : x.cps.toList = trC P c) (n : Nat) (hn : n = x.length) (hk : ∀ c a, known'.lookup c = some a → ∃ d, a = some d ∧ trC P c = [d]) : TrInv P all rest (x :: pieces, total + n, fast', known', false) := by
  obtain ⟨⟨done, h1, h2, h3⟩, _, _⟩ := I
  refine ⟨⟨done ++ [c], by simp [h1], ?_, ?_⟩, hk, rfl⟩
  · simp only [List.reverse_cons, List.flatMap_append, List.flatMap_cons, List.flatMap_nil, List.append_nil] at h2 ⊢
    rw [h2, hx]
  · simp only [List.flatMap_append, List.flatMap_cons, List.flatMap_nil, List.append_nil, List.length_append] at h3 ⊢
    rw [h3, ← hx, hn]; simp [Str.length]

section
variable {prog : Program} {w : World} {A : Around} {E : Value → Shared → Prop} {s : Shared}
theorem translate_spec {d : Addr} {f : Int → Option Value} {P : Nat → Option Str} (hf : Tells1 f P) (hb : ∀ c x, P c = some x → x.length ≤ 2) (x : Str) (t : Tok) (hsz : 2 * x.length ≤ sizeLine) {Q : Value → Shared → Prop}
    (hh : A.handled = none) (hd : (d == sysModules) = false) (hm : s.heap.MapOf (intKind prog w) d f)
    (hQ : ∀ h' tk' t', Grow s.heap h' → Q (.str (trS P x) t') { s with heap := h', toks := tk' }) :
    wpAny (model prog w) A (call (.builtin "str.translate") [.str x t, .ref d]) Q E s := by
  refine wpAny_call (codeAny_call_builtin F.slot_str_translate.plain F.entry_str_translate (F.slot_str_translate.check _ _ _ _ _ _ _ _ (typeIs_str s x t) (F.args_str_translate_2 _ _) ?_))
  unfold Builtin.«str.translate»
  refine wpAny_bind (m := Builtin.Str.strOneArg "translate" _) (wpAny_pure ?_)
  dsimp only
  by_cases hz : (x.length == 0) = true
  · rw [if_pos hz]
    refine wpAny_bind (wpAny_rule ?_)
    refine wpAny_bind (m := Builtin.Str.strUnchanged _ _) (wpAny_pure (wpAny_pure ?_))
    have hx0 : x.cps = #[] := by
      have : x.cps.size = 0 := by simpa [Str.length] using hz
      exact Array.eq_empty_of_size_eq_zero this
    have e : trS P x = x := by
      obtain ⟨c⟩ := x; simp only at hx0; subst hx0; rfl
    have := hQ s.heap s.toks t (Grow.refl _)
    rw [e] at this
    exact this
  · rw [if_neg hz]
    have hle : ∀ done rest : List Nat, x.cps.toList = done ++ rest → (done.flatMap (trC P)).length ≤ sizeLine := by
      intro done rest h
      have h1 := tr_len hb done
      have h2 : x.length = done.length + rest.length := by
        have := congrArg List.length h
        simpa [Str.length] using this
      omega
    have hlong : ∀ n, n ≤ sizeLine → ¬ Builtin.Str.tooLong n = true := by
      intro n hn; simp only [Builtin.Str.tooLong, decide_eq_true_eq]; omega
    refine wpAny_bind ?_
    refine MeetsSeq2.wpAny_forIn_array _ (fun rest b s' => TrInv P x.cps.toList rest b ∧ ∃ h' tk', s' = { s with heap := h', toks := tk' } ∧ Grow s.heap h') _ ?_ ?_ _ _ ?_
    · rintro c rest ⟨pieces, total, fast, known, ad⟩ s' ⟨I, h', tk', rfl, hg⟩
      dsimp only
      have hadf : ad = false := I.drop
      subst hadf
      obtain ⟨done, hd1, hd2, hd3⟩ := I.d
      dsimp only at hd2 hd3
      rw [if_neg (hlong total (by rw [hd3]; exact hle done _ hd1))]
      have slow : ∀ (fast' : Bool) (h₁ : Heap) (tk₁ : Nat), Grow s.heap h₁ → wpAny (model prog w) A.in1 (do
                  let __do_lift ← Builtin.Str.tableLookup (Value.ref d) c
                  match __do_lift with
                    | Builtin.Str.Mapped.keep =>
                      pure (ForInStep.yield (({ cps := #[c] } : Str) :: pieces, total + 1, fast', known, false))
                    | Builtin.Str.Mapped.drop => pure (ForInStep.yield (pieces, total, fast', known, true))
                    | Builtin.Str.Mapped.char d =>
                      pure (ForInStep.yield ({ cps := #[d] } :: pieces, total + 1, fast', known, false))
                    | Builtin.Str.Mapped.text t =>
                      pure (ForInStep.yield (t :: pieces, total + t.length, fast', known, false)))
            (fun r s' => match r with
              | .yield b' => TrInv P x.cps.toList rest b' ∧ ∃ h' tk', s' = { s with heap := h', toks := tk' } ∧ Grow s.heap h'
              | .done b' => False) (fun e s' => E e s') { s with heap := h₁, toks := tk₁ } := by
        intro fast' h₁ tk₁ hg₁
        have hm₁ : h₁.MapOf (intKind prog w) d f := let ⟨o, es, ep, ho, r⟩ := hm; ⟨o, es, ep, hg₁ _ _ ho, r⟩
        refine wpAny_bind (lookup_spec (s := { s with heap := h₁, toks := tk₁ }) hf c hh hd hm₁ ?_)
        intro h₂ tk₂ hg₂
        cases hp : P c with
        | none => exact wpAny_pure ⟨I.step ⟨#[c]⟩ (by simp [trC, hp]) 1 rfl I.known, h₂, tk₂, rfl, hg₁.trans hg₂⟩
        | some y => exact wpAny_pure ⟨I.step y (by simp [trC, hp]) _ rfl I.known, h₂, tk₂, rfl, hg₁.trans hg₂⟩
      suffices hgoal : wpAny (model prog w) A.in1 _ (fun (r : ForInStep (List Str × Nat × Bool × List (Nat × Option Nat) × Bool)) s' => match r with
              | .yield b' => TrInv P x.cps.toList rest b' ∧ ∃ h' tk', s' = { s with heap := h', toks := tk' } ∧ Grow s.heap h'
              | .done b' => False) (fun e s' => E e s') { s with heap := h', toks := tk' } from
        wpAny_mono hgoal (fun r s' hr => by cases r with | yield b' => exact hr | done b' => exact hr.elim) (fun _ _ y => y)
      have hm₁ : h'.MapOf (intKind prog w) d f := let ⟨o, es, ep, ho, r⟩ := hm; ⟨o, es, ep, hg _ _ ho, r⟩
      cases fast with
      | false =>
        simp only [Bool.false_eq_true, if_false]
        exact slow _ _ _ hg
      | true =>
        simp only [if_true, Bool.false_eq_true, if_false]
        cases hkn : List.lookup c known with
        | some a =>
          obtain ⟨dd, rfl, hdd⟩ := I.known c a hkn
          dsimp only
          exact wpAny_bind (wpAny_pure (wpAny_pure ⟨I.step ⟨#[dd]⟩ (by simp [hdd]) 1 rfl I.known, h', tk', rfl, hg⟩))
        | none =>
          dsimp only
          refine wpAny_bind (lookup_spec (s := { s with heap := h', toks := tk' }) hf c hh hd hm₁ ?_)
          intro h₂ tk₂ hg₂
          have hknown : ∀ dd, trC P c = [dd] → ∀ c' a, ((c, some dd) :: known).lookup c' = some a → ∃ d, a = some d ∧ trC P c' = [d] := by
            intro dd hdd c' a hl
            rw [List.lookup_cons] at hl
            split at hl
            · rename_i he
              have : c' = c := by simpa using he
              subst this
              exact ⟨dd, (Option.some.inj hl).symm, hdd⟩
            · exact I.known c' a hl
          cases hp : P c with
          | none =>
            dsimp only
            have hc1 : trC P c = [c] := by simp [trC, hp]
            exact wpAny_bind (wpAny_pure (wpAny_pure ⟨I.step ⟨#[c]⟩ (by simp [hc1]) 1 rfl (hknown c hc1), h₂, tk₂, rfl, hg.trans hg₂⟩))
          | some y =>
            dsimp only
            by_cases hy : (y.length == 1 && y.cps.all fun x => decide (x < 128)) = true
            · rw [if_pos hy]
              have hy1 : y.cps.size = 1 := by
                have := (Bool.and_eq_true_iff.mp hy).1
                simpa [Str.length] using this
              obtain ⟨dd, hdd⟩ : ∃ dd, y.cps[0]? = some dd := ⟨y.cps[0], by simp [hy1]⟩
              have hc1 : trC P c = [dd] := by
                simp only [trC, hp]
                obtain ⟨⟨l⟩⟩ := y
                match l, hy1 with
                | [z], _ => simp at hdd; simp [hdd]
              rw [hdd]
              dsimp only
              exact wpAny_bind (wpAny_pure (wpAny_pure ⟨I.step ⟨#[dd]⟩ (by simp [hc1]) 1 rfl (hknown dd hc1), h₂, tk₂, rfl, hg.trans hg₂⟩))
            · rw [if_neg hy]
              dsimp only
              exact wpAny_bind (wpAny_pure (wpAny_bind (wpAny_rule (slow _ _ _ (hg.trans hg₂)))))
    · rintro ⟨pieces, total, fast, known, ad⟩ s' ⟨I, h', tk', rfl, hg⟩
      obtain ⟨done, hd1, hd2, hd3⟩ := I.d
      dsimp only at hd2 hd3
      dsimp only
      have hall : x.cps.toList = done := by simpa using hd1
      rw [if_neg (hlong total (by rw [hd3]; exact hle done [] hd1))]
      have hfold : ∀ (l : List Str) (acc : Array Nat), (l.foldl (fun acc p => acc ++ p.cps) acc).toList = acc.toList ++ l.flatMap (fun p => p.cps.toList) := by
        intro l
        induction l with
        | nil => simp
        | cons a r ih => intro acc; simp only [List.foldl_cons, List.flatMap_cons]; rw [ih]; simp
      have e : (⟨pieces.reverse.foldl (fun acc p => acc ++ p.cps) #[]⟩ : Str) = trS P x := by
        unfold trS
        congr 1
        apply Array.toList_inj.mp
        rw [hfold, hd2, hall]; simp
      rw [e]
      unfold retStr
      refine wpAny_bind (wpAny_mkStr (wpAny_pure (hQ _ _ _ hg)) ?_)
      show (trS P x).length ≤ sizeLine
      have := hle done [] hd1
      simpa [trS, Str.length, hall] using this
    · exact ⟨⟨⟨[], by simp, by simp, by simp⟩, fun c a h => by simp at h, rfl⟩, s.heap, s.toks, rfl, Grow.refl _⟩
end
end Mine
end

section
namespace Mine
open PySem.F

theorem slot_map_next : Slot "map" "__next__" "map.__next__" :=
  .of (owner := "map") (n := "__next__") (by rw [typeLookup_type, builtinLookup_eq_fast]; kernel_rfl) (by decide +kernel) (by decide +kernel) (by decide +kernel)
    (by first | exact .inl (by decide +kernel) | exact .inr (by decide +kernel)) (by rw [isSubtype_type]; kernel_rfl)
theorem slot_map_iter : Slot "map" "__iter__" "map.__iter__" :=
  .of (owner := "map") (n := "__iter__") (by rw [typeLookup_type, builtinLookup_eq_fast]; kernel_rfl) (by decide +kernel) (by decide +kernel) (by decide +kernel)
    (by first | exact .inl (by decide +kernel) | exact .inr (by decide +kernel)) (by rw [isSubtype_type]; kernel_rfl)
theorem slot_map_init : Slot "map" "__init__" "object.__init__" :=
  .of (owner := "object") (n := "__init__") (by rw [typeLookup_type, builtinLookup_eq_fast]; kernel_rfl) (by decide +kernel) (by decide +kernel) (by decide +kernel)
    (by first | exact .inl (by decide +kernel) | exact .inr (by decide +kernel)) (by rw [isSubtype_type]; kernel_rfl)
theorem owner_map : Manifest.owners.lookup (String.ofList ['p', 'a', 'm'].reverse) = some Manifest.sig_map := by kernel_rfl
theorem args_map_next (a : Value) : argsOk "map.__next__" ⟨[a], []⟩ := by
  unfold argsOk; rw [signature?_of (id := "map.__next__") (n := ['_', '_', 't', 'x', 'e', 'n', '_', '_']) (o := ['p', 'a', 'm']) (by kernel_rfl) owner_map]; kernel_rfl
theorem args_map_iter (a : Value) : argsOk "map.__iter__" ⟨[a], []⟩ := by
  unfold argsOk; rw [signature?_of (id := "map.__iter__") (n := ['_', '_', 'r', 'e', 't', 'i', '_', '_']) (o := ['p', 'a', 'm']) (by kernel_rfl) owner_map]; kernel_rfl
theorem entry_map_next : entryFor table "map.__next__" = some Builtin.«map.__next__» := entryFor_of_tree (by kernel_rfl)
theorem entry_map_iter : entryFor table "map.__iter__" = some Builtin.«dict_keyiterator.__iter__» :=
  entryFor_alias (id' := "dict_keyiterator.__iter__") (by kernel_rfl) (by first | rfl | decide +kernel | (unfold String.splitOn; simp +decide [String.splitOnAux])) (by decide +kernel) (by kernel_rfl)
theorem mro_map : mroOf (.type "map") = pure [.type "map", .type "object"] := by rw [mroOf_type]; kernel_rfl
theorem lookup_map_new : typeLookup (.type "map") "__new__" = pure (some (.builtin "map.__new__")) := by rw [typeLookup_type, builtinLookup_eq_fast]; kernel_rfl
theorem called_map : TypeCalled "map" "map.__new__" "object.__init__" :=
  ⟨by decide +kernel, by decide +kernel, ⟨_, _, mro_map⟩, madeBy_type mro_map lookup_map_new (by decide +kernel), by decide +kernel, by rw [isSubtype_type]; kernel_rfl, slot_map_init⟩
theorem typeCall_map_2 (a b : Value) : checkTypeCall "map" ⟨[a, b], []⟩ = pure () := by kernel_rfl
theorem newCall_map_2 (a b : Value) : checkBuiltinCall "map.__new__" ⟨[.type "map", a, b], []⟩ = pure () := by kernel_rfl
theorem entry_map_new : entryFor table "map.__new__" = some Builtin.«map.__new__» := entryFor_of_tree (by kernel_rfl)
theorem sub_map : isSubtype (.type "map") (.type "map") = pure true := by rw [isSubtype_type]; kernel_rfl
theorem map_no_len : typeLookup (.type "map") "__len__" = pure none := by rw [typeLookup_type, builtinLookup_eq_fast]; kernel_rfl
theorem map_no_hint : typeLookup (.type "map") "__length_hint__" = pure none := by rw [typeLookup_type, builtinLookup_eq_fast]; kernel_rfl

abbrev mapObj (T : Addr) (f : Value) : Obj := { cls := .type "map", data := .fields #[.ref T, f] }
abbrev oneObj (I : Addr) : Obj := { cls := .type "tuple", data := .seq #[.ref I] }
abbrev lisObj (l : Addr) : Obj := { cls := .type "list_iterator", data := .fields #[.ref l, .int 0 0] }
abbrev mapH1 (h : Heap) (l : Addr) : Heap := h.push (lisObj l)
abbrev mapH2 (h : Heap) (l : Addr) : Heap := (mapH1 h l).push (oneObj h.objs.size)
abbrev mapH3 (h : Heap) (l : Addr) (f : Value) : Heap := (mapH2 h l).push (mapObj (mapH1 h l).objs.size f)

theorem meets_map_new (f : Value) (l : Addr) (xs : Array Value) :
    Meets (Builtin.«map.__new__» ⟨[.type "map", f, .ref l], []⟩) (fun _ R s => s.heap.IsList l xs ∧
      R (.ok (.ret (.ref (mapH2 s.heap l).objs.size))) { s with heap := mapH3 s.heap l f }) :=
  .of_wp fun prog w A R s h => by
    obtain ⟨hp, g, d, tk, os⟩ := s; obtain ⟨hl1, h⟩ := h
    have hsub := sub_map
    have hL1 : Heap.IsList (Shared.heap ⟨hp, g, d, tk, os⟩) l xs := hl1
    wp_walk using wpAny_pyIter_list hL1
    exact ⟨_, rfl, h⟩

section
variable {prog : Program} {w : World} {A : Around} {E : Value → Shared → Prop} {s : Shared}

theorem call_map {f : Value} {l : Addr} {xs : Array Value} {Q : Value → Shared → Prop} (hl : s.heap.IsList l xs)
    (h : ∀ h', h'.get? (s.heap.objs.size + 2) = some (mapObj (s.heap.objs.size + 1) f) → h'.get? (s.heap.objs.size + 1) = some (oneObj s.heap.objs.size) → h'.get? s.heap.objs.size = some (lisObj l) →
      Grow s.heap h' → Q (.ref (s.heap.objs.size + 2)) { s with heap := h' }) :
    wpAny (model prog w) A (call (.type "map") [f, .ref l]) Q E s := by
  refine callType_new called_map (by decide) (typeCall_map_2 _ _) (newCall_map_2 _ _) (fun obj => F.args_object_init_3 obj _ _) entry_map_new
    (meets_map_new f l xs) ⟨hl, ?_⟩
  have z1 : (mapH1 s.heap l).objs.size = s.heap.objs.size + 1 := Heap.size_push ..
  have z2 : (mapH2 s.heap l).objs.size = s.heap.objs.size + 2 := by rw [Heap.size_push, z1]
  have g3 : (mapH3 s.heap l f).get? (mapH2 s.heap l).objs.size = some (mapObj (mapH1 s.heap l).objs.size f) := Heap.get?_push_size _ rfl
  have g2 : (mapH3 s.heap l f).get? (mapH1 s.heap l).objs.size = some (oneObj s.heap.objs.size) := Heap.get?_push_of_some _ (Heap.get?_push_size _ rfl)
  have g1 : (mapH3 s.heap l f).get? s.heap.objs.size = some (lisObj l) := Heap.get?_push_of_some _ (Heap.get?_push_of_some _ (Heap.get?_push_size _ rfl))
  show _ ∧ _
  rw [z1] at g2 g3
  rw [z2] at g3 ⊢
  exact ⟨⟨_, g3, rfl⟩, h _ g3 g2 g1 fun c o x => Heap.get?_push_of_some _ (Heap.get?_push_of_some _ (Heap.get?_push_of_some _ x))⟩
end
end Mine
end

section
namespace Mine
open PySem.F
section
variable {prog : Program} {w : World} {A : Around} {E : Value → Shared → Prop} {s : Shared}

theorem map_next_item {M T I l : Addr} {f : Value} {k : Nat} {xs : Array Value} {x : Value} {Q : Option Value → Shared → Prop}
    (hz : s.heap.get? M = some (mapObj T f)) (hT : s.heap.get? T = some (oneObj I)) (h1 : s.heap.IsListIter I l k) (hl : s.heap.IsList l xs) (hx : xs[k]? = some x) (hMI : M ≠ I)
    (hf : ∀ h₁, h₁.IsListIter I l (k + 1) → Heap.SameBut I s.heap h₁ → wpAny (model prog w) A.in1 (call f [x]) (fun v s' => Q (some v) s') (fun _ _ => False) { s with heap := h₁ }) :
    wpAny (model prog w) A (pyNext (.ref M)) Q E s := by
  have hTy : s.TypeIs (.ref M) "map" := ⟨_, hz, rfl⟩
  unfold pyNext
  refine wpAny_bind (wpAny_attempt (wpAny_callSpecial?_slot (name := Str.ofString "__next__") hTy slot_map_next
    (wpAny_call_entry slot_map_next hTy entry_map_next ?_ (args_map_next _))))
  show wpAny _ _ (field (.ref M) 0 >>= _) _ _ _
  refine wpAny_bind (wpAny_field hz rfl (x := .ref T) rfl ?_)
  refine wpAny_bind (wpAny_seqItems hT rfl ?_)
  dsimp only
  refine wpAny_bind ?_
  rw [← Array.forIn_toList]
  simp only [List.forIn_cons, List.forIn_nil]
  refine wpAny_bind (wpAny_bind (wpAny_holding ?_))
  refine wpAny_nextOf_list_item h1 hl hx fun h₁ h1₁ hs₁ => ?_
  refine wpAny_pure (wpAny_pure ?_)
  refine wpAny_bind (wpAny_field (hs₁.extBut _ _ hMI hz) rfl (x := f) rfl ?_)
  refine wpAny_bind (wpAny_holding ?_)
  refine wpAny_mono (hf h₁ h1₁ hs₁) (fun v s' hq => ?_) (fun _ _ h => h.elim)
  refine wpAny_bind (wpAny_letGo ?_)
  exact wpAny_pure ⟨v, rfl, wpAny_pure hq⟩

theorem map_next_end {M T I l : Addr} {f : Value} {k : Nat} {xs : Array Value} {Q : Option Value → Shared → Prop} (hh : A.handled = none)
    (hz : s.heap.get? M = some (mapObj T f)) (hT : s.heap.get? T = some (oneObj I)) (h1 : s.heap.IsListIter I l k) (hl : s.heap.IsList l xs) (hx : xs[k]? = none)
    (hQ : ∀ h', Heap.ExtBut I s.heap h' → Q none { s with heap := h' }) :
    wpAny (model prog w) A (pyNext (.ref M)) Q E s := by
  have hTy : s.TypeIs (.ref M) "map" := ⟨_, hz, rfl⟩
  unfold pyNext
  refine wpAny_bind (wpAny_attempt (wpAny_callSpecial?_slot (name := Str.ofString "__next__") hTy slot_map_next
    (wpAny_call_entry slot_map_next hTy entry_map_next ?_ (args_map_next _))))
  show wpAny _ _ (field (.ref M) 0 >>= _) _ _ _
  refine wpAny_bind (wpAny_field hz rfl (x := .ref T) rfl ?_)
  refine wpAny_bind (wpAny_seqItems hT rfl ?_)
  dsimp only
  refine wpAny_bind ?_
  rw [← Array.forIn_toList]
  simp only [List.forIn_cons, List.forIn_nil]
  refine wpAny_bind (wpAny_bind (wpAny_holding ?_))
  refine wpAny_nextOf_list_end hh h1 hl hx fun h₁ e hs₁ he => ?_
  obtain ⟨o, ho, hc⟩ := he
  refine wpAny_bind (wpAny_isInstance (T := "StopIteration") (b := true) ⟨o, ho, hc⟩ isSubtype_stop ?_)
  exact wpAny_pure (hQ _ hs₁)

theorem map_iter {M T : Addr} {f : Value} {Q : Value → Shared → Prop} (hz : s.heap.get? M = some (mapObj T f)) (h : Q (.ref M) s) : wpAny (model prog w) A (pyIter (.ref M)) Q E s := by
  have hT : s.TypeIs (.ref M) "map" := ⟨_, hz, rfl⟩
  refine wpAny_pyIter_slot hT slot_map_iter (wpAny_call_entry slot_map_iter hT entry_map_iter ?_ (args_map_iter _))
  show wpAny _ _ (ret (.ref M)) _ _ s
  exact wpAny_pure ⟨_, rfl, "map", _, hT, slot_map_next.lookup, h⟩

/-- what a call of f upon an item makes: nothing that stood is changed -/
def PureOn (prog : Program) (w : World) (A : Around) (base : Heap) (I : Addr) (f : Value) (x : Value) (F : Value → Prop) : Prop :=
  ∀ (s : Shared) (Q : Value → Shared → Prop), (∀ b o, b ≠ I → base.get? b = some o → s.heap.get? b = some o) → (∀ v h' tk', F v → Grow s.heap h' → Q v { s with heap := h', toks := tk' }) →
    wpAny (model prog w) A (call f [x]) Q (fun _ _ => False) s

theorem Walks.map (hh : A.handled = none) {base : Heap} {M T I l : Addr} {f : Value} {xs : Array Value} {F : Nat → Value → Prop}
    (hz : base.get? M = some (mapObj T f)) (hT : base.get? T = some (oneObj I)) (hl : base.IsList l xs) (hI : base.get? I = some (lisObj l))
    (hf : ∀ i x, xs[i]? = some x → PureOn prog w A.in1 base I f x (F i)) :
    Walks prog w A M (List.range base.objs.size) [I] xs.size F (fun i h => h.IsListIter I l i ∧ ∀ b o, b ≠ I → base.get? b = some o → h.get? b = some o) := by
  have hMI : M ≠ I := by rintro rfl; rw [hz] at hI; simp at hI
  have hTI : T ≠ I := by rintro rfl; rw [hT] at hI; simp at hI
  have hlI : l ≠ I := by rintro rfl; obtain ⟨o, ho, hc, _⟩ := hl; rw [hI] at ho; cases ho; simp at hc
  have at_ : ∀ {h : Heap}, (∀ b o, b ≠ I → base.get? b = some o → h.get? b = some o) → h.IsList l xs := fun hk => by
    obtain ⟨o, ho, r⟩ := hl; exact ⟨o, hk _ _ hlI ho, r⟩
  exact {
    sub := fun b hb => by
      rw [List.mem_singleton.mp hb]; exact List.mem_range.mpr (Heap.lt_size hI)
    frame := fun i h h' st hk => ⟨st.1.at fun o e => hk I (List.mem_range.mpr (Heap.lt_size hI)) o e, fun b o hb e => hk b (List.mem_range.mpr (Heap.lt_size e)) o (st.2 b o hb e)⟩
    item := fun i s Q E hi st hQ => by
      refine map_next_item (st.2 _ _ hMI hz) (st.2 _ _ hTI hT) st.1 (at_ st.2) (x := xs[i]) (by simp [hi]) hMI fun h₁ h1₁ hs₁ => ?_
      refine hf i xs[i] (by simp [hi]) _ _ (fun b o hb e => hs₁.extBut _ _ hb (st.2 b o hb e)) fun v h' tk' hF hg => ?_
      refine hQ v h' tk' hF ⟨h1₁.at fun o e => hg _ _ e, fun b o hb e => hg _ _ (hs₁.extBut _ _ hb (st.2 b o hb e))⟩ fun b o hb e => hg _ _ (hs₁.extBut _ _ (fun h => hb (by simp [h])) e)
    done := fun s Q E st hQ => map_next_end hh (st.2 _ _ hMI hz) (st.2 _ _ hTI hT) st.1 (at_ st.2) (by simp) fun h' he' => hQ h' s.toks fun b o hb e => he' _ _ (fun h => hb (by simp [h])) e
    self := fun i s Q E st hQ => map_iter (st.2 _ _ hMI hz) hQ }

theorem extend_loop {R : Result → Shared → Prop} {I : Addr} {fp wr : List Addr} {n : Nat} {P : Nat → Value → Prop} {St : Nat → Heap → Prop} (W : Walks prog w A.in1 I fp wr n P St) (S : Addr) (hSf : S ∉ fp) (res : Value) :
    ∀ (k i : Nat) (s : Shared) (acc : Array Value) (c : Nat), n - i = k → i ≤ n → St i s.heap → s.heap.get? S = some (listOf acc c) → acc.size + k ≤ sizeLine →
    (∀ h' tk' c' (more : List Value), (∀ b o, b ∉ S :: wr → s.heap.get? b = some o → h'.get? b = some o) → h'.get? S = some (listOf (acc ++ more.toArray) c') → more.length = k → (∀ j v, more[j]? = some v → P (i + j) v) →
      R (.ok (.ret res)) { s with heap := h', toks := tk' }) →
    codeAny (model prog w) A (.builtin "list.extend.loop" ⟨[.ref S, .ref I, res], []⟩) R s := by
  have hSw : S ∉ wr := fun h => hSf (W.sub _ h)
  intro k
  induction k with
  | zero =>
    intro i s acc c hk hi hst hS hz hR
    have hin : i = n := by omega
    subst hin
    refine codeAny_builtin F.entry_extend_loop ?_
    rw [Around.under_plainId F.plain_extend_loop _]
    show wpAny _ A.in1 (pyNext (.ref I) >>= _) _ _ s
    refine wpAny_bind (W.done s _ _ hst fun h' tk' hm => ?_)
    exact wpAny_pure (hR h' tk' c [] (fun b o hb e => hm b o (fun h => hb (List.mem_cons_of_mem _ h)) e) (by simpa using hm S _ hSw hS) rfl (fun j v hj => by simp at hj))
  | succ k ih =>
    intro i s acc c hk hi hst hS hz hR
    have hlt : i < n := by omega
    refine codeAny_builtin F.entry_extend_loop ?_
    rw [Around.under_plainId F.plain_extend_loop _]
    show wpAny _ A.in1 (pyNext (.ref I) >>= _) _ _ s
    refine wpAny_bind (W.item i s _ _ hlt hst fun v h₁ tk₁ hP hst' hm => ?_)
    have hS' := hm S _ hSw hS
    show wpAny _ A.in1 (updateSeq S (·.push v) >>= _) _ _ _
    refine wpAny_bind ?_
    refine wpAny_updateSeq hS' rfl (wpAny_pure ⟨plainId_quiet F.plain_extend_loop _, ih (i + 1) _ (acc.push v) _ (by omega) hlt (W.frame _ h₁ _ hst' fun b hb o e => ?_) (Heap.get?_update_self _ hS' rfl) (by rw [Array.size_push]; omega) fun h' tk' c' more hk' hS'' hlen hP' => ?_⟩)
      (by omega) (by show (acc.push v).size ≤ sizeLine + 1; rw [Array.size_push]; omega)
    · exact (Heap.get?_update_other _ _ (fun h : S = b => hSf (by rw [h]; exact hb))).trans e
    · refine hR h' tk' c' (v :: more) (fun b o hb e => ?_) (by rw [hS'', show acc.push v ++ more.toArray = acc ++ (v :: more).toArray from by apply Array.toList_inj.mp; simp]) (by simp [hlen]) (fun j u hj => ?_)
      · refine hk' b o hb ?_
        exact (Heap.get?_update_other _ _ (fun h : S = b => hb (by rw [h]; exact List.mem_cons_self))).trans (hm b o (fun h => hb (List.mem_cons_of_mem _ h)) e)
      · cases j with
        | zero => simp at hj; subst hj; exact hP
        | succ j => have := hP' j u (by simpa using hj); rwa [show i + (j + 1) = i + 1 + j by omega]

/-- extend from an iterator of a type without len and hint -/
theorem extend_with {T : String} (hT1 : (Value.type T == Value.type "list") = false) (hT2 : (Value.type T == Value.type "tuple") = false)
    (nolen : typeLookup (.type T) "__len__" = pure none) (nohint : typeLookup (.type T) "__length_hint__" = pure none)
    {R : Result → Shared → Prop} {I : Addr} {fp wr : List Addr} {n : Nat} {P : Nat → Value → Prop} {St : Nat → Heap → Prop} (W : Walks prog w A.in1 I fp wr n P St)
    (hT : ∀ i (s : Shared), St i s.heap → s.TypeIs (.ref I) T) (S : Addr) (hSf : S ∉ fp) (hI : I ∈ fp) (res : Value) {acc : Array Value} {c : Nat} (hst : St 0 s.heap) (hS : s.heap.get? S = some (listOf acc c)) (hz : acc.size + n < sizeLine)
    (hR : ∀ h' tk' c' (more : List Value), (∀ b o, b ∉ S :: wr → s.heap.get? b = some o → h'.get? b = some o) → h'.get? S = some (listOf (acc ++ more.toArray) c') → more.length = n → (∀ j v, more[j]? = some v → P j v) →
      R (.ok (.ret res)) { s with heap := h', toks := tk' }) :
    wpAny (model prog w) A.in1 (Builtin.List.listExtendWith (.ref S) (.ref I) res)
      (fun fin s' => match fin with | .done f => R (.ok f) s' | .again c' => c'.quiet = true ∧ codeAny (model prog w) A c' R s') (fun e s' => R (.error e) s') s := by
  have hSI : S ≠ I := fun e => hSf (e ▸ hI)
  unfold Builtin.List.listExtendWith
  refine wpAny_bind (wpAny_typeOf (hT 0 _ hst) ?_)
  have h1 : Builtin.List.listSameRef (.ref S) (.ref I) = false := by simp [Builtin.List.listSameRef, hSI]
  simp only [h1, hT1, hT2, Bool.or_false, Bool.false_eq_true, if_false]
  refine wpAny_bind (W.self 0 _ _ _ hst ?_)
  refine wpAny_bind (wpAny_holding ?_)
  unfold Builtin.List.listLengthHint
  refine wpAny_bind (wpAny_specialOf (hT 0 _ hst) nolen ?_)
  show wpAny _ A.in1 (specialOf (Value.ref I) (Str.ofString "__length_hint__") >>= _) _ _ _
  refine wpAny_bind (wpAny_specialOf (hT 0 _ hst) nohint ?_)
  refine wpAny_pure ?_
  show wpAny _ A.in1 (rule "list.extend.makes-room" >>= fun _ => Builtin.List.listTouch (.ref S) >>= fun _ =>
    again (.builtin "list.extend.loop" ⟨[.ref S, .ref I, res], []⟩)) _ _ _
  refine wpAny_bind (wpAny_rule ?_)
  refine wpAny_bind ?_
  show wpAny _ A.in1 (updateSeq S (·.push .none) >>= fun _ => updateSeq S (·.pop)) _ _ _
  refine wpAny_bind (wpAny_updateSeq hS rfl ?_ (by omega) (by rw [Array.size_push]; omega))
  have hS₂ := Heap.get?_update_self (Obj.mapSeq (·.push Value.none)) hS rfl
  refine wpAny_updateSeq hS₂ rfl ?_ (by show (acc.push _).size ≤ _; rw [Array.size_push]; omega) (by show ((acc.push _).pop).size ≤ _; rw [Array.size_pop, Array.size_push]; omega)
  have hS₃ := Heap.get?_update_self (Obj.mapSeq (·.pop)) hS₂ rfl
  have hpp : (acc.push Value.none).pop = acc := by simp
  have hS₄ : ((s.heap.update S (Obj.mapSeq (·.push Value.none))).update S (Obj.mapSeq (·.pop))).get? S = some (listOf acc (if ((acc.push Value.none).pop).size == (acc.push Value.none).size then (if (acc.push Value.none).size == acc.size then c else c + 1) else (if (acc.push Value.none).size == acc.size then c else c + 1) + 1)) := by
    rw [hS₃]; simp only [Obj.mapSeq, hpp]
  have oth : ∀ b o, b ≠ S → s.heap.get? b = some o → ((s.heap.update S (Obj.mapSeq (·.push Value.none))).update S (Obj.mapSeq (·.pop))).get? b = some o :=
    fun b o hb e => (Heap.get?_update_other _ _ (Ne.symm hb)).trans ((Heap.get?_update_other _ _ (Ne.symm hb)).trans e)
  refine wpAny_pure ⟨plainId_quiet F.plain_extend_loop _, extend_loop W S hSf res n 0 _ acc _ rfl (Nat.zero_le _)
    (W.frame 0 s.heap _ hst fun b hb o e => oth b o (fun h => hSf (h ▸ hb)) e) hS₄ (by omega) fun h' tk' c' more hk hS' hlen hP => ?_⟩
  exact hR h' tk' c' more (fun b o hb e => hk b o hb (oth b o (fun h => hb (h ▸ List.mem_cons_self)) e)) hS' hlen (fun j v hj => by have := hP j v hj; rwa [Nat.zero_add] at this)

/-- list(M), M an iterator of a type without len and hint -/
theorem list_call {T : String} (hT1 : (Value.type T == Value.type "list") = false) (hT2 : (Value.type T == Value.type "tuple") = false)
    (nolen : typeLookup (.type T) "__len__" = pure none) (nohint : typeLookup (.type T) "__length_hint__" = pure none)
    {I : Addr} {fp wr : List Addr} {n : Nat} {P : Nat → Value → Prop} {St : Nat → Heap → Prop} (W : Walks prog w A.in1.in1 I fp wr n P St)
    (hT : ∀ i (s : Shared), St i s.heap → s.TypeIs (.ref I) T) (hfp : ∀ b ∈ fp, b < s.heap.objs.size) (hI : I ∈ fp) (hst : St 0 s.heap) (hz : n < sizeLine) {Q : Value → Shared → Prop}
    (hQ : ∀ h' tk' c' (more : List Value), (∀ b o, b ∉ wr → s.heap.get? b = some o → h'.get? b = some o) → h'.get? s.heap.objs.size = some (listOf more.toArray c') → more.length = n → (∀ j v, more[j]? = some v → P j v) →
      Q (.ref s.heap.objs.size) { s with heap := h', toks := tk' }) :
    wpAny (model prog w) A (call (.type "list") [.ref I]) Q E s := by
  have hSf : s.heap.objs.size ∉ fp := fun hm => Nat.lt_irrefl _ (hfp _ hm)
  refine callType_codes (Q₁ := fun obj s₁ => obj = .ref s.heap.objs.size ∧ s₁ = { s with heap := s.heap.push { cls := .type "list", data := .seq #[] } }) F.called_list (F.typeCall_list_1 _) F.entry_list_init
    (code_list_new _ ⟨rfl, rfl⟩) fun obj s₁ h₁ => ?_
  obtain ⟨rfl, rfl⟩ := h₁
  have hS : (s.heap.push { cls := .type "list", data := .seq #[] }).get? s.heap.objs.size = some { cls := .type "list", data := .seq #[] } := Heap.get?_push_size _ rfl
  refine ⟨⟨_, hS, rfl⟩, F.args_list_init_2 _ _, ?_⟩
  show wpAny _ A.in1.in1 (do let old ← Builtin.List.listItems (.ref s.heap.objs.size); Builtin.List.listUpdate (.ref s.heap.objs.size) (fun _ => #[]); letGo old.toList.reverse; Builtin.List.listExtendWith (.ref s.heap.objs.size) (.ref I) .none) _ _ _
  refine wpAny_bind ?_
  unfold Builtin.List.listItems
  refine wpAny_bind (wpAny_seqItems hS rfl (wpAny_pure ?_))
  show wpAny _ A.in1.in1 (updateSeq s.heap.objs.size (fun _ => #[]) >>= fun _ => letGo (#[] : Array Value).toList.reverse >>= fun _ => Builtin.List.listExtendWith (.ref s.heap.objs.size) (.ref I) .none) _ _ _
  refine wpAny_bind (wpAny_updateSeq hS rfl ?_)
  have hS₂ := Heap.get?_update_self (Obj.mapSeq (fun _ => (#[] : Array Value))) hS rfl
  have hS₃ : ((s.heap.push { cls := .type "list", data := .seq #[] }).update s.heap.objs.size (Obj.mapSeq (fun _ => (#[] : Array Value)))).get? s.heap.objs.size = some (listOf #[] 0) := by rw [hS₂]; rfl
  have oth : ∀ b o, s.heap.get? b = some o → ((s.heap.push { cls := .type "list", data := .seq #[] }).update s.heap.objs.size (Obj.mapSeq (fun _ => (#[] : Array Value)))).get? b = some o :=
    fun b o e => (Heap.get?_update_other _ _ (Nat.ne_of_gt (Heap.lt_size e))).trans (Heap.get?_push_of_some _ e)
  refine wpAny_bind (wpAny_letGo ?_)
  refine extend_with hT1 hT2 nolen nohint W hT _ hSf hI .none (W.frame 0 s.heap _ hst fun b hb o e => oth b o e) hS₃ (by simpa using hz) fun h' tk' c' more hk hS' hlen hP => ?_
  refine ⟨rfl, hQ h' tk' c' more (fun b o hb e => hk b o (fun hm => ?_) (oth b o e)) (by simpa using hS') hlen hP⟩
  rcases List.mem_cons.mp hm with h | h
  · exact absurd (Heap.lt_size e) (by rw [h]; exact Nat.lt_irrefl _)
  · exact hb h

theorem map_type {base : Heap} {M T I l : Addr} {f : Value} (hz : base.get? M = some (mapObj T f)) (hI : base.get? I = some (lisObj l)) (i : Nat) (s : Shared) (st : s.heap.IsListIter I l i ∧ ∀ b o, b ≠ I → base.get? b = some o → s.heap.get? b = some o) : s.TypeIs (.ref M) "map" := by
  have hMI : M ≠ I := by rintro rfl; rw [hz] at hI; simp at hI
  exact ⟨_, st.2 _ _ hMI hz, rfl⟩

/-- list(map(f, l)), the map made -/
theorem list_map {M T I l : Addr} {f : Value} {xs : Array Value} {F : Nat → Value → Prop} {Q : Value → Shared → Prop} (hh : A.handled = none)
    (hz : s.heap.get? M = some (mapObj T f)) (hT : s.heap.get? T = some (oneObj I)) (hl : s.heap.IsList l xs) (hI : s.heap.get? I = some (lisObj l)) (hn : xs.size < sizeLine)
    (hf : ∀ i x, xs[i]? = some x → PureOn prog w A.in1.in1.in1 s.heap I f x (F i))
    (hQ : ∀ h' tk' c' (more : List Value), (∀ b o, b ≠ I → s.heap.get? b = some o → h'.get? b = some o) → h'.get? s.heap.objs.size = some (listOf more.toArray c') → more.length = xs.size → (∀ j v, more[j]? = some v → F j v) →
      Q (.ref s.heap.objs.size) { s with heap := h', toks := tk' }) :
    wpAny (model prog w) A (call (.type "list") [.ref M]) Q E s := by
  refine list_call (T := "map") (by decide) (by decide) map_no_len map_no_hint (Walks.map (A := A.in1.in1) hh hz hT hl hI hf) (map_type hz hI) (fun b hb => List.mem_range.mp hb) (List.mem_range.mpr (Heap.lt_size hz)) ⟨⟨_, hI, rfl, rfl⟩, fun _ _ _ e => e⟩ hn ?_
  intro h' tk' c' more hk h1 h2 h3
  exact hQ h' tk' c' more (fun b o hb e => hk b o (by simpa using hb) e) h1 h2 h3
end
end Mine
end

section
namespace Mine

/-- the signs that a pattern gives a meaning or that are blank, with the tokens of the table's keys and texts -/
def specTab : List (Nat × Tok × Tok) := [(40, 190, 194), (41, 196, 200), (91, 202, 206), (93, 208, 212), (123, 214, 218), (125, 220, 224), (63, 226, 230), (42, 232, 236), (43, 238, 242), (45, 244, 248), (124, 250, 254),
  (94, 256, 260), (36, 262, 266), (92, 268, 272), (46, 274, 278), (38, 280, 284), (126, 286, 290), (35, 292, 296), (32, 298, 302), (9, 304, 308), (10, 310, 314), (13, 316, 320), (11, 322, 326), (12, 328, 332)]
def specs : List Nat := [40, 41, 91, 93, 123, 125, 63, 42, 43, 45, 124, 94, 36, 92, 46, 38, 126, 35, 32, 9, 10, 13, 11, 12]
def specEntry (e : Nat × Tok × Tok) : DictEntry := ⟨(e.1 : Int), .int (e.1 : Int) e.2.1, .str ⟨#[92, e.1]⟩ e.2.2⟩
def specObj : Obj := ⟨.type "dict", none, .dict (specTab.map specEntry).toArray 24, #[]⟩
def specP (c : Nat) : Option Str := if c ∈ specs then some ⟨#[92, c]⟩ else none

theorem find_spec (c : Nat) : ∀ tab : List (Nat × Tok × Tok), findBy Value.isInt (tab.map specEntry).toArray (c : Int) = (tab.find? (fun e => e.1 == c)).map fun e => Value.str ⟨#[92, e.1]⟩ e.2.2
  | [] => rfl
  | e :: r => by
    have ih := find_spec c r
    unfold findBy at ih ⊢
    simp only [List.find?_toArray, List.map_cons, List.find?_cons] at ih ⊢
    by_cases h : e.1 = c
    · subst h
      simp [specEntry, Value.isInt]
    · have h1 : Value.isInt (c : Int) (specEntry e).key = false := by
        simp only [specEntry, Value.isInt]
        simpa using fun h' : (e.1 : Int) = c => h (by omega)
      have h2 : (e.1 == c) = false := by simpa using h
      rw [h1, h2]
      exact ih
theorem spec_tells : Tells1 (fun k => findBy Value.isInt (specTab.map specEntry).toArray k) specP := by
  intro c
  simp only [find_spec]
  unfold specP
  have e : specs = specTab.map (·.1) := rfl
  by_cases h : c ∈ specs
  · rw [if_pos h]
    rw [e] at h
    obtain ⟨x, hx, rfl⟩ := List.mem_map.mp h
    cases hf : specTab.find? (fun e => e.1 == x.1) with
    | none => exact absurd (List.find?_eq_none.mp hf x hx) (by simp)
    | some y =>
      have := List.find?_some hf
      have hy : y.1 = x.1 := by simpa using this
      exact ⟨y.2.2, by simp [hy]⟩
  · rw [if_neg h]
    cases hf : specTab.find? (fun e => e.1 == c) with
    | none => rfl
    | some y =>
      have := List.find?_some hf
      have hy : y.1 = c := by simpa using this
      exact absurd (by rw [e, ← hy]; exact List.mem_map_of_mem (List.mem_of_find?_eq_some hf)) h
theorem specP_len (c : Nat) (x : Str) (h : specP c = some x) : x.length ≤ 2 := by
  unfold specP at h
  split at h
  · cases h; simp [Str.length]
  · cases h
theorem spec_map {prog : Program} {w : World} {h : Heap} {a : Addr} (e : h.get? a = some specObj) : h.MapOf (intKind prog w) a (fun k => findBy Value.isInt (specTab.map specEntry).toArray k) := by
  refine ⟨_, _, _, e, ⟨rfl, rfl, rfl⟩, rfl, fun d hd => ?_, fun _ => rfl⟩
  simp only [List.mem_toArray, List.mem_map] at hd
  obtain ⟨x, hx, rfl⟩ := hd
  refine ⟨(x.1 : Int), intKind_is prog w _ _, ?_⟩
  have : ∀ x ∈ specTab, (x.1 : Int) = hashInt (x.1 : Int) := by decide +kernel
  exact this x hx

section
variable {M : Model} {A : Around} {E : Value → Shared → Prop} {s : Shared}
theorem gm_translate {x : Str} {t : Tok} {pl : Sem Bool} {Q : Value × List Value → Shared → Prop} (h : Q (.builtin "str.translate", [.str x t]) s) : wpAny M A (getMethod (.str x t) "translate" pl) Q E s := by
  with_reducible exact GM.of (.str x t) (typeIs_str _ _ _) F.slot_str_translate F.type_str_translate GM.noRef h
end

/-- escape -/
def esc (x : Str) : Str := trS specP x
section
variable {prog : Program} {w : World} {A : Around} {E : Value → Shared → Prop} {s : Shared}
theorem escape_tr {K : Frag} {h₀ : Heap} {L : Addr} {m : Str → Option Value} {x : Str} {t : Tok} {Q : Value → Shared → Prop} {news : List (Addr × Obj)} (X : K.In h₀) (F : Fr h₀ L s.heap m) (N : News h₀ L s.heap news) (hK : K.lookup 16 = some specObj) (hh : A.handled = none) (hsz : 2 * x.length ≤ sizeLine)
    (hQ : ∀ h' tk' t', Fr h₀ L h' m → News h₀ L h' news → Grow s.heap h' → Q (.str (esc x) t') { s with heap := h', toks := tk' }) :
    wpAny (model prog w) A (call (.builtin "str.translate") [.str x t, .ref 16]) Q E s := by
  refine translate_spec spec_tells specP_len x t hsz hh (by decide) (spec_map (F.keep _ _ (X _ _ hK))) ?_
  intro h' tk' t' hg
  exact hQ h' tk' t' ⟨F.ns.keeps hg, fun b o e => hg _ _ (F.keep b o e), F.above⟩ (fun p hp => ⟨hg _ _ (N p hp).1, (N p hp).2⟩) hg
end
end Mine
end

section
open PySem.Calls
namespace Mine

/-- a way of a call's end: the value, nothing of the world moved but heap and tokens -/
def PuR (s : Shared) (V : Value → Prop) (r : Result) (s' : Shared) : Prop :=
  match r with | .ok (.ret v) => V v ∧ ∃ h' tk', s' = { s with heap := h', toks := tk' } | _ => False

section
variable {prog : Program} {w : World} {A A₀ : Around} {E : Value → Shared → Prop} {s : Shared} {K : Frag} {L : Addr} {h₀ base : Heap} {m mg mb : Str → Option Value} {p : Program} {loose : List Str} {mean : ExcName → Option Value}

theorem code_pure {env : Env} {outer : List Env} {R : Result → Shared → Prop} {name qual : Str} {params : Arguments} {body : List Stmt} {scope : Scope} {dV kV doc pm cdv ct oc : Value} {an od : Option Addr} {osl : Array (Option Value)} {f : Addr} {args : Args} {binds : List (Str × Value)}
    (V : Value → Prop) (hR : ∀ v h' tk', V v → Grow s.heap h' → R (.ok (.ret v)) { s with heap := h', toks := tk' })
    (B : Below A₀ base outer h₀) (F : Fr h₀ L s.heap m) (X₀ : K.In h₀) (T : Top p loose mean mg mb h₀) (hA : A.frames = some (env :: outer)) (hf : env.frame = some L) (hke : env.scope.kind = .function)
    (ho : K.lookup f = some ⟨oc, od, .func (fnOf name qual params body scope dV kV doc pm an cdv ct), osl⟩) (hcd : codeIn K cdv qual = true) (hroom : A.depth < recursionLimit)
    (hbind : BindsTo s (fnOf name qual params body scope dV kV doc pm an cdv ct) args binds) (hloc : ∀ y ∈ binds, scope.names.lookup y.1 = some .local)
    (h : ∀ L' h₁, Fr h₀ L s.heap m → Fr s.heap L' h₁ (fun y => binds.reverse.lookup y) → News s.heap L' h₁ [] → Below A base (env :: outer) s.heap → K.In s.heap → Top p loose mean mg mb s.heap →
      wpAny (model prog w) (A.deeper (envOf qual scope L' f cdv)) (execs body (envOf qual scope L' f cdv))
        (fun fl s' => LeaveK h₀ L m s.heap (PuR s V) (match fl with | .ret v => v | _ => .none) s')
        (fun _ _ => False)
        { s with heap := h₁, toks := s.toks + binds.length })
    (hco : scope.isCoroutine = false) (hgen : scope.isGenerator = false) (hk : scope.kind = .function)
    (hcell : ∀ x ∈ scope.names, x.2 ≠ .cell) : codeAny (model prog w) A (.call (.ref f) args) R s := by
  obtain ⟨FG, BG, st, lv⟩ := groundX (R := PuR s V) B F News.nil hA hf hke
  have X := X₀.keeps F.keep
  refine codeAny_call_def (fd := fnOf name qual params body scope dV kV doc pm an cdv ct) (body := body) (binds := binds) hroom (X _ _ ho) rfl (T.nolimit.keeps F.keep) (codeRec_of X hcd) rfl hbind hcell hloc (fun h₁ hns hk₁ => ?_) hco hgen hk
  refine wpAny_mono (h s.heap.objs.size h₁ F ⟨hns, hk₁, Nat.le_refl _⟩ News.nil BG X (T.keeps F.keep)) (fun fl s' hl => ?_) fun _ _ y => y.elim
  have hg : Grow s.heap s'.heap := by obtain ⟨_, _, _, F', _, _⟩ := hl; exact F'.keep
  obtain ⟨hv, h', tk', rfl⟩ := lv _ _ hl
  exact hR _ _ _ hv hg
end

/-- a def that changes nothing that stood: what it hands back -/
abbrev PureFn (n : Nat) (prog : Program) (w : World) (K : Frag) (p : Program) (loose : List Str) (mean : ExcName → Option Value) (mg mb : Str → Option Value) (f : Addr) (vs : List Value) (V : Value → Prop) : Prop :=
  ∀ (dp un : Nat) (gd : Option (List Code)) (cn : Str) (cs : Scope) (a : Addr) (ccd : Value) (cl : List (Str × Addr)) (outer : List Env) (A₀ : Around) (base h₀ : Heap) (L : Addr) (m : Str → Option Value) (s : Shared) (Q E : Value → Shared → Prop),
    Below A₀ base outer h₀ → Fr h₀ L s.heap m → K.In h₀ → Top p loose mean mg mb h₀ → cs.kind = .function → dp + n < recursionLimit → un + 8 * n < cLine →
      (∀ v h' tk', V v → Grow s.heap h' → Q v { s with heap := h', toks := tk' }) →
      wpAny (model prog w) (ktrTop dp un gd cn cs L a ccd cl outer) (call (.ref f) vs) Q E s

section
variable {prog : Program} {w : World} {A A₀ : Around} {E : Value → Shared → Prop} {s : Shared} {K : Frag} {L : Addr} {h₀ base : Heap} {m mg mb : Str → Option Value} {p : Program} {loose : List Str} {mean : ExcName → Option Value}
  {news : List (Addr × Obj)}

theorem Fr.but {h h' : Heap} {I : Addr} (F : Fr h₀ L h m) (hI : I ≠ L) (hn : h₀.get? I = none) (hk : ∀ b o, b ≠ I → h.get? b = some o → h'.get? b = some o) : Fr h₀ L h' m :=
  ⟨F.ns.at' fun o e => hk _ o (Ne.symm hI) e, fun b o e => hk b o (by rintro rfl; rw [hn] at e; cases e) (F.keep b o e), F.above⟩
theorem News.but {h h' : Heap} {I : Addr} {rest : List (Addr × Obj)} (N : News h₀ L h news) (hs : ∀ q ∈ rest, q ∈ news ∧ q.1 ≠ I) (hk : ∀ b o, b ≠ I → h.get? b = some o → h'.get? b = some o) : News h₀ L h' rest :=
  fun q hq => ⟨hk _ _ (hs q hq).2 (N q (hs q hq).1).1, (N q (hs q hq).1).2⟩
theorem Fr.grow {h h' : Heap} (F : Fr h₀ L h m) (hk : Grow h h') : Fr h₀ L h' m := ⟨F.ns.at' fun o e => hk _ o e, fun b o e => hk b o (F.keep b o e), F.above⟩
theorem News.grow {h h' : Heap} (N : News h₀ L h news) (hk : Grow h h') : News h₀ L h' news := fun q hq => ⟨hk _ _ (N q hq).1, (N q hq).2⟩

theorem map_K {f : Value} {l : Addr} {xs : Array Value} {n : Nat} {Q : Value → Shared → Prop} (F : Fr h₀ L s.heap m) (N : News h₀ L s.heap news) (hl : (l, listOf xs n) ∈ news)
    (h : ∀ M T I h', Fr h₀ L h' m → News h₀ L h' ((M, mapObj T f) :: (T, oneObj I) :: (I, lisObj l) :: news) → (∀ p ∈ news, p.1 < I) → @LT.lt Nat _ I T → @LT.lt Nat _ T M → Q (.ref M) { s with heap := h' }) :
    wpAny (model prog w) A (call (.type "map") [f, .ref l]) Q E s := by
  refine call_map (xs := xs) ⟨_, (N _ hl).1, rfl, _, rfl⟩ fun h' e1 e2 e3 hg => ?_
  obtain ⟨oL, _, _, hL, _⟩ := F.ns
  have lt : ∀ {b o}, s.heap.get? b = some o → b < s.heap.objs.size := fun e => Heap.lt_size e
  have nn : ∀ b, s.heap.objs.size ≤ b → h₀.get? b = none := fun b hb => by
    cases q : h₀.get? b with
    | none => rfl
    | some o => exact absurd (lt (F.keep _ _ q)) (Nat.not_lt.mpr hb)
  have hne : ∀ b, s.heap.objs.size ≤ b → b ≠ L := fun b hb e => absurd (lt hL) (Nat.not_lt.mpr (e ▸ hb))
  refine h _ _ _ h' (Fr.grow F hg) (fun q hq => ?_) (fun q hq => lt (N q hq).1) (Nat.lt_succ_self _) (Nat.lt_succ_self _)
  rcases List.mem_cons.mp hq with rfl | hq
  · exact ⟨e1, hne _ (by omega), nn _ (by omega)⟩
  · rcases List.mem_cons.mp hq with rfl | hq
    · exact ⟨e2, hne _ (by omega), nn _ (by omega)⟩
    · rcases List.mem_cons.mp hq with rfl | hq
      · exact ⟨e3, hne _ (by omega), nn _ (by omega)⟩
      · exact ⟨hg _ _ (N q hq).1, (N q hq).2⟩

/-- list(map(f, texts)) of a pure def f from texts to texts -/
theorem list_map_texts {M T I l f : Addr} {g : Str → Str} {ys : List (Str × Tok)} {n k : Nat} {rest : List (Addr × Obj)} {Q : Value → Shared → Prop}
    {dp un : Nat} {gd : Option (List Code)} {cn : Str} {cs : Scope} {a : Addr} {ccd : Value} {cl : List (Str × Addr)} {outer : List Env}
    (B : Below A₀ base outer h₀) (F : Fr h₀ L s.heap m) (N : News h₀ L s.heap news) (X : K.In h₀) (Tp : Top p loose mean mg mb h₀) (hck : cs.kind = .function) (hd : dp + k < recursionLimit) (hu : un + 3 + 8 * k < cLine)
    (hM : (M, mapObj T (.ref f)) ∈ news) (hT : (T, oneObj I) ∈ news) (hI : (I, lisObj l) ∈ news) (hl : (l, listOf (strValues ys).toArray n) ∈ news) (hrest : ∀ q ∈ rest, q ∈ news ∧ q.1 ≠ I) (hlen : ys.length < sizeLine)
    (hf : ∀ x t, x ∈ ys.map (·.1) → PureFn k prog w K p loose mean mg mb f [.str x t] (fun v => ∃ t', v = .str (g x) t'))
    (hQ : ∀ D h' tk' c' (zs : List (Str × Tok)), Fr h₀ L h' m → News h₀ L h' ((D, listOf (strValues zs).toArray c') :: rest) → (∀ q ∈ rest, q.1 < D) → zs.map (·.1) = ys.map (fun y => g y.1) → Q (.ref D) { s with heap := h', toks := tk' }) :
    wpAny (model prog w) (ktrTop dp un gd cn cs L a ccd cl outer) (call (.type "list") [.ref M]) Q E s := by
  have nM := N _ hM; have nT := N _ hT; have nI := N _ hI; have nl := N _ hl
  have hsz : (strValues ys).toArray.size = ys.length := by simp [strValues]
  have hat : ∀ (i : Nat) (x : Value), (strValues ys).toArray[i]? = some x → ∃ y, ys[i]? = some y ∧ x = .str y.1 y.2 := by
    intro i x hx
    have hx' : (strValues ys)[i]? = some x := by simpa using hx
    unfold strValues at hx'
    rw [List.getElem?_map] at hx'
    cases hy : ys[i]? with
    | none => rw [hy] at hx'; cases hx'
    | some y => rw [hy] at hx'; exact ⟨y, rfl, (Option.some.inj hx').symm⟩
  refine list_map (F := fun i v => ∀ y, ys[i]? = some y → ∃ t', v = .str (g y.1) t') rfl nM.1 nT.1 ⟨_, nl.1, rfl, _, rfl⟩ nI.1 (by rw [hsz]; exact hlen) ?_ ?_
  · intro i x hx s₁ Q₁ hk hQ₁
    obtain ⟨y, hy, rfl⟩ := hat i x hx
    refine hf y.1 y.2 (List.mem_map_of_mem (List.mem_of_getElem? hy)) dp (un + 1 + 1 + 1) gd cn cs a ccd cl outer A₀ base h₀ L m s₁ _ _ B (Fr.but F nI.2.1 nI.2.2 hk) X Tp hck hd (by omega) fun v h' tk' hv hg => ?_
    obtain ⟨t', rfl⟩ := hv
    exact hQ₁ _ _ _ (fun y' hy' => by rw [hy] at hy'; cases hy'; exact ⟨t', rfl⟩) hg
  · intro h' tk' c' more hk hD hlen' hP
    obtain ⟨oL, _, _, hL, _⟩ := F.ns
    have key : ∀ (ys : List (Str × Tok)) (more : List Value), more.length = ys.length → (∀ (j : Nat) v, more[j]? = some v → ∀ y, ys[j]? = some y → ∃ t', v = .str (g y.1) t') →
        ∃ zs : List (Str × Tok), more = strValues zs ∧ zs.map (·.1) = ys.map (fun y => g y.1) := by
      intro ys
      induction ys with
      | nil => intro more hl _; cases more with
        | nil => exact ⟨[], rfl, rfl⟩
        | cons _ _ => cases hl
      | cons y r ih => intro more hl hP; cases more with
        | nil => cases hl
        | cons v more =>
          obtain ⟨zs, e1, e2⟩ := ih more (by simpa using hl) fun j v hj y' hy' => hP (j + 1) v (by simpa using hj) y' (by simpa using hy')
          obtain ⟨t', rfl⟩ := hP 0 v rfl y rfl
          exact ⟨(g y.1, t') :: zs, by rw [e1]; rfl, by simp [e2]⟩
    obtain ⟨zs, rfl, hzs⟩ := key ys more (by rw [hlen', hsz]) hP
    refine hQ s.heap.objs.size h' tk' c' zs (Fr.but F nI.2.1 nI.2.2 hk) (fun q hq => ?_) (fun q hq => Heap.lt_size (N q (hrest q hq).1).1) hzs
    rcases List.mem_cons.mp hq with rfl | hq
    · refine ⟨hD, Nat.ne_of_gt (Heap.lt_size hL), ?_⟩
      cases q : h₀.get? s.heap.objs.size with
      | none => rfl
      | some o => exact absurd (Heap.lt_size (F.keep _ _ q)) (Nat.lt_irrefl _)
    · exact News.but N hrest hk q hq
end
end Mine
end

section
open PySem.Calls
namespace Mine

/-- the pieces between the stars -/
def cut (c : Nat) : List Nat → List (List Nat)
  | [] => [[]]
  | a :: r => if a = c then [] :: cut c r else match cut c r with
    | p :: ps => (a :: p) :: ps
    | [] => [[a]]
theorem cut_ne (c : Nat) (l : List Nat) : cut c l ≠ [] := by
  cases l with
  | nil => simp [cut]
  | cons a r => unfold cut; split
                · simp
                · split <;> simp
def glue (c : Nat) : List (List Nat) → List Nat
  | [] => []
  | [p] => p
  | p :: q :: r => p ++ c :: glue c (q :: r)
theorem cut_append (c : Nat) : ∀ p r : List Nat, c ∉ p → cut c (p ++ r) = match cut c r with | q :: qs => (p ++ q) :: qs | [] => []
  | [], r, _ => by cases h : cut c r with
    | nil => exact absurd h (cut_ne c r)
    | cons q qs => simp [h]
  | a :: p, r, h => by
    have ha : a ≠ c := fun e => h (by simp [e])
    have ih := cut_append c p r (fun e => h (by simp [e]))
    cases hr : cut c r with
    | nil => exact absurd hr (cut_ne c r)
    | cons q qs =>
      rw [hr] at ih
      simp only [List.cons_append, cut, if_neg ha, ih]
theorem cut_glue (c : Nat) : ∀ ps : List (List Nat), ps ≠ [] → (∀ p ∈ ps, c ∉ p) → cut c (glue c ps) = ps
  | [], h, _ => absurd rfl h
  | [p], _, hf => by
    have := cut_append c p [] (hf p (by simp))
    simpa [glue, cut] using this
  | p :: q :: r, _, hf => by
    have ih := cut_glue c (q :: r) (by simp) (fun x hx => hf x (by simp [hx]))
    have := cut_append c p (c :: glue c (q :: r)) (hf p (by simp))
    simpa [glue, cut, ih] using this
theorem cut_len (c : Nat) : ∀ l, (cut c l).length ≤ l.length + 1
  | [] => by simp [cut]
  | a :: r => by
    have ih := cut_len c r
    unfold cut; split
    · simp; exact ih
    · split
      · rename_i h; rw [h] at ih; simp at ih ⊢; omega
      · simp
def lis (x : Str) : List Nat := x.cps.toList
def ofL (l : List Nat) : Str := ⟨l.toArray⟩
@[simp] theorem lis_ofL (l : List Nat) : lis (ofL l) = l := by simp [lis, ofL]
@[simp] theorem ofL_lis (x : Str) : ofL (lis x) = x := by simp [lis, ofL]
theorem lis_inj {x y : Str} (h : lis x = lis y) : x = y := by rw [← ofL_lis x, h, ofL_lis]
theorem lis_append (x y : Str) : lis (x ++ y) = lis x ++ lis y := by
  show (Str.append x y).cps.toList = _
  simp [Str.append, lis]
theorem length_lis (x : Str) : x.length = (lis x).length := by simp [Str.length, lis]
theorem glue_join (c : Nat) : ∀ ps : List Str, lis (Str.join ⟨#[c]⟩ ps) = glue c (ps.map lis)
  | [] => rfl
  | [p] => rfl
  | p :: q :: r => by
    have ih := glue_join c (q :: r)
    show lis (p ++ ⟨#[c]⟩ ++ Str.join ⟨#[c]⟩ (q :: r)) = _
    rw [lis_append, lis_append, ih]
    simp [glue, lis]
theorem split_ne (x y : Str) : Txt.split x y ≠ [] := by
  unfold Txt.split
  split
  · simp
  · split
    · simp
    · intro h
      rw [StrLaws.partsBetween_eq] at h
      cases hc : Builtin.Str.occurrences x y 0 x.length (x.length + 1) with
      | nil => rw [hc] at h; simp [StrLaws.partsFrom] at h
      | cons a r => obtain ⟨p, q, e⟩ := StrLaws.partsFrom_ne x y.length 0 (a :: r); rw [hc, e] at h; cases h
theorem split_cut (x : Str) (c : Nat) : (Txt.split x ⟨#[c]⟩).map lis = cut c (lis x) := by
  have h := StrLaws.join_split x ⟨#[c]⟩
  have h2 := glue_join c (Txt.split x ⟨#[c]⟩)
  rw [h] at h2
  rw [h2, cut_glue]
  · intro e; exact split_ne x _ (List.map_eq_nil_iff.mp e)
  · intro p hp
    obtain ⟨q, hq, rfl⟩ := List.mem_map.mp hp
    exact StrLaws.split_free x c q hq
theorem split_few (x : Str) (c : Nat) : (Txt.split x ⟨#[c]⟩).length ≤ x.length + 1 := by
  have h := cut_len c (lis x)
  rw [← split_cut, List.length_map, ← length_lis] at h
  exact h
end Mine
end

section
open PySem.Calls
namespace Mine
section
variable {prog : Program} {w : World} {A : Around} {E : Value → Shared → Prop} {s : Shared} {h₀ : Heap} {L D : Addr} {m : Str → Option Value} {news news' : List (Addr × Obj)} {vs : List Value} {c : Nat}

/-- the place that an index means -/
def place (k : Int) (n : Nat) : Nat := if k < 0 then (k + n).toNat else k.toNat

theorem get_L {k : Int} {u : Tok} {x : Value} {Q : Value → Shared → Prop} (N : News h₀ L s.heap news) (hm : (D, listOf vs.toArray c) ∈ news) (h0 : -(vs.length : Int) ≤ k) (h1 : k < vs.length) (hfit : (vs.length : Int) < 2 ^ 63)
    (hx : vs[place k vs.length]? = some x) (h : Q x s) : wpAny (model prog w) A (getItem (.ref D) (.int k u)) Q E s := by
  have hl : s.heap.IsList D vs.toArray := ⟨_, (N _ hm).1, rfl, c, rfl⟩
  unfold place at hx
  by_cases hk : k < 0
  · rw [if_pos hk] at hx
    exact wpAny_getItem_list_neg hl hk (by simpa using h0) (by omega) (by simpa using hx) h
  · rw [if_neg hk] at hx
    exact wpAny_getItem_list hl (by omega) (by omega) (by simpa using hx) h

theorem sub_L {value slice : Expr} {k : Int} {u : Tok} {x : Value} {Q : Value → Shared → Prop} (N : News h₀ L s.heap news) (hm : (D, listOf vs.toArray c) ∈ news) (h0 : -(vs.length : Int) ≤ k) (h1 : k < vs.length) (hfit : (vs.length : Int) < 2 ^ 63)
    (hx : vs[place k vs.length]? = some x) (h : Q x s)
    (hs : subscripted slice false (.ref D) (.int k u) = operate [.ref D, .int k u] (getItem (.ref D) (.int k u)) := by with_unfolding_all rfl) :
    wpAny (model prog w) A (subscriptTail value slice (.ref D) (.int k u)) Q E s :=
  tail_any ⟨_, (N _ hm).1, rfl⟩ slot_list_getitem.lookup (get_L N hm h0 h1 hfit hx h) hs

theorem set_raw {k : Int} {u : Tok} {v : Value} {Q : Unit → Shared → Prop} (hl : s.heap.get? D = some (listOf vs.toArray c)) (h0 : -(vs.length : Int) ≤ k) (h1 : k < vs.length) (hfit : (vs.length : Int) < 2 ^ 63)
    (hQ : Q () { s with heap := s.heap.update D (Obj.mapSeq (·.setIfInBounds (place k vs.length) v)) }) :
    wpAny (model prog w) A (setItem (.ref D) (.int k u) v) Q E s := by
  have hL : s.heap.IsList D vs.toArray := ⟨_, hl, rfl, c, rfl⟩
  unfold setItem
  try with_reducible refine wpAny_holding ?_
  first | refine wpAny_bind (wpAny_pure ?_) | skip
  refine wpAny_bind (wpAny_sequenceKey hL.typeIs (by decide) ?_)
  refine wpAny_bind (wpAny_callSpecial?_slot (name := Str.ofString "__setitem__") hL.typeIs slot_list_setitem
    (wpAny_call_entry slot_list_setitem hL.typeIs entry_list_setitem ?_ (args_list_setitem _ _ _)))
  show wpAny _ _ (Builtin.List.listSubscript? (.int k u) >>= _) _ _ s
  by_cases hk : k < 0
  · refine wpAny_bind (wpAny_listSubscript_int (fitsIndex_neg hk (by omega)) ?_)
    clear hfit
    have hidx := seqIndex_neg hk h0
    have hp : place k vs.length = (k + vs.length).toNat := by unfold place; rw [if_pos hk]
    have hj : (k + vs.length).toNat < vs.length := by omega
    rw [hp] at hQ
    obtain ⟨j, rfl⟩ : ∃ j : Nat, k = Int.negSucc j := by
      cases k with
      | ofNat n => exact absurd hk (Int.not_lt.mpr (Int.natCast_nonneg n))
      | negSucc n => exact ⟨n, rfl⟩
    show wpAny _ _ ((Builtin.List.listItems (.ref D) >>= fun xs => pure ((seqIndex? (Int.negSucc j) xs.size).bind fun i => xs[i]?.map (i, ·))) >>= _) _ _ s
    refine wpAny_bind (wpAny_bind ?_)
    show wpAny _ _ (seqItems? (.ref D) >>= _) _ _ s
    refine wpAny_bind (wpAny_seqItems hl rfl (wpAny_pure (wpAny_pure ?_)))
    have hsz : vs.toArray.size = vs.length := by simp
    rw [hsz, hidx]
    simp only [Option.bind_some, List.getElem?_toArray, List.getElem?_eq_getElem hj, Option.map_some]
    show wpAny _ _ (setSeqItemAt D _ v >>= _) _ _ s
    refine wpAny_bind (wpAny_setSeqItemAt hl rfl ?_)
    first
      | exact wpAny_bind (wpAny_pure (wpAny_pure ⟨.none, rfl, wpAny_pure hQ⟩))
      | exact wpAny_pure ⟨.none, rfl, wpAny_pure hQ⟩
  · refine wpAny_bind (wpAny_listSubscript_int (fitsIndex_of (by omega) (by omega)) ?_)
    clear hfit
    have hp : place k vs.length = k.toNat := by unfold place; rw [if_neg hk]
    rw [hp] at hQ
    obtain ⟨j, rfl⟩ := Int.eq_ofNat_of_zero_le (by omega : 0 ≤ k)
    have hj : j < vs.length := by omega
    show wpAny _ _ ((seqItemAt D j >>= fun r => pure (r.map (j, ·))) >>= _) _ _ s
    refine wpAny_bind (wpAny_bind (wpAny_seqItemAt hl rfl (wpAny_pure ?_)))
    simp only [List.getElem?_toArray, List.getElem?_eq_getElem hj, Option.map_some]
    show wpAny _ _ (setSeqItemAt D _ v >>= _) _ _ s
    refine wpAny_bind (wpAny_setSeqItemAt hl rfl ?_)
    first
      | exact wpAny_bind (wpAny_pure (wpAny_pure ⟨.none, rfl, wpAny_pure hQ⟩))
      | exact wpAny_pure ⟨.none, rfl, wpAny_pure hQ⟩

theorem set_L {k : Int} {u : Tok} {v : Value} {Q : Unit → Shared → Prop} (F : Fr h₀ L s.heap m) (N : News h₀ L s.heap news) (U : Upd D (listOf vs.toArray c) (listOf (vs.set (place k vs.length) v).toArray c) news news') (h0 : -(vs.length : Int) ≤ k) (h1 : k < vs.length) (hfit : (vs.length : Int) < 2 ^ 63)
    (hQ : ∀ h', Fr h₀ L h' m → News h₀ L h' news' → Q () { s with heap := h' }) :
    wpAny (model prog w) A (setItem (.ref D) (.int k u) v) Q E s := by
  obtain ⟨pre, post, e1, e2, n1, n2⟩ := U.split
  subst e1 e2
  have hl := (N (D, listOf vs.toArray c) (by simp)).1
  refine set_raw hl h0 h1 hfit ?_
  have e : Obj.mapSeq (·.setIfInBounds (place k vs.length) v) (listOf vs.toArray c) = listOf (vs.set (place k vs.length) v).toArray c := by
    simp [Obj.mapSeq]
  obtain ⟨F', N'⟩ := news_upd F N n1 n2 e rfl
  exact hQ _ F' N'
end

def wrS (p : Str) : Str := Str.ofString "(?>.*?" ++ p ++ Str.ofString ")"
def wrapK (E : List Str) (k : Nat) : List Str := E.mapIdx fun i e => if 1 ≤ i ∧ i < 1 + k then wrS e else e
theorem wrapK_length (E : List Str) (k : Nat) : (wrapK E k).length = E.length := by
  unfold wrapK; simp
theorem wrapK_zero (E : List Str) : wrapK E 0 = E := by
  unfold wrapK
  apply List.ext_getElem?
  intro i
  rw [List.getElem?_mapIdx]
  cases h : E[i]? with
  | none => rfl
  | some e => simp; intro h1 h2; omega
theorem wrapK_step (E : List Str) (j : Nat) (e : Str) (he : (wrapK E j)[1 + j]? = some e) : (wrapK E j).set (1 + j) (wrS e) = wrapK E (j + 1) := by
  apply List.ext_getElem?
  intro i
  rw [List.getElem?_set]
  have hlt : 1 + j < (wrapK E j).length := by
    have := List.getElem?_eq_some_iff.mp he
    exact this.1
  unfold wrapK at he ⊢
  rw [List.getElem?_mapIdx] at he
  by_cases h : 1 + j = i
  · subst h
    rw [if_pos rfl, if_pos (by simpa [wrapK] using hlt)]
    rw [List.getElem?_mapIdx]
    cases hx : E[1 + j]? with
    | none => rw [hx] at he; cases he
    | some x => rw [hx] at he; simp at he; simp [he]
  · rw [if_neg h, List.getElem?_mapIdx, List.getElem?_mapIdx]
    cases hx : E[i]? with
    | none => rfl
    | some x =>
      simp only [Option.map_some]
      congr 1
      by_cases h1 : 1 ≤ i ∧ i < 1 + j
      · rw [if_pos h1, if_pos (by omega)]
      · rw [if_neg h1, if_neg (by omega)]

section
variable {prog : Program} {w : World} {A : Around} {E : Value → Shared → Prop} {s : Shared} {h₀ : Heap} {L D : Addr} {m : Str → Option Value} {news news' : List (Addr × Obj)} {ys : List (Str × Tok)} {c : Nat}
theorem strValues_length (ys : List (Str × Tok)) : (strValues ys).length = ys.length := by simp [strValues]
theorem len_T {Q : Value → Shared → Prop} (N : News h₀ L s.heap news) (hm : (D, listOf (strValues ys).toArray c) ∈ news) (hfit : (ys.length : Int) < 2 ^ 63)
    (h : Q (.int (ys.length : Int) (s.toks + 1)) { s with toks := s.toks + 1 + 1 }) : wpAny (model prog w) A (call (.builtin "len") [.ref D]) Q E s := kst_len N hm (strValues_length ys) hfit h
theorem sub_T {value slice : Expr} {k : Int} {u : Tok} {x : Str × Tok} {Q : Value → Shared → Prop} (N : News h₀ L s.heap news) (hm : (D, listOf (strValues ys).toArray c) ∈ news) (h0 : -(ys.length : Int) ≤ k) (h1 : k < ys.length) (hfit : (ys.length : Int) < 2 ^ 63)
    (hx : ys[place k ys.length]? = some x) (h : Q (.str x.1 x.2) s)
    (hs : subscripted slice false (.ref D) (.int k u) = operate [.ref D, .int k u] (getItem (.ref D) (.int k u)) := by with_unfolding_all rfl) :
    wpAny (model prog w) A (subscriptTail value slice (.ref D) (.int k u)) Q E s := by
  rw [← strValues_length ys] at h0 h1 hfit
  refine sub_L N hm h0 h1 hfit ?_ h hs
  rw [strValues_length]; unfold strValues; rw [List.getElem?_map, hx]; rfl
theorem set_T {k : Int} {u t : Tok} {v : Str} {Q : Unit → Shared → Prop} (F : Fr h₀ L s.heap m) (N : News h₀ L s.heap news) (U : Upd D (listOf (strValues ys).toArray c) (listOf (strValues (ys.set (place k ys.length) (v, t))).toArray c) news news') (h0 : -(ys.length : Int) ≤ k) (h1 : k < ys.length) (hfit : (ys.length : Int) < 2 ^ 63)
    (hQ : ∀ h', Fr h₀ L h' m → News h₀ L h' news' → Q () { s with heap := h' }) :
    wpAny (model prog w) A (setItem (.ref D) (.int k u) (.str v t)) Q E s := by
  have e : strValues (ys.set (place k ys.length) (v, t)) = (strValues ys).set (place k (strValues ys).length) (.str v t) := by
    rw [strValues_length]; unfold strValues; rw [List.map_set]
  rw [e] at U
  rw [← strValues_length ys] at h0 h1 hfit
  exact set_L F N U h0 h1 hfit hQ
theorem join_T {sep : Str} {t : Tok} {B : Nat} {Q : Value → Shared → Prop} (N : News h₀ L s.heap news) (hm : (D, listOf (strValues ys).toArray c) ∈ news) (hB : ∀ y ∈ ys, y.1.length ≤ B) (hsz : ys.length * B + ys.length * sep.length ≤ 16777216)
    (h : ∀ t' k, Q (.str (Str.join sep (ys.map (·.1))) t') { s with toks := k }) : wpAny (model prog w) A (call (.builtin "str.join") [.str sep t, .ref D]) Q E s := by
  refine SC.join (texts := ys.map (·.1)) ⟨_, (N _ hm).1, rfl, c, rfl⟩ rfl ?_ ?_
  · have := StrLaws.joinFits (sep := sep) (texts := ys.map (·.1)) (B := B) (fun y hy => by obtain ⟨z, hz, rfl⟩ := List.mem_map.mp hy; exact hB z hz) (by simpa using hsz)
    unfold JoinOk
    simpa using this
  · intro t' k
    have := h t' k
    rwa [← StrLaws.glued_eq_join] at this
end
end Mine
namespace Mine
def tpParts (E : List Str) : List Str := (wrapK E (E.length - 2)).set (E.length - 1) (Str.ofString ".*" ++ ((wrapK E (E.length - 2))[E.length - 1]?.getD Str.empty))
def tpS (path : Str) : Str := Str.join (Str.ofString "") (tpParts ((Txt.split path (Str.ofString "*")).map esc))
theorem tpParts_of {E : List Str} {ys : List (Str × Tok)} {z : Str × Tok} {t : Tok} {v : Str} {j : Nat} (h : ys.map (·.1) = wrapK E (E.length - 2)) (hj : j = E.length - 1) (hz : ys[j]? = some z) (hv : v = Str.ofString ".*" ++ z.1) : (ys.set j (v, t)).map (·.1) = tpParts E := by
  subst hj
  unfold tpParts
  rw [List.map_set, h]
  have : (wrapK E (E.length - 2))[E.length - 1]? = some z.1 := by rw [← h, List.getElem?_map, hz]; rfl
  rw [this, hv]; rfl
theorem ofString_star : Str.ofString "*" = ⟨#[42]⟩ := by decide +kernel
theorem split_pos {l : List (Str × Tok)} {path : Str} (h : l.map (·.1) = Txt.split path (Str.ofString "*")) : 1 ≤ l.length := by
  cases l with
  | nil => exact absurd h.symm (split_ne _ _)
  | cons a r => simp
theorem esc_len (x : Str) : (esc x).length ≤ 2 * x.length := by
  unfold esc trS
  have := tr_len specP_len x.cps.toList
  simpa [Str.length] using this
end Mine
namespace Mine
theorem set_bound {ys : List (Str × Tok)} {j B : Nat} {v : Str} {t : Tok} (h : ∀ y ∈ ys, y.1.length ≤ B) (hv : v.length ≤ B) : ∀ y ∈ ys.set j (v, t), y.1.length ≤ B := by
  intro y hy
  rcases List.mem_or_eq_of_mem_set hy with h1 | h1
  · exact h y h1
  · rw [h1]; exact hv
theorem strLen_append (x y : Str) : (x ++ y).length = x.length + y.length := by rw [length_lis, length_lis x, length_lis y, lis_append, List.length_append]
theorem empty_append (x : Str) : Str.empty ++ x = x := lis_inj (by rw [lis_append]; rfl)
theorem glen6 : (Str.ofString "(?>.*?").length = 6 := by decide +kernel
theorem glen1 : (Str.ofString ")").length = 1 := by decide +kernel
theorem glen2 : (Str.ofString ".*").length = 2 := by decide +kernel
theorem wr_len (e : Str) : (wrS e).length = e.length + 7 := by
  unfold wrS; rw [strLen_append, strLen_append, glen6, glen1]; omega
/-- one turn of the loop -/
theorem turn_of {E : List Str} {y : List (Str × Tok)} {j p : Nat} {z : Str × Tok} {v : Str} {t : Tok} (h : y.map (·.1) = wrapK E j) (hp : p = 1 + j) (hz : y[p]? = some z) (hv : v = wrS z.1) : (y.set p (v, t)).map (·.1) = wrapK E (j + 1) := by
  subst hp
  rw [List.map_set, h, hv]
  refine wrapK_step E j z.1 ?_
  rw [← h, List.getElem?_map, hz]; rfl
theorem turn_len {E : List Str} {y : List (Str × Tok)} {j p : Nat} {z : Str × Tok} {v : Str} {t : Tok} (hE : ∀ e ∈ E, e.length ≤ 193) (h : y.map (·.1) = wrapK E j) (hp : p = 1 + j) (hz : y[p]? = some z) (hv : v = wrS z.1) (hb : ∀ q ∈ y, q.1.length ≤ 200) : ∀ q ∈ y.set p (v, t), q.1.length ≤ 200 := by
  subst hp
  refine set_bound hb ?_
  rw [hv, wr_len]
  have h1 : (wrapK E j)[1 + j]? = some z.1 := by rw [← h, List.getElem?_map, hz]; rfl
  unfold wrapK at h1
  rw [List.getElem?_mapIdx] at h1
  cases hx : E[1 + j]? with
  | none => rw [hx] at h1; cases h1
  | some x =>
    rw [hx] at h1
    simp at h1
    have := hE x (List.mem_of_getElem? hx)
    rw [← h1]; omega
end Mine
end

section
open PySem.Calls
namespace Mine

def escL (l : List Nat) : List Nat := l.flatMap (trC specP)
def wrL (e : List Nat) : List Nat := [40, 63, 62, 46, 42, 63] ++ e ++ [41]
def fr : List (List Nat) → List Nat
  | [] => []
  | e :: r => e ++ r.flatMap wrL
def asm (E : List (List Nat)) : List Nat := fr E.dropLast ++ [46, 42] ++ (E.getLast?.getD [])

theorem lis_esc (x : Str) : lis (esc x) = escL (lis x) := by simp [esc, trS, lis, escL]
theorem lit6 : lis (Str.ofString "(?>.*?") = [40, 63, 62, 46, 42, 63] := by decide +kernel
theorem lit1 : lis (Str.ofString ")") = [41] := by decide +kernel
theorem lit2 : lis (Str.ofString ".*") = [46, 42] := by decide +kernel
theorem lit0 : Str.ofString "" = Str.empty := by decide +kernel
theorem lis_wrS (e : Str) : lis (wrS e) = wrL (lis e) := by
  unfold wrS wrL; rw [lis_append, lis_append, lit6, lit1]
theorem join_empty : ∀ xs : List Str, lis (Str.join Str.empty xs) = (xs.map lis).flatten
  | [] => rfl
  | [x] => by simp [Str.join]
  | x :: y :: r => by
    have ih := join_empty (y :: r)
    show lis (x ++ Str.empty ++ Str.join Str.empty (y :: r)) = _
    rw [lis_append, lis_append, ih]
    have : lis Str.empty = [] := rfl
    simp [this]
theorem wrapK_mid (e : Str) (mid : List Str) (z : Str) : wrapK (e :: (mid ++ [z])) mid.length = e :: (mid.map wrS ++ [z]) := by
  unfold wrapK
  apply List.ext_getElem?
  intro i
  rw [List.getElem?_mapIdx]
  cases i with
  | zero => rfl
  | succ i =>
    simp only [List.getElem?_cons_succ]
    by_cases h : i < mid.length
    · rw [List.getElem?_append_left h, List.getElem?_append_left (by simpa using h), List.getElem?_map, List.getElem?_eq_getElem h]
      simp only [Option.map_some]
      rw [if_pos (by omega)]
    · rw [List.getElem?_append_right (by omega), List.getElem?_append_right (by simp; omega), List.length_map]
      cases hj : i - mid.length with
      | zero => simp; intro; omega
      | succ j => simp
theorem tpParts_asm (E : List Str) (hE : E ≠ []) : ((tpParts E).map lis).flatten = asm (E.map lis) := by
  cases E with
  | nil => exact absurd rfl hE
  | cons e r =>
    rcases List.eq_nil_or_concat r with rfl | ⟨mid, z, rfl⟩
    · unfold tpParts asm
      simp [wrapK_zero, lis_append, lit2, fr]
    · rw [List.concat_eq_append]
      unfold tpParts
      have hn : (e :: (mid ++ [z])).length - 2 = mid.length := by simp
      have hn1 : (e :: (mid ++ [z])).length - 1 = mid.length + 1 := by simp
      rw [hn, hn1, wrapK_mid]
      have h1 : (e :: (mid.map wrS ++ [z]))[mid.length + 1]? = some z := by
        rw [List.getElem?_cons_succ, List.getElem?_append_right (by simp)]; simp
      rw [h1]
      have h2 : (e :: (mid.map wrS ++ [z])).set (mid.length + 1) (Str.ofString ".*" ++ z) = e :: (mid.map wrS ++ [Str.ofString ".*" ++ z]) := by
        rw [List.set_cons_succ, List.set_append_right _ _ (by simp)]; simp
      simp only [Option.getD_some]
      rw [h2]
      unfold asm
      have h3 : List.map lis (e :: (mid ++ [z])) = (lis e :: mid.map lis) ++ [lis z] := by simp
      rw [h3, List.dropLast_concat, List.getLast?_concat]
      simp only [fr, List.map_cons, List.map_append, List.map_map, List.map_nil, List.flatten_cons, List.flatten_append, List.flatten_nil, List.append_nil, lis_append, lit2, Option.getD_some, List.flatMap_map]
      have h4 : List.map (lis ∘ wrS) mid = mid.map (fun e => wrL (lis e)) := by apply List.map_congr_left; intro a _; exact lis_wrS a
      rw [h4, List.flatMap_def]
      simp
theorem tpS_asm (path : Str) : lis (tpS path) = asm ((cut 42 (lis path)).map escL) := by
  unfold tpS
  rw [lit0, join_empty, tpParts_asm _ (by intro h; exact split_ne _ _ (List.map_eq_nil_iff.mp h)), ofString_star, ← split_cut]
  congr 1
  simp only [List.map_map]
  apply List.map_congr_left
  intro x _
  exact lis_esc x

end Mine
namespace Mine
section
variable {prog : Program} {w : World} {A A₀ : Around} {E : Value → Shared → Prop} {s : Shared} {K : Frag} {L : Addr} {h₀ base : Heap} {m mg mb : Str → Option Value} {p : Program} {loose : List Str} {mean : ExcName → Option Value}
  {news : List (Addr × Obj)}
theorem use_pureS {k : Nat} {f : Addr} {vs : List Value} {y : Str} {Q : Value → Shared → Prop} {dp un : Nat} {gd : Option (List Code)} {cn : Str} {cs : Scope} {a : Addr} {ccd : Value} {cl : List (Str × Addr)} {outer : List Env}
    (P : PureFn k prog w K p loose mean mg mb f vs (fun v => ∃ t', v = .str y t'))
    (B : Below A₀ base outer h₀) (F : Fr h₀ L s.heap m) (N : News h₀ L s.heap news) (X : K.In h₀) (Tp : Top p loose mean mg mb h₀) (hck : cs.kind = .function) (hd : dp + k < recursionLimit) (hu : un + 8 * k < cLine)
    (h : ∀ t' h' tk', Fr h₀ L h' m → News h₀ L h' news → Q (.str y t') { s with heap := h', toks := tk' }) :
    wpAny (model prog w) (ktrTop dp un gd cn cs L a ccd cl outer) (call (.ref f) vs) Q E s :=
  P dp un gd cn cs a ccd cl outer A₀ base h₀ L m s Q E B F X Tp hck hd hu fun v h' tk' hv hg => by
    obtain ⟨t', rfl⟩ := hv
    exact h t' h' tk' (Fr.grow F hg) (News.grow N hg)
end
/-- law 06, between two turns -/
structure Inv6 (n : Nat) (p f l : Str) (s : Int) : Prop where
  len : p.length ≤ n
  fl : f.length + l.length ≤ 10 * n
  front : lis f = fr ((cut 42 (lis p)).map escL).dropLast
  last : lis l = ((cut 42 (lis p)).map escL).getLast?.getD []
  stars : s = ((cut 42 (lis p)).length : Int) - 1

/-- a mark: the walk stands still here -/
def Stop (P : Prop) : Prop := P
theorem stop {P : Prop} (h : Stop P) : P := h
theorem len_none : (Str.ofString "").length = 0 := by decide +kernel
theorem lis_none : lis (Str.ofString "") = [] := by decide +kernel
theorem lis_star : lis (Str.ofString "*") = [42] := by decide +kernel
section
variable {n : Nat} {p f l : Str} {s : Int}
end
end Mine
namespace Mine
theorem fmod_lt {x m : Int} (hm : 0 < m) : 0 ≤ x.fmod m ∧ x.fmod m < m := ⟨Int.fmod_nonneg_of_pos x hm, Int.fmod_lt_of_pos x hm⟩
theorem lis_back : lis (Str.ofString "\\") = [92] := by decide +kernel
end Mine
namespace Mine
theorem ite_no {c : Prop} [Decidable c] {a b : Prop} (hc : ¬ c) (h : b) : if c then a else b := by rw [if_neg hc]; exact h
end Mine
end

section
open PySem.Calls
namespace Mine

theorem lis_getElem (x : Str) (i : Nat) : x.cps[i]? = (lis x)[i]? := by simp [lis]
theorem item_of {x : Str} {k : Int} {c : Nat} {rest : List Nat} (h0 : 0 ≤ k) (hd : (lis x).drop k.toNat = c :: rest) : Txt.item x k = ofL [c] := by
  have h1 : x.cps[k.toNat]? = some c := by
    rw [lis_getElem]
    have := congrArg List.head? hd
    rwa [List.head?_drop] at this
  unfold Txt.item Txt.charAt
  rw [StrLaws.at_nonneg h0 h1]
  rfl
theorem drop_lt {x : Str} {k : Int} {c : Nat} {rest : List Nat} (h0 : 0 ≤ k) (hd : (lis x).drop k.toNat = c :: rest) : k < x.length := by
  have := congrArg List.length hd
  rw [List.length_drop, ← length_lis] at this
  simp at this; omega

theorem sliceIdx_clip (len : Nat) {i j : Int} (hi : 0 ≤ i) (hj : 0 ≤ j) : Builtin.Str.strSliceIndices (some i) (some j) 1 len = Builtin.Str.strSliceIndices (some (min i (len : Int))) (some (min j (len : Int))) 1 len := by
  have a1 : ¬ i < 0 := by omega
  have a2 : ¬ j < 0 := by omega
  have a3 : ¬ min i (len : Int) < 0 := by omega
  have a4 : ¬ min j (len : Int) < 0 := by omega
  have e1 : min (min i (len : Int)) (len : Int) = min i (len : Int) := by omega
  have e2 : min (min j (len : Int)) (len : Int) = min j (len : Int) := by omega
  simp [Builtin.Str.strSliceIndices, a1, a2, a3, a4, e1, e2]
theorem slice_of (x : Str) {i j : Int} (hi : 0 ≤ i) (hij : i ≤ j) : Txt.slice x (some i) (some j) = ofL (((lis x).drop i.toNat).take (j - i).toNat) := by
  have e : Txt.slice x (some i) (some j) = StrLaws.sliceText x (some (min i (x.length : Int))) (some (min j (x.length : Int))) := by
    show StrLaws.sliceText x (some i) (some j) = _
    unfold StrLaws.sliceText
    rw [sliceIdx_clip x.length hi (by omega)]
  rw [e]
  have hn : ∀ a : Int, 0 ≤ a → min a (x.length : Int) = ((min a.toNat x.length : Nat) : Int) := by intro a ha; omega
  rw [hn i hi, hn j (by omega), StrLaws.sliceText_nat x (by omega) (by omega)]
  unfold ofL lis
  congr 2
  have hl : x.cps.toList.length = x.length := by simp [Str.length]
  generalize x.cps.toList = l at hl
  by_cases h1 : i.toNat ≤ x.length
  · rw [Nat.min_eq_left h1]
    by_cases h2 : j.toNat ≤ x.length
    · rw [Nat.min_eq_left h2]; congr 1; omega
    · rw [Nat.min_eq_right (by omega)]
      rw [List.take_of_length_le (by simp; omega), List.take_of_length_le (by simp; omega)]
  · rw [List.drop_of_length_le (by rw [Nat.min_eq_right (by omega)]; omega), List.drop_of_length_le (by omega)]; simp

section
variable {prog : Program} {w : World} {A : Around} {E : Value → Shared → Prop} {s : Shared} {h₀ : Heap} {L : Addr} {m : Str → Option Value} {news : List (Addr × Obj)}
theorem sub_str {value slice : Expr} {x : Str} {t u : Tok} {k : Int} {c : Nat} {rest : List Nat} {Q : Value → Shared → Prop} (h0 : 0 ≤ k) (hl : x.length < 2 ^ 60) (hd : (lis x).drop k.toNat = c :: rest)
    (h : Q (.str (ofL [c]) s.toks) { s with toks := s.toks + 1 })
    (hs : subscripted slice false (.str x t) (.int k u) = operate [.str x t, .int k u] (getItem (.str x t) (.int k u)) := by with_unfolding_all rfl)
    (ht : ∀ r, letTemporaryGo value (.str x t) r = pure () := by intro _; with_unfolding_all rfl) :
    wpAny (model prog w) A (subscriptTail value slice (.str x t) (.int k u)) Q E s := by
  have hlt := drop_lt h0 hd
  refine item_str (fitsSsize_of (N := 9223372036854775808) (by omega) (by omega) (Int.le_refl _)) (by omega) hlt (fun _ => ?_) hs ht
  rw [item_of h0 hd]; exact h
theorem slice_ss {value slice : Expr} {x : Str} {t ui uj : Tok} {i j : Int} {l : List Nat} {Q : Value → Shared → Prop} (F : Fr h₀ L s.heap m) (N : News h₀ L s.heap news) (hi : 0 ≤ i) (hij : i ≤ j) (hl : x.length ≤ sizeLine) (he : ((lis x).drop i.toNat).take (j - i).toNat = l)
    (h : ∀ h' t' k, Fr h₀ L h' m → News h₀ L h' news → Q (.str (ofL l) t') { s with heap := h', toks := k })
    (hs : subscripted slice false (.str x t) (.ref s.heap.objs.size) = operate [.ref s.heap.objs.size, .str x t] (getItem (.str x t) (.ref s.heap.objs.size)) := by with_unfolding_all rfl)
    (ht : ∀ r, letTemporaryGo value (.str x t) r = pure () := by intro _; with_unfolding_all rfl) :
    wpAny (model prog w) A (subscriptTail value slice (.str x t) (.ref s.heap.objs.size)) Q E { s with heap := s.heap.push { cls := .type "slice", data := .fields #[.int i ui, .int j uj, .none] } } := by
  refine slice_strN_ss F N (fun h' t' k F' N' => ?_) hs ht hl
  rw [slice_of x hi hij, he]; exact h h' t' k F' N'
theorem in_one {x : Str} {t u : Tok} {c : Nat} {Q : Value → Shared → Prop} (h : Q (.bool (decide (c ∈ lis x))) s) : wpAny (model prog w) A (compareOp .In (.str (ofL [c]) u) (.str x t)) Q E s := by
  refine PyProof.Rows.in_str ?_
  have := StrLaws.found_one x c
  show Q (.bool !(Builtin.Str.occurrences x ⟨#[c]⟩ 0 x.length 1).isEmpty) s
  rw [this]; exact h
end
section
variable {prog : Program} {w : World} {A : Around} {E : Value → Shared → Prop} {s : Shared}
end
theorem lis_ofS (s : Str) (l : List Nat) (h : lis s = l) : s = ofL l := by rw [← h, ofL_lis]
theorem back_is : Str.ofString "\\" = ofL [92] := lis_ofS _ _ lis_back
theorem star_is : Str.ofString "*" = ofL [42] := lis_ofS _ _ lis_star
theorem ofL_inj {a b : List Nat} (h : ofL a = ofL b) : a = b := by rw [← lis_ofL a, h, lis_ofL]
theorem one_ne {c d : Nat} {y : Str} (hy : y = ofL [d]) (h : c ≠ d) : ¬ (ofL [c] == y) = true := by
  intro e
  have := ofL_inj ((beq_iff_eq.mp e).trans hy)
  exact h (by simpa using this)
theorem one_eq {c : Nat} {y : Str} (hy : y = ofL [c]) : (ofL [c] == y) = true := beq_iff_eq.mpr hy.symm
theorem ite_yes {c : Prop} [Decidable c] {a b : Prop} (hc : c) (h : a) : if c then a else b := by rw [if_pos hc]; exact h
theorem escL_cons (c : Nat) (p : List Nat) : escL (c :: p) = (if c ∈ specs then [92, c] else [c]) ++ escL p := by
  unfold escL
  rw [List.flatMap_cons]
  congr 1
  unfold trC specP
  by_cases h : c ∈ specs
  · rw [if_pos h, if_pos h]
  · rw [if_neg h, if_neg h]
end Mine
end

section
open PySem.Calls
namespace Mine
section
variable {prog : Program} {w : World} {A : Around} {E : Value → Shared → Prop} {s : Shared} {a b : Addr} {xs : List Value} {Q : Value → Shared → Prop}
theorem eq_none (ha : s.heap.IsList a xs.toArray) (hb : s.heap.IsList b #[]) (hu : A.units < cLine) (hx : xs = []) (h : Q (.bool true) s) : wpAny (model prog w) A (compareOp .Eq (.ref a) (.ref b)) Q E s := by
  subst hx
  exact PySem.SeqAt.RcAt.lists (e := fun _ => true) ha hb rfl hu (fun j h1 _ => absurd h1 (by simp)) prog w E Q (by simpa using h)
theorem eq_some (ha : s.heap.IsList a xs.toArray) (hb : s.heap.IsList b #[]) (hu : A.units < cLine) (hx : xs ≠ []) (h : Q (.bool false) s) : wpAny (model prog w) A (compareOp .Eq (.ref a) (.ref b)) Q E s :=
  PySem.SeqAt.RcAt.lists_lengths ha hb (by cases xs with | nil => exact absurd rfl hx | cons _ _ => simp) hu prog w E Q h
end
theorem stars_none {ys : List Value} {p : Str} (h : CarriedAll ys (List.map PyData.str (List.filter (fun a => a == Str.ofString "*") (signs p)))) (hp : 42 ∉ lis p) : ys = [] := by
  have hl := h.length_eq
  rw [List.length_map] at hl
  have : List.filter (fun a => a == Str.ofString "*") (signs p) = [] := by
    rw [List.filter_eq_nil_iff]
    intro x hx hs
    rw [beq_iff_eq, star_is] at hs
    subst hs
    unfold signs at hx
    rw [List.mem_map] at hx
    obtain ⟨n, hn, e⟩ := hx
    have : n = 42 := by
      have := congrArg lis e
      simpa [lis, ofL] using this
    subst this
    exact hp hn
  rw [this] at hl
  exact List.length_eq_zero_iff.mp hl
theorem stars_some {ys : List Value} {p : Str} (h : CarriedAll ys (List.map PyData.str (List.filter (fun a => a == Str.ofString "*") (signs p)))) (hp : 42 ∈ lis p) : ys ≠ [] := by
  intro e
  have hl := h.length_eq
  rw [e, List.length_map] at hl
  have hn := List.length_eq_zero_iff.mp hl.symm
  rw [List.filter_eq_nil_iff] at hn
  exact hn (ofL [42]) (by unfold signs; rw [List.mem_map]; exact ⟨42, hp, rfl⟩) (by rw [beq_iff_eq, star_is])

def midL (ms : List (List Nat)) : List Nat := ms.flatMap fun p => wrL (escL p)
def starL (ms : List (List Nat)) : List Nat := ms.flatMap fun p => 42 :: p
theorem cut_no (c : Nat) (l : List Nat) (h : c ∉ l) : cut c l = [l] := by
  have := cut_append c l [] h
  simpa [cut] using this
theorem cut_yes : ∀ l : List Nat, 42 ∈ l → ∃ p0 mids last, cut 42 l = p0 :: (mids ++ [last]) ∧ l = p0 ++ starL mids ++ 42 :: last ∧ 42 ∉ p0 ∧ (∀ p ∈ mids, 42 ∉ p) ∧ 42 ∉ last
  | [], h => nomatch h
  | a :: r, h => by
    by_cases ha : a = 42
    · subst ha
      by_cases hr : 42 ∈ r
      · obtain ⟨q0, ms, la, e1, e2, h0, hm, hl⟩ := cut_yes r hr
        refine ⟨[], q0 :: ms, la, ?_, ?_, by simp, ?_, hl⟩
        · simp [cut, e1]
        · simp only [starL, List.flatMap_cons, List.nil_append, List.cons_append] at e2 ⊢
          rw [e2]
        · intro p hp
          rcases List.mem_cons.mp hp with rfl | hp
          · exact h0
          · exact hm p hp
      · refine ⟨[], [], r, ?_, by simp [starL], by simp, by simp, hr⟩
        simp [cut, cut_no 42 r hr]
    · have hr : 42 ∈ r := by
        rcases List.mem_cons.mp h with e | e
        · exact absurd e.symm ha
        · exact e
      obtain ⟨q0, ms, la, e1, e2, h0, hm, hl⟩ := cut_yes r hr
      refine ⟨a :: q0, ms, la, ?_, ?_, ?_, hm, hl⟩
      · simp [cut, ha, e1]
      · rw [List.cons_append, List.cons_append, ← e2]
      · intro hc
        rcases List.mem_cons.mp hc with e | e
        · exact ha e.symm
        · exact h0 e
theorem escL_le : ∀ l : List Nat, (escL l).length ≤ 2 * l.length
  | [] => by simp [escL]
  | c :: p => by
    have ih := escL_le p
    rw [escL_cons, List.length_append, List.length_cons]
    split <;> simp <;> omega
theorem midL_le : ∀ ms : List (List Nat), (midL ms).length ≤ 7 * (starL ms).length
  | [] => by simp [midL, starL]
  | p :: r => by
    have ih := midL_le r
    have he := escL_le p
    simp only [midL, starL, List.flatMap_cons, List.length_append, List.length_cons, wrL, List.length_nil] at ih ⊢
    omega
theorem tpS_yes {p : Str} (h : 42 ∈ lis p) : ∃ p0 mids last, lis (tpS p) = escL p0 ++ (midL mids ++ (46 :: 42 :: escL last)) ∧ p = ofL (p0 ++ starL mids ++ 42 :: last) ∧ 42 ∉ p0 ∧ (∀ p ∈ mids, 42 ∉ p) ∧ 42 ∉ last ∧ (tpS p).length ≤ 7 * p.length + 2 := by
  obtain ⟨p0, mids, last, e1, e2, h0, hm, hl⟩ := cut_yes (lis p) h
  have e : lis (tpS p) = escL p0 ++ (midL mids ++ (46 :: 42 :: escL last)) := by
    rw [tpS_asm, e1]
    unfold asm
    rw [List.map_cons, List.map_append, List.map_cons, List.map_nil, ← List.cons_append, List.dropLast_concat, List.getLast?_concat]
    simp [fr, midL, List.flatMap_map]
  refine ⟨p0, mids, last, e, by rw [← e2, ofL_lis], h0, hm, hl, ?_⟩
  have a1 := escL_le p0
  have a2 := midL_le mids
  have a3 := escL_le last
  have b1 := congrArg List.length e
  have b2 := congrArg List.length e2
  rw [← length_lis] at b1 b2
  simp only [List.length_append, List.length_cons] at b1 b2
  omega
theorem itemLen (m : Str) (i : Int) (h : 0 ≤ i ∧ i < m.length) : (Txt.item m i).length = 1 := by
  have h2 := length_lis m
  have hlt : i.toNat < (lis m).length := by omega
  obtain ⟨c, rest, e⟩ : ∃ c rest, (lis m).drop i.toNat = c :: rest := ⟨_, _, List.drop_eq_getElem_cons hlt⟩
  rw [item_of h.1 e]; rfl
end Mine
end

section
open PySem.Calls
namespace Mine
/-- a way of a call's end: what it says of the ghost and of the heap behind; cells that were handed over stand as they were -/
def PuRX (s : Shared) (cells : List (Addr × Obj)) (g : Heap) (V : Heap → Heap → Value → Prop) (r : Result) (s' : Shared) : Prop :=
  match r with | .ok (.ret v) => V g s'.heap v ∧ (∃ h' tk', s' = { s with heap := h', toks := tk' }) ∧ ∀ q ∈ cells, s'.heap.get? q.1 = some q.2 | _ => False
section
variable {prog : Program} {w : World} {A A₀ : Around} {E : Value → Shared → Prop} {s : Shared} {K : Frag} {L : Addr} {h₀ base : Heap} {m mg mb : Str → Option Value} {p : Program} {loose : List Str} {mean : ExcName → Option Value}
abbrev ghost (s : Shared) (cells : List (Addr × Obj)) : Heap := hideAll s.heap (cells.map (fun q : Addr × Obj => q.1))
theorem ghost_none {s : Shared} {cells : List (Addr × Obj)} {D : Addr} (h : (ghost s cells).get? D = none) (hc : ∀ q ∈ cells, q.1 ≠ D) : s.heap.get? D = none := by
  cases e : s.heap.get? D with
  | none => rfl
  | some o =>
    have := hideAll_get (cells.map (fun q : Addr × Obj => q.1)) e (by
      intro hm
      obtain ⟨q, hq, e'⟩ := List.mem_map.mp hm
      exact hc q hq e')
    rw [h] at this; cases this
theorem grow_of {cells : List (Addr × Obj)} {h' : Heap} (N : News h₀ L s.heap cells) (hk : ∀ b o, (ghost s cells).get? b = some o → h'.get? b = some o) (hc : ∀ q ∈ cells, h'.get? q.1 = some q.2) : Grow s.heap h' := fun b o e => by
  by_cases hb : b ∈ cells.map (fun q : Addr × Obj => q.1)
  · obtain ⟨q, hq, rfl⟩ := List.mem_map.mp hb
    have e' := (N q hq).1
    rw [e] at e'
    cases e'
    exact hc q hq
  · exact hk b o (hideAll_get _ e hb)

/-- a def with cells of its own -/
theorem code_pureX {env : Env} {outer : List Env} {R : Result → Shared → Prop} {name qual : Str} {params : Arguments} {body : List Stmt} {scope : Scope} {dV kV doc pm cdv ct oc : Value} {an od : Option Addr} {osl : Array (Option Value)} {f : Addr} {args : Args} {binds : List (Str × Value)} {cells : List (Addr × Obj)}
    (V : Heap → Heap → Value → Prop) (hR : ∀ v h' tk', V (ghost s cells) h' v → Grow s.heap h' → R (.ok (.ret v)) { s with heap := h', toks := tk' })
    (B : Below A₀ base outer h₀) (F : Fr h₀ L s.heap m) (X₀ : K.In h₀) (N : News h₀ L s.heap cells) (T : Top p loose mean mg mb h₀) (hA : A.frames = some (env :: outer)) (hf : env.frame = some L) (hke : env.scope.kind = .function)
    (ho : K.lookup f = some ⟨oc, od, .func (fnOf name qual params body scope dV kV doc pm an cdv ct), osl⟩) (hcd : codeIn K cdv qual = true) (hroom : A.depth < recursionLimit)
    (hbind : BindsTo s (fnOf name qual params body scope dV kV doc pm an cdv ct) args binds) (hkind : (binds.all fun y => scope.names.lookup y.1 == some .local || scope.names.lookup y.1 == some .cell) = true)
    (hnd : ((cellsFrom 0 scope.names []).map (·.1)).Nodup)
    (h : ∀ g L' h₁ tk cs, Fr h₀ L g m → Fr g L' h₁ (bindL (envOfC qual scope L' f cdv).kindOf binds fun _ => none) → News g L' h₁ (cs ++ cells) →
      CellsAre (bindC (envOfC qual scope L' f cdv).kindOf binds fun _ => none) (cellsFrom (L' + 1) scope.names []) cs → Below A base (env :: outer) g → K.In g → Top p loose mean mg mb g → (∀ p ∈ cells, p.1 < L') →
      wpAny (model prog w) (A.deeper (envOfC qual scope L' f cdv)) (execs body (envOfC qual scope L' f cdv))
        (fun fl s' => LeaveK h₀ L m g (PuRX s cells g V) (match fl with | .ret v => v | _ => .none) s')
        (fun _ _ => False)
        { s with heap := h₁, toks := tk })
    (hco : scope.isCoroutine = false) (hgen : scope.isGenerator = false) (hk : scope.kind = .function) : codeAny (model prog w) A (.call (.ref f) args) R s := by
  obtain ⟨FG, BG, st, lv⟩ := groundX (R := PuRX s cells (ghost s cells) V) B F N hA hf hke
  have X := X₀.keeps F.keep
  have hcd' := codeRec_of X hcd
  have hlim := T.nolimit
  refine codeAny_call_function hroom (X _ _ ho) rfl hco hgen rfl hcd' (hbind _ _ _ _ ?_)
  refine wpAny_newFunctionEnv_cells hk (kindsX hkind _) fun env' he s' x => ?_
  subst he
  refine ⟨(hlim.keeps F.keep).keeps x.toInCall.keep, codeAny_func ?_⟩
  obtain ⟨h₁, tk, rfl, _⟩ := x.done
  have hk₁ := x.toInCall.keep
  obtain ⟨cs, NC, Y⟩ := Cl.news (h₀ := s.heap) (Nat.le_refl _) fun n c hm => ⟨x.cell n c (lookup_of_mem_nodup (cellsFrom_names scope.names 0 (s.heap.objs.size + 1) [] [] rfl ▸ hnd) hm), x.above n c hm⟩
  refine wpAny_mono (h (ghost s cells) s.heap.objs.size h₁ tk cs FG ⟨x.toInCall.ns, fun b o e => hk₁ b o (of_hideAll _ e), Nat.le_of_eq (hideAll_size _ _)⟩ (fun p hp => ?_) Y BG (X₀.keeps st) (T.keeps st) (fun p hp => Heap.lt_size (N p hp).1)) (fun fl s' hl => ?_) fun _ _ y => y.elim
  · rcases List.mem_append.mp hp with hp | hp
    · refine ⟨(NC p hp).1, (NC p hp).2.1, ?_⟩
      cases q : (ghost s cells).get? p.1 with
      | none => rfl
      | some o => have := of_hideAll _ q; rw [(NC p hp).2.2] at this; cases this
    · exact ⟨hk₁ _ _ (N p hp).1, Nat.ne_of_lt (Heap.lt_size (N p hp).1), hideAll_none _ (List.mem_map_of_mem hp)⟩
  have hg : ∀ b o, (ghost s cells).get? b = some o → s'.heap.get? b = some o := by
    obtain ⟨_, _, _, F', _, _⟩ := hl
    exact F'.keep
  obtain ⟨hv, ⟨h', tk', rfl⟩, hc⟩ := lv _ _ hl
  exact hR _ _ _ hv (grow_of N hg hc)

/-- a def that reads cells and changes nothing that stood -/
abbrev PureFnX (n : Nat) (prog : Program) (w : World) (K : Frag) (p : Program) (loose : List Str) (mean : ExcName → Option Value) (mg mb : Str → Option Value) (f : Addr) (vs : List Value) (cells : List (Addr × Obj)) (V : Heap → Heap → Value → Prop) : Prop :=
  ∀ (dp un : Nat) (gd : Option (List Code)) (cn : Str) (cs : Scope) (a : Addr) (ccd : Value) (cl : List (Str × Addr)) (outer : List Env) (A₀ : Around) (base h₀ : Heap) (L : Addr) (m : Str → Option Value) (s : Shared) (Q E : Value → Shared → Prop),
    Below A₀ base outer h₀ → Fr h₀ L s.heap m → News h₀ L s.heap cells → K.In h₀ → Top p loose mean mg mb h₀ → cs.kind = .function → dp + n < recursionLimit → un + 8 * n < cLine →
      (∀ v h' tk', V (ghost s cells) h' v → Grow s.heap h' → Q v { s with heap := h', toks := tk' }) →
      wpAny (model prog w) (ktrTop dp un gd cn cs L a ccd cl outer) (call (.ref f) vs) Q E s

/-- a new object: what is said of it -/
def NewX (cells : List (Addr × Obj)) (O : Obj → Prop) (g h' : Heap) (v : Value) : Prop := ∃ D o, v = .ref D ∧ O o ∧ g.get? D = none ∧ (∀ q ∈ cells, q.1 ≠ D) ∧ h'.get? D = some o

theorem use_newX {k : Nat} {f : Addr} {vs : List Value} {O : Obj → Prop} {Q : Value → Shared → Prop} {dp un : Nat} {gd : Option (List Code)} {cn : Str} {cs : Scope} {a : Addr} {ccd : Value} {cl : List (Str × Addr)} {outer : List Env} {news cells : List (Addr × Obj)}
    (P : PureFnX k prog w K p loose mean mg mb f vs cells (NewX cells O))
    (B : Below A₀ base outer h₀) (F : Fr h₀ L s.heap m) (N : News h₀ L s.heap news) (X : K.In h₀) (Tp : Top p loose mean mg mb h₀) (hck : cs.kind = .function) (hd : dp + k < recursionLimit) (hu : un + 8 * k < cLine) (hc : ∀ q ∈ cells, q ∈ news)
    (h : ∀ D o h' tk', O o → Fr h₀ L h' m → News h₀ L h' ((D, o) :: news) → (∀ q ∈ news, q.1 ≠ D) → Q (.ref D) { s with heap := h', toks := tk' }) :
    wpAny (model prog w) (ktrTop dp un gd cn cs L a ccd cl outer) (call (.ref f) vs) Q E s :=
  P dp un gd cn cs a ccd cl outer A₀ base h₀ L m s Q E B F (fun q hq => N q (hc q hq)) X Tp hck hd hu fun v h' tk' hv hg => by
    obtain ⟨D, o, rfl, hO, h1, h2, h3⟩ := hv
    have h4 := ghost_none h1 h2
    obtain ⟨oL, _, _, hL, _⟩ := F.ns
    refine h D o h' tk' hO (Fr.grow F hg) (fun q hq => ?_) (fun q hq e => ?_)
    · rcases List.mem_cons.mp hq with rfl | hq
      · refine ⟨h3, ?_, ?_⟩
        · rintro rfl; rw [hL] at h4; cases h4
        · cases q : h₀.get? D with
          | none => rfl
          | some o' => rw [F.keep _ _ q] at h4; cases h4
      · exact ⟨hg _ _ (N q hq).1, (N q hq).2⟩
    · have := (N q hq).1; rw [e, h4] at this; cases this
end

section
variable {prog : Program} {w : World} {A : Around} {h₀ : Heap} {L : Addr} {m : Str → Option Value} {env : Env} {ct elt : Expr} {x : Str} {scope : Scope} {cl : List (Str × Addr)} {s : Shared} {S : List (Addr × Obj) → Prop} {Fin : List Value → List (Addr × Obj) → Prop} {news : List (Addr × Obj)}
open LCg LCt
/-- a comprehension with a test over a list of ints, the ledger as it is -/
theorem filter_ints {vs : List Value} {ns : List Int} (b : Int → Bool) (g : Int → Int) (hi : IntsAre vs ns)
    (turn : ∀ k t I oI C oC D m₂ ys h tk (E' : Value → Shared → Prop), k ∈ ns → NsObj oC m₂ → m₂ x = some (.int k t) → Fr h₀ L h m → News h₀ L h ((I, oI) :: (C, oC) :: (D, lst ys) :: news) → Off3 I C D news → ((@Ne Nat I C) ∧ (@Ne Nat I D) ∧ (@Ne Nat C D)) →
      wpAny (model prog w) A (isTrue ct (compEnvC scope cl C env) (eval ct (compEnvC scope cl C env))) (fun ok s' => if ok = true then
        wpAny (model prog w) A (eval elt (compEnvC scope cl C env)) (CompEnd h₀ L m { s with heap := h, toks := tk } I oI C oC D (lst ys) S (fun y news' => b k = true ∧ news' = news ∧ ∃ t : Tok, y = .int (g k) t)) E' s'
        else CompEnd h₀ L m { s with heap := h, toks := tk } I oI C oC D (lst ys) S (fun _ news' => b k = false ∧ news' = news) Value.none s') E' { s with heap := h, toks := tk })
    (fin : ∀ ys, IntsAre ys ((ns.filter b).map g) → Fin ys news) : CompRestT prog w A h₀ L m env ct elt x scope cl s S (fun i v => vs.toArray[i]? = some v) Fin vs.toArray.size 0 [] news := by
  have key : ∀ (j i : Nat) (ys : List Value), i + j = ns.length → IntsAre ys (((ns.take i).filter b).map g) → CompRestT prog w A h₀ L m env ct elt x scope cl s S (fun i v => vs.toArray[i]? = some v) Fin j i ys news := by
    intro j
    induction j with
    | zero =>
      intro i ys hi' hy
      have e : i = ns.length := by omega
      subst e
      rw [List.take_length] at hy
      exact CompRestT.zero (fin ys hy)
    | succ j ih =>
      intro i ys hi' hy
      refine CompRestT.succ ?_
      intro v I oI C oC D m₂ h tk E' hv hC hx F N off ne
      obtain ⟨k, t, e, hk⟩ := IntsAre.at hi i v (by simpa using hv)
      rw [e] at hx
      refine wpAny_mono (turn k t I oI C oC D m₂ ys h tk E' (List.mem_of_getElem? hk) hC hx F N off ne) (fun ok s₂ hq => ?_) fun _ _ e => e
      cases ok with
      | true =>
        simp only [if_true] at hq ⊢
        refine wpAny_mono hq (fun y s₃ h3 => ?_) fun _ _ e => e
        obtain ⟨h', tk', nw, e, F', N', off', hS, hb, hn, t', hy'⟩ := h3
        rw [hn] at N' off' hS
        refine ⟨h', tk', news, e, F', N', off', hS, ?_⟩
        rw [hy']
        refine ih (i + 1) _ (by omega) ?_
        rw [List.take_add_one, hk]
        simpa [List.filter_append, hb] using IntsAre.append hy (.cons (g k) t' .nil)
      | false =>
        simp only [Bool.false_eq_true, if_false] at hq ⊢
        obtain ⟨h', tk', nw, e, F', N', off', hS, hb, hn⟩ := hq
        rw [hn] at N' off' hS
        refine ⟨h', tk', news, e, F', N', off', hS, ?_⟩
        refine ih (i + 1) _ (by omega) ?_
        rw [List.take_add_one, hk]
        simpa [List.filter_append, hb] using hy
  have := key ns.length 0 [] (by omega) (by simp only [List.take_zero, List.filter_nil, List.map_nil]; exact .nil)
  rw [List.size_toArray, hi.length]
  exact this
end
end Mine
end

section
open PySem.Calls
namespace Mine
open PyProof.Rows.LCg
/-- a list comprehension of two clauses -/
abbrev two (elt t1 i1 t2 i2 : Expr) (scope : Scope) (pos : Pos) : Expr := .ListComp elt [⟨t1, i1, [], 0⟩, ⟨t2, i2, [], 0⟩] scope pos
theorem turn_two0 (elt t1 i1 t2 i2 : Expr) (scope : Scope) (pos : Pos) (it acc : Value) (env : Env) :
    compTurn (two elt t1 i1 t2 i2 scope pos) 0 it acc env = (standAt i1.pos >>= fun _ => pyNext it >>= fun r => match r with
      | none => pure (.done .next)
      | some v => letOwnedTupleGo t1 it v >>= fun _ => assign t1 env v >>= fun _ =>
        eval i2 env >>= fun x => standAt i2.pos >>= fun _ => foldedSetIterable i2 env x >>= fun x => holding [x] (pyIter x) >>= fun it' => runOwn (.compStart (two elt t1 i1 t2 i2 scope pos) 1 it' acc env) env >>= fun _ =>
          again (.compLoop (two elt t1 i1 t2 i2 scope pos) 0 it acc env)) := by rfl
theorem turn_two1 (elt t1 i1 t2 i2 : Expr) (scope : Scope) (pos : Pos) (it acc : Value) (env : Env) :
    compTurn (two elt t1 i1 t2 i2 scope pos) 1 it acc env = (standAt i2.pos >>= fun _ => pyNext it >>= fun r => match r with
      | none => pure (.done .next)
      | some v => letOwnedTupleGo t2 it v >>= fun _ => assign t2 env v >>= fun _ =>
        (eval elt env >>= fun x => call (.builtin "list.append") [acc, x] >>= fun _ => pure ()) >>= fun _ =>
          again (.compLoop (two elt t1 i1 t2 i2 scope pos) 1 it acc env)) := by rfl
section
variable {prog : Program} {w : World} {A : Around} {E : Value → Shared → Prop} {R : Result → Shared → Prop} {s : Shared} {h₀ : Heap} {L : Addr} {m : Str → Option Value} {env : Env}
theorem start_two1 {elt t1 i1 t2 i2 : Expr} {scope : Scope} {pos : Pos} {it acc : Value} {env : Env}
    (h0 : codeAny (model prog w) A (.compLoop (two elt t1 i1 t2 i2 scope pos) 1 it acc env) R s)
    (h : wpAny (model prog w) A (pyIter it) (fun it' s' => codeAny (model prog w) A (.compLoop (two elt t1 i1 t2 i2 scope pos) 1 it' acc env) R s')
      (notedBy (model prog w) A env fun x s' => R (.error x) s') s) :
    codeAny (model prog w) A (.compStart (two elt t1 i1 t2 i2 scope pos) 1 it acc env) R s := by
  refine codeAny_of_tree ?_
  show wpAny _ _ ((compStart (two elt t1 i1 t2 i2 scope pos) 1 it acc env).onRaise (fun x => do noteFrame x env; standAt theWindowsPlace)) _ _ s
  refine wpAny_notedAt ?_
  unfold compStart
  show wpAny _ _ (ask >>= _) _ _ s
  refine wpAny_bind (wpAny_askSetting (wpAny_ite ?_))
  split
  · first
      | exact wpAny_bind (wpAny_pure (wpAny_pure (And.intro rfl h0)))
      | exact wpAny_pure (And.intro rfl h0)
  · first
      | exact wpAny_bind (wpAny_rule (wpAny_bind (wpAny_standAt (wpAny_bind (wpAny_mono h (fun it' s' h' => wpAny_pure (And.intro rfl h')) fun _ _ x => x)))))
      | (refine wpAny_bind (wpAny_rule ?_); show wpAny _ _ (standAt i2.pos >>= _) _ _ s; exact wpAny_bind (wpAny_standAt (wpAny_bind (wpAny_mono h (fun it' s' h' => wpAny_pure (And.intro rfl h')) fun _ _ x => x))))
theorem loop_two1 {elt t1 i1 t2 i2 : Expr} {scope : Scope} {pos : Pos} {it acc : Value} {env : Env} (I : Nat → Shared → Prop)
    (turn : ∀ n s, I n s → wpAny (model prog w) A (pyNext it) (fun r s₁ => match r with
      | none => R (.ok .next) s₁
      | some v => wpAny (model prog w) A (assign t2 env v) (fun _ s₂ => wpAny (model prog w) A (eval elt env) (fun x s₃ =>
          wpAny (model prog w) A (call (.builtin "list.append") [acc, x]) (fun _ s₄ => ∃ m, m < n ∧ I m s₄) (notedBy (model prog w) A env fun e s' => R (.error e) s') s₃)
          (notedBy (model prog w) A env fun e s' => R (.error e) s') s₂) (notedBy (model prog w) A env fun e s' => R (.error e) s') s₁) (notedBy (model prog w) A env fun e s' => R (.error e) s') s)
    (n : Nat) (h : I n s) (ht : ∀ v, letOwnedTupleGo t2 it v = pure () := by intro _; rfl) :
    codeAny (model prog w) A (.compLoop (two elt t1 i1 t2 i2 scope pos) 1 it acc env) R s := by
  refine codeAny_loop rfl I (fun n s hI => ?_) n h
  show wpAny _ _ ((compTurn (two elt t1 i1 t2 i2 scope pos) 1 it acc env).onRaise (fun x => do noteFrame x env; theTreesLotGoes x)) _ _ s
  refine wpAny_noted ?_
  rw [turn_two1]
  refine wpAny_bind (wpAny_standAt (wpAny_bind (wpAny_mono (turn n s hI) (fun r s₁ h₁ => ?_) fun _ _ h' => h')))
  cases r with
  | none => exact wpAny_pure h₁
  | some v =>
    refine wpAny_bind (wpAny_of_eq (ht v) ?_)
    exact wpAny_bind (wpAny_mono h₁ (fun _ s₂ h₂ => wpAny_bind (wpAny_bind (wpAny_mono h₂ (fun x s₃ h₃ => wpAny_bind (wpAny_mono h₃
      (fun _ s₄ h₄ => wpAny_pure (wpAny_pure ⟨rfl, h₄⟩)) fun _ _ h' => h')) fun _ _ h' => h'))) fun _ _ h' => h')
theorem loop_two0 {elt t1 i1 t2 i2 : Expr} {scope : Scope} {pos : Pos} {it acc : Value} {env : Env} (I : Nat → Shared → Prop)
    (turn : ∀ n s, I n s → wpAny (model prog w) A (pyNext it) (fun r s₁ => match r with
      | none => R (.ok .next) s₁
      | some v => wpAny (model prog w) A (assign t1 env v) (fun _ s₂ => wpAny (model prog w) A (eval i2 env) (fun x s₃ =>
          wpAny (model prog w) A (pyIter x) (fun it' s₄ => wpAny (model prog w) A (runOwn (.compStart (two elt t1 i1 t2 i2 scope pos) 1 it' acc env) env) (fun _ s₅ => ∃ m, m < n ∧ I m s₅) (notedBy (model prog w) A env fun e s' => R (.error e) s') s₄)
            (notedBy (model prog w) A env fun e s' => R (.error e) s') s₃)
          (notedBy (model prog w) A env fun e s' => R (.error e) s') s₂) (notedBy (model prog w) A env fun e s' => R (.error e) s') s₁) (notedBy (model prog w) A env fun e s' => R (.error e) s') s)
    (n : Nat) (h : I n s) (ht : ∀ v, letOwnedTupleGo t1 it v = pure () := by intro _; rfl) (hs : ∀ x, foldedSetIterable i2 env x = pure x := by intro _; rfl) :
    codeAny (model prog w) A (.compLoop (two elt t1 i1 t2 i2 scope pos) 0 it acc env) R s := by
  refine codeAny_loop rfl I (fun n s hI => ?_) n h
  show wpAny _ _ ((compTurn (two elt t1 i1 t2 i2 scope pos) 0 it acc env).onRaise (fun x => do noteFrame x env; theTreesLotGoes x)) _ _ s
  refine wpAny_noted ?_
  rw [turn_two0]
  refine wpAny_bind (wpAny_standAt (wpAny_bind (wpAny_mono (turn n s hI) (fun r s₁ h₁ => ?_) fun _ _ h' => h')))
  cases r with
  | none => exact wpAny_pure h₁
  | some v =>
    refine wpAny_bind (wpAny_of_eq (ht v) ?_)
    refine wpAny_bind (wpAny_mono h₁ (fun _ s₂ h₂ => wpAny_bind (wpAny_mono h₂ (fun x s₃ h₃ => ?_) fun _ _ h' => h')) fun _ _ h' => h')
    exact wpAny_bind (wpAny_standAt (wpAny_bind (wpAny_of_eq (hs x) (wpAny_bind (wpAny_holding (wpAny_mono h₃ (fun it' s₄ h₄ => wpAny_bind (wpAny_mono h₄ (fun _ s₅ h₅ => wpAny_pure ⟨rfl, h₅⟩) fun _ _ h' => h')) fun _ _ h' => h'))))))

/-- the inner clause: a range whose ints are put to the list -/
theorem inner_two {t1 i1 i2 : Expr} {x2 : Str} {p2 p3 : Pos} {scope : Scope} {cl : List (Str × Addr)} {pos : Pos} {r C D : Addr} {a b c : Int} {t u v : Tok} {n : Nat} {ys : List Value} {news : List (Addr × Obj)} {m₂ : Str → Option Value} {Q : Flow → Shared → Prop} {E₂ : Value → Shared → Prop}
    (hh : A.handled = none) (hr : IsRange s.heap r a b c t u v) (hsm : Builtin.Range.small a b c = true) (hn : Builtin.Range.rangeSize a b c = ((n : Nat) : Int))
    (F : Fr h₀ L s.heap m) (N : News h₀ L s.heap ((D, lst ys) :: news)) (hC : s.heap.Ns C m₂) (hC₀ : h₀.get? C = none) (hCL : C ≠ L) (hCD : C ≠ D) (offC : ∀ p ∈ news, p.1 ≠ C) (offD : ∀ p ∈ news, p.1 ≠ D) (hsz : ys.length + n ≤ sizeLine)
    (hx : scope.names.lookup x2 = some .local) (hkind : scope.kind = .function) (hnd : (x2 == ("__debug__" : Str)) = false)
    (h : ∀ h' tk zs m₃, IntsAre zs (rangeInts a c n) → Fr h₀ L h' m → News h₀ L h' ((D, lst (ys ++ zs)) :: news) → h'.Ns C m₃ → Q .next { s with heap := h', toks := tk }) :
    wpAny (model prog w) A (pyIter (.ref r)) (fun it s₄ => wpAny (model prog w) A (runOwn (.compStart (two (.Name x2 p3) t1 i1 (.Name x2 p2) i2 scope pos) 1 it (.ref D) (compEnvC scope cl C env)) (compEnvC scope cl C env)) Q E₂ s₄) E₂ s := by
  refine wpAny_pyIter_range hr hsm ?_
  have hD := N (D, lst ys) (.head _)
  have hL := F.ns.lt
  have hDlt := Heap.lt_size hD.1
  have hClt := hC.lt
  have lt : ∀ p ∈ news, p.1 < s.heap.objs.size := fun p hp => Heap.lt_size (N p (.tail _ hp)).1
  have W := Walks.range (prog := prog) (w := w) hh s.heap.objs.size a c n
  have hI₀ : h₀.get? s.heap.objs.size = none := next_is_new F
  refine wpAny_runOwn ?_
  have key : ∀ s₃ : Shared, s₃ = { s with heap := s.heap.push { cls := .type "range_iterator", data := .fields #[rawInt a, rawInt (Builtin.Range.rangeSize a b c), rawInt c] } } →
      codeAny (model prog w) (A.mark none) (.compLoop (two (.Name x2 p3) t1 i1 (.Name x2 p2) i2 scope pos) 1 (.ref s.heap.objs.size) (.ref D) (compEnvC scope cl C env)) (fun r s' => match r with | .ok f => Q f s' | .error e => cameBackBy (model prog w) A (compEnvC scope cl C env) E₂ e s') s₃ := by
    rintro _ rfl
    refine loop_two1 (fun k s' => ∃ h' tk j zs m₃, s' = { s with heap := h', toks := tk } ∧ j ≤ n ∧ k = n + 1 - j ∧ zs.length = j ∧ IntsAre zs (rangeInts a c j) ∧ IsRangeIter h' s.heap.objs.size (a + (j : Nat) * c) ((n : Int) - (j : Nat)) c ∧
      Fr h₀ L h' m ∧ h'.Ns C m₃ ∧ News h₀ L h' ((D, lst (ys ++ zs)) :: news)) ?_ (n + 1) ⟨_, _, 0, [], m₂, rfl, Nat.zero_le _, rfl, rfl, .nil, ?_, F.push _, hC.at' fun o e => Heap.get?_push_of_some _ e, ?_⟩
    · rintro k s' ⟨h', tk, j, zs, m₃, rfl, hj, rfl, hzl, hz, hit, F', hC', N'⟩
      have hIL : L ≠ s.heap.objs.size := Nat.ne_of_lt hL
      by_cases hlt : j < n
      · refine W.item j _ _ _ hlt hit fun v h₂ tk₂ hP hit₂ hk₂ => ?_
        obtain ⟨t', rfl⟩ := hP
        have F₂ := fr_but F' hk₂ hIL hI₀
        have N₂ := news_but N' hk₂ fun p hp => by
          rcases List.mem_cons.mp hp with rfl | hp
          · exact Nat.ne_of_lt hDlt
          · exact Nat.ne_of_lt (lt p hp)
        have hC₂ := hC'.at' (h' := h₂) fun o e => hk₂ _ o (by simpa using Nat.ne_of_lt hClt) e
        refine wpAny_assign_Name (wpAny_storeName_local (lookup_relabel_local hx) hC₂ (fun h₃ hn₃ hs₃ => ?_) (by simp [compEnvC, relabel, hkind]))
        have F₃ := F₂.change hs₃ hCL hC₀
        have N₃ : News h₀ L h₃ ((D, lst (ys ++ zs)) :: news) := fun p hp => ⟨hs₃.extBut _ _ (by
          rcases List.mem_cons.mp hp with rfl | hp
          · exact Ne.symm hCD
          · exact offC p hp) (N₂ p hp).1, (N₂ p hp).2⟩
        have hit₃ : IsRangeIter h₃ s.heap.objs.size (a + ((j + 1 : Nat) : Int) * c) ((n : Int) - ((j + 1 : Nat) : Int)) c := W.frame (j + 1) _ _ hit₂ fun b hb o e => hs₃.extBut b o (by rw [List.mem_singleton.mp hb]; exact Ne.symm (Nat.ne_of_lt hClt)) e
        refine wpAny_Name (wpAny_loadName_local (by simp [compEnvC, relabel, hkind]) (lookup_relabel_local hx) hn₃ (v := .int (a + (j : Nat) * c) t') (by simp) ?_) hnd
        refine append_at (hsz := by rw [List.size_toArray, List.length_append]; omega) (N₃ _ (.head _)).1 fun h₅ hs₅ hD₅ => ?_
        refine ⟨n + 1 - (j + 1), by omega, h₅, _, j + 1, zs ++ [.int (a + (j : Nat) * c) t'], _, rfl, hlt, rfl, by simp [hzl], ?_, ?_, F₃.change hs₅ hD.2.1 hD.2.2, hn₃.sameBut hs₅ hCD, ?_⟩
        · have e : rangeInts a c (j + 1) = rangeInts a c j ++ [a + (j : Nat) * c] := by simp [rangeInts, List.range_succ]
          rw [e]
          exact hz.append (.cons _ _ .nil)
        · exact W.frame (j + 1) _ _ hit₃ fun b hb o e => hs₅.extBut b o (by rw [List.mem_singleton.mp hb]; exact Ne.symm (Nat.ne_of_lt hDlt)) e
        · intro p hp
          rcases List.mem_cons.mp hp with rfl | hp
          · refine ⟨?_, hD.2⟩
            rw [← List.append_assoc]
            exact hD₅.trans (congrArg some (lst_snoc (ys ++ zs) _))
          · exact ⟨hs₅.extBut _ _ (offD p hp) (N₃ p (.tail _ hp)).1, (N₃ p (.tail _ hp)).2⟩
      · obtain rfl : j = n := Nat.le_antisymm hj (Nat.not_lt.mp hlt)
        refine W.done _ _ _ hit fun h₂ tk₂ hk₂ => ?_
        exact h h₂ tk₂ zs m₃ hz (fr_but F' hk₂ hIL hI₀) (news_but N' hk₂ fun p hp => by
          rcases List.mem_cons.mp hp with rfl | hp
          · exact Nat.ne_of_lt hDlt
          · exact Nat.ne_of_lt (lt p hp)) (hC'.at' fun o e => hk₂ _ o (by simpa using Nat.ne_of_lt hClt) e)
    · show IsRangeIter _ _ _ _ _
      rw [hn]; simpa using Heap.get?_push_size _ rfl
    · intro p hp
      rw [List.append_nil] at hp
      exact ⟨Heap.get?_push_of_some _ (N p hp).1, (N p hp).2⟩
  refine start_two1 (key _ rfl) (W.self 0 _ _ _ ?_ (key _ rfl))
  show IsRangeIter _ _ _ _ _
  rw [hn]; simpa using Heap.get?_push_size _ rfl

/-- what the inner clause's range is found to be -/
def RngEnd (h₀ : Heap) (L : Addr) (m : Str → Option Value) (s₁ : Shared) (I : Addr) (oI : Obj) (C : Addr) (oC : Obj) (D : Addr) (ys : List Value) (S : List (Addr × Obj) → Prop) (rest : Int → Int → Nat → List (Addr × Obj) → Prop) (xv : Value) (s₂ : Shared) : Prop :=
  ∃ r a b c t u v n h' tk news', xv = .ref r ∧ s₂ = { s₁ with heap := h', toks := tk } ∧ IsRange h' r a b c t u v ∧ Builtin.Range.small a b c = true ∧ Builtin.Range.rangeSize a b c = ((n : Nat) : Int) ∧ Fr h₀ L h' m ∧ News h₀ L h' ((I, oI) :: (C, oC) :: (D, lst ys) :: news') ∧
    Off3 I C D news' ∧ S news' ∧ ys.length + n ≤ sizeLine ∧ rest a c n news'
theorem RngEnd.intro {I C D r : Addr} {s₁ : Shared} {oI oC : Obj} {ys : List Value} {S : List (Addr × Obj) → Prop} {rest : Int → Int → Nat → List (Addr × Obj) → Prop} {h' : Heap} {tk n : Nat} {a b c : Int} {t u v : Tok} {all : List (Addr × Obj)}
    (F : Fr h₀ L h' m) (N : News h₀ L h' all) (hr : IsRange h' r a b c t u v) (hsm : Builtin.Range.small a b c = true) (hn : Builtin.Range.rangeSize a b c = ((n : Nat) : Int)) (news' : List (Addr × Obj)) (sub : ∀ p ∈ (I, oI) :: (C, oC) :: (D, lst ys) :: news', p ∈ all) (off : Off3 I C D news') (hS : S news') (hsz : ys.length + n ≤ sizeLine) (hR : rest a c n news') :
    RngEnd h₀ L m s₁ I oI C oC D ys S rest (.ref r) { s₁ with heap := h', toks := tk } := ⟨r, a, b, c, t, u, v, n, h', tk, news', rfl, rfl, hr, hsm, hn, F, fun p hp => N p (sub p hp), off, hS, hsz, hR⟩
def Rest2 (prog : Program) (w : World) (A : Around) (h₀ : Heap) (L : Addr) (m : Str → Option Value) (env : Env) (i2 : Expr) (x : Str) (scope : Scope) (cl : List (Str × Addr)) (s : Shared) (S : List (Addr × Obj) → Prop) (P : Nat → Value → Prop)
    (Fin : List Value → List (Addr × Obj) → Prop) : Nat → Nat → List Value → List (Addr × Obj) → Prop
  | 0, _, ys, news => Fin ys news
  | k + 1, i, ys, news => ∀ v I oI C oC D m₂ h tk (E' : Value → Shared → Prop), P i v → NsObj oC m₂ → m₂ x = some v → Fr h₀ L h m → News h₀ L h ((I, oI) :: (C, oC) :: (D, lst ys) :: news) → Off3 I C D news → ((@Ne Nat I C) ∧ (@Ne Nat I D) ∧ (@Ne Nat C D)) →
      wpAny (model prog w) A (eval i2 (compEnvC scope cl C env)) (RngEnd h₀ L m { s with heap := h, toks := tk } I oI C oC D ys S (fun a c n news' => ∀ zs, IntsAre zs (rangeInts a c n) → Rest2 prog w A h₀ L m env i2 x scope cl s S P Fin k (i + 1) (ys ++ zs) news')) E' { s with heap := h, toks := tk }
theorem Rest2.zero {i2 : Expr} {x : Str} {scope : Scope} {cl : List (Str × Addr)} {S : List (Addr × Obj) → Prop} {P : Nat → Value → Prop} {Fin : List Value → List (Addr × Obj) → Prop} {i : Nat} {ys : List Value} {news : List (Addr × Obj)} (h : Fin ys news) :
    Rest2 prog w A h₀ L m env i2 x scope cl s S P Fin 0 i ys news := h
theorem Rest2.succ {i2 : Expr} {x : Str} {scope : Scope} {cl : List (Str × Addr)} {S : List (Addr × Obj) → Prop} {P : Nat → Value → Prop} {Fin : List Value → List (Addr × Obj) → Prop} {k i : Nat} {ys : List Value} {news : List (Addr × Obj)}
    (h : ∀ v I oI C oC D m₂ h tk (E' : Value → Shared → Prop), P i v → NsObj oC m₂ → m₂ x = some v → Fr h₀ L h m → News h₀ L h ((I, oI) :: (C, oC) :: (D, lst ys) :: news) → Off3 I C D news → ((@Ne Nat I C) ∧ (@Ne Nat I D) ∧ (@Ne Nat C D)) →
      wpAny (model prog w) A (eval i2 (compEnvC scope cl C env)) (RngEnd h₀ L m { s with heap := h, toks := tk } I oI C oC D ys S (fun a c n news' => ∀ zs, IntsAre zs (rangeInts a c n) → Rest2 prog w A h₀ L m env i2 x scope cl s S P Fin k (i + 1) (ys ++ zs) news')) E' { s with heap := h, toks := tk }) :
    Rest2 prog w A h₀ L m env i2 x scope cl s S P Fin (k + 1) i ys news := h

theorem block_2 {i1 i2 : Expr} {x x2 : Str} {px p2 p3 : Pos} {scope : Scope} {cl : List (Str × Addr)} {pos : Pos} {s₂ : Shared} {I : Addr} {fp : List Addr} {n : Nat} {P : Nat → Value → Prop} {St : Nat → Heap → Prop} {S : List (Addr × Obj) → Prop} {news : List (Addr × Obj)}
    {Fin : List Value → List (Addr × Obj) → Prop} {RR : Value → Addr → Result → Shared → Prop} (hh : A.handled = none)
    (W : Walks prog w A I fp [I] n P St) (hIo : ∀ i h, St i h → ∃ o, h.get? I = some o)
    (hSt : ∀ i h h' o nw, St i h → h.get? I = some o → h'.get? I = some o → (∀ b o, h₀.get? b = some o → h'.get? b = some o) → News h₀ L h' nw → S nw → St i h')
    (hcell : ∀ y ∈ scope.names, y.2 ≠ .cell) (hkind : scope.kind = .function) (hx : scope.names.lookup x = some .local) (hx2 : scope.names.lookup x2 = some .local) (hnd : (x2 == ("__debug__" : Str)) = false) (hst : St 0 s₂.heap) (hfp : ∀ b ∈ fp, b < s₂.heap.objs.size)
    (F : Fr h₀ L s₂.heap m) (N : News h₀ L s₂.heap news) (hIL : L ≠ I) (hI₀ : h₀.get? I = none) (off : ∀ p ∈ news, p.1 ≠ I) (hS : S news)
    (R : Rest2 prog w A h₀ L m env i2 x scope cl s₂ S P Fin n 0 [] news)
    (hRR : ∀ D C h tk m' ys news', Fr h₀ L h m → News h₀ L h ((D, lst ys) :: news') → Off1 D news' → h.Ns C m' → h₀.get? C = none → h₀.get? D = none → C ≠ L → D ≠ L → C ≠ D → (∀ p ∈ news', p.1 ≠ C) → Fin ys news' → RR (.ref D) C (.ok .next) { s₂ with heap := h, toks := tk })
    (hs : ∀ env x, foldedSetIterable i2 env x = pure x := by intro _ _; rfl) :
    wpAny (model prog w) A (newList []) (fun acc s₃ => wpAny (model prog w) A (newFunctionEnv scope env.globals cl [] env.qual none .none (some env)) (fun cenv s₄ =>
      codeAny (model prog w) A (.compStart (two (.Name x2 p3) (.Name x px) i1 (.Name x2 p2) i2 scope pos) 0 (.ref I) acc { cenv with scope := relabel scope env }) (RR acc cenv.locals) s₄) E s₃) E s₂ := by
  refine wpAny_newObj_type (wpAny_newFunctionEnv hcell (by intro y hy; simp at hy) (fun h₁ hns₁ hsb₁ => ?_) hkind)
  dsimp only at hns₁ hsb₁ ⊢
  generalize hH2 : s₂.heap.push { cls := .type "list", dict := none, data := .seq ([] : List Value).toArray } = H2 at hns₁ hsb₁ ⊢
  have hC : H2.objs.size = s₂.heap.objs.size + 1 := by rw [← hH2, Heap.size_push]
  have hDC : s₂.heap.objs.size ≠ H2.objs.size := by rw [hC]; exact Nat.ne_of_lt (Nat.lt_succ_self _)
  have below : ∀ b, b < s₂.heap.objs.size → b ≠ H2.objs.size ∧ b ≠ s₂.heap.objs.size := fun b hb => ⟨by rw [hC]; exact Nat.ne_of_lt (Nat.lt_succ_of_lt hb), Nat.ne_of_lt hb⟩
  have hDf : s₂.heap.objs.size ∉ fp := fun hm => Nat.lt_irrefl _ (hfp _ hm)
  have hCf : H2.objs.size ∉ fp := fun hm => by have := hfp _ hm; rw [hC] at this; exact Nat.lt_irrefl _ (Nat.lt_of_succ_lt this)
  have hIf : I ∈ fp := W.sub I (List.mem_singleton.mpr rfl)
  have hIlt : I < s₂.heap.objs.size := hfp I hIf
  have old : ∀ b o, s₂.heap.get? b = some o → h₁.get? b = some o := fun b o e => hsb₁.extBut b o (below b (Heap.lt_size e)).1 (Heap.get?_push_of_some _ (hH2 ▸ Heap.get?_push_of_some _ e))
  have hacc : h₁.get? s₂.heap.objs.size = some (lst []) := hsb₁.extBut _ _ hDC (Heap.get?_push_of_some _ (hH2 ▸ Heap.get?_push_size _ rfl))
  have hst₁ : St 0 h₁ := W.frame _ _ _ hst fun b _ o e => old b o e
  have fresh : ∀ a, s₂.heap.objs.size ≤ a → s₂.heap.get? a = none := fun a ha => by
    cases e : s₂.heap.get? a with
    | none => rfl
    | some o' => exact absurd (Heap.lt_size e) (Nat.not_lt.mpr ha)
  have fresh₀ : ∀ a, s₂.heap.objs.size ≤ a → h₀.get? a = none := fun a ha => by
    cases e : h₀.get? a with
    | none => rfl
    | some o' => have := F.keep a o' e; rw [fresh a ha] at this; cases this
  have hD₀ : h₀.get? s₂.heap.objs.size = none := fresh₀ _ (Nat.le_refl _)
  have hC₀ : h₀.get? H2.objs.size = none := fresh₀ _ (by rw [hC]; exact Nat.le_succ _)
  have hLlt : L < s₂.heap.objs.size := F.ns.lt
  have hDL : s₂.heap.objs.size ≠ L := Ne.symm (below L hLlt).2
  have hCL : H2.objs.size ≠ L := Ne.symm (below L hLlt).1
  have hCI : I ≠ H2.objs.size := (below I hIlt).1
  have hDI : I ≠ s₂.heap.objs.size := (below I hIlt).2
  have off₀ : Off3 I H2.objs.size s₂.heap.objs.size news := Off3.of fun p hp => ⟨off p hp, (below _ (Heap.lt_size (N p hp).1)).1, (below _ (Heap.lt_size (N p hp).1)).2⟩
  have loop : ∀ s₃ : Shared, s₃ = { s₂ with heap := h₁, toks := s₂.toks + ([] : List (Str × Value)).length } →
      codeAny (model prog w) A (.compLoop (two (.Name x2 p3) (.Name x px) i1 (.Name x2 p2) i2 scope pos) 0 (.ref I) (.ref s₂.heap.objs.size) (compEnvC scope cl H2.objs.size env))
        (RR (.ref s₂.heap.objs.size) H2.objs.size) s₃ := by
    rintro s₃ rfl
    refine loop_two0
      (fun k s' => ∃ h' tk i ys m' news', s' = { s₂ with heap := h', toks := tk } ∧ i ≤ n ∧ k = n + 1 - i ∧ St i h' ∧ Fr h₀ L h' m ∧ h'.Ns H2.objs.size m' ∧ News h₀ L h' ((s₂.heap.objs.size, lst ys) :: news') ∧
        Off3 I H2.objs.size s₂.heap.objs.size news' ∧ S news' ∧ Rest2 prog w A h₀ L m env i2 x scope cl s₂ S P Fin (n - i) i ys news') ?_ (n + 1)
      ⟨h₁, _, 0, [], _, news, rfl, Nat.zero_le _, rfl, hst₁, F.keeps old, hns₁, fun p hp => ?_, off₀, hS, R⟩ (by intro _; rfl) (hs _)
    · rintro k s' ⟨h', tk, i, ys, m', news', rfl, hi, rfl, hst', F', hn', N', off', hS', R'⟩
      by_cases hlt : i < n
      · obtain ⟨j, hj⟩ : ∃ j, n - i = j + 1 := ⟨n - i - 1, by omega⟩
        rw [hj] at R'
        refine W.item i _ _ _ hlt hst' fun v h₂ tk₂ hPv hst₂ hk₂ => ?_
        refine wpAny_assign_Name (wpAny_storeName_local (lookup_relabel_local hx) (hn'.at' fun o e => hk₂ _ o (by simpa using Ne.symm hCI) e) (fun h₃ hn₃ hs₃ => ?_) (by simp [compEnvC, relabel, hkind]))
        have hst₃ : St (i + 1) h₃ := W.frame _ _ _ hst₂ fun b hb o e => hs₃.extBut b o (fun q => hCf (by have q' : b = H2.objs.size := q; rw [← q']; exact hb)) e
        obtain ⟨oI, heI⟩ := hIo _ _ hst₃
        obtain ⟨oC, heC, hoC⟩ := ns_obj hn₃
        have F₃ : Fr h₀ L h₃ m := (fr_but F' hk₂ hIL hI₀).change hs₃ hCL hC₀
        have off3 := off'.mem
        have N₂ : News h₀ L h₂ ((s₂.heap.objs.size, lst ys) :: news') := news_but N' hk₂ fun p hp => by
          rcases List.mem_cons.mp hp with rfl | hp
          · exact Ne.symm hDI
          · exact (off3 p hp).1
        have N₃ : News h₀ L h₃ ((I, oI) :: (H2.objs.size, oC) :: (s₂.heap.objs.size, lst ys) :: news') := fun p hp => by
          rcases List.mem_cons.mp hp with rfl | hp
          · exact ⟨heI, Ne.symm hIL, hI₀⟩
          · rcases List.mem_cons.mp hp with rfl | hp
            · exact ⟨heC, hCL, hC₀⟩
            · have z := N₂ p hp
              refine ⟨hs₃.extBut _ _ ?_ z.1, z.2⟩
              rcases List.mem_cons.mp hp with rfl | hp
              · exact hDC
              · exact (off3 p hp).2.1
        refine wpAny_mono (R' v I oI H2.objs.size oC s₂.heap.objs.size _ h₃ _ _ hPv hoC (by simp) F₃ N₃ off' ⟨hCI, hDI, Ne.symm hDC⟩) (fun xv s₄ h₄ => ?_) fun _ _ e => e
        obtain ⟨r, a, b, c, t, u, v', nn, h₄, tk₄, news₄, rfl, rfl, hr, hsm, hnn, F₄, N₄, off₄, hS₄, hsz₄, R₄⟩ := h₄
        have off4 := off₄.mem
        have zC := (N₄ (H2.objs.size, oC) (List.mem_cons_of_mem _ List.mem_cons_self)).1
        have ND : News h₀ L h₄ ((s₂.heap.objs.size, lst ys) :: (I, oI) :: news₄) := fun p hp => by
          rcases List.mem_cons.mp hp with rfl | hp
          · exact N₄ _ (.tail _ (.tail _ (.head _)))
          · rcases List.mem_cons.mp hp with rfl | hp
            · exact N₄ _ (.head _)
            · exact N₄ _ (.tail _ (.tail _ (.tail _ hp)))
        refine inner_two hh hr hsm hnn F₄ ND (hoC.ns zC) hC₀ hCL (Ne.symm hDC) (fun p hp => ?_) (fun p hp => ?_) hsz₄ hx2 hkind hnd fun h₅ tk₅ zs m₃ hz F₅ N₅ hC₅ => ?_
        · rcases List.mem_cons.mp hp with rfl | hp
          · exact hCI
          · exact (off4 p hp).2.1
        · rcases List.mem_cons.mp hp with rfl | hp
          · exact hDI
          · exact (off4 p hp).2.2
        · have zI := N₅ (I, oI) (.tail _ (.head _))
          have N₅' : News h₀ L h₅ news₄ := fun p hp => N₅ p (.tail _ (.tail _ hp))
          refine ⟨n + 1 - (i + 1), by omega, h₅, tk₅, i + 1, ys ++ zs, m₃, news₄, rfl, hlt, rfl, hSt _ _ _ _ _ hst₃ heI zI.1 F₅.keep N₅' hS₄, F₅, hC₅, fun p hp => ?_, off₄, hS₄, ?_⟩
          · rcases List.mem_cons.mp hp with rfl | hp
            · exact N₅ _ (.head _)
            · exact N₅' p hp
          · rw [show n - (i + 1) = j by omega]
            exact R₄ zs hz
      · obtain rfl : i = n := Nat.le_antisymm hi (Nat.not_lt.mp hlt)
        rw [Nat.sub_self] at R'
        refine W.done _ _ _ hst' fun h₂ tk₂ hk₂ => ?_
        have off3 := off'.mem
        exact hRR _ _ h₂ tk₂ _ ys news' (fr_but F' hk₂ hIL hI₀) (news_but N' hk₂ fun p hp => by
          rcases List.mem_cons.mp hp with rfl | hp
          · exact Ne.symm hDI
          · exact (off3 p hp).1) off'.one (hn'.at' fun o e => hk₂ _ o (by simpa using Ne.symm hCI) e) hC₀ hD₀ hCL hDL (Ne.symm hDC) (fun p hp => (off3 p hp).2.1) R'
    · rcases List.mem_cons.mp hp with rfl | hp
      · exact ⟨hacc, hDL, hD₀⟩
      · exact ⟨old _ _ (N p hp).1, (N p hp).2⟩
  exact codeAny_compStart_list (loop _ rfl) (W.self 0 _ _ _ hst₁ (loop _ rfl))

/-- the list that is gone over -/
def Src2 (prog : Program) (w : World) (A : Around) (h₀ : Heap) (L : Addr) (m : Str → Option Value) (env : Env) (i2 : Expr) (x : Str) (scope : Scope) (cl : List (Str × Addr)) (Fin : Shared → List Value → List (Addr × Obj) → Prop) (xv : Value) (s₁ : Shared) : Prop :=
  ∃ ax its news, xv = .ref ax ∧ A.handled = none ∧ Fr h₀ L s₁.heap m ∧ News h₀ L s₁.heap news ∧ SrcAt h₀ ax its news ∧
    ∀ s₂ : Shared, (∃ h, s₂ = { s₁ with heap := h }) → Rest2 prog w A h₀ L m env i2 x scope cl s₂ (SrcAt h₀ ax its) (fun i v => its[i]? = some v) (Fin s₂) its.size 0 [] news
theorem Src2.ledger {i2 : Expr} {x : Str} {scope : Scope} {cl : List (Str × Addr)} {Fin : Shared → List Value → List (Addr × Obj) → Prop} {ax : Addr} {its : Array Value} {k : Nat} {news : List (Addr × Obj)} {s₁ : Shared}
    (hh : A.handled = none) (F : Fr h₀ L s₁.heap m) (N : News h₀ L s₁.heap news) (hm : (ax, ({ cls := .type "list", data := .seq its k } : Obj)) ∈ news)
    (h : ∀ g, Rest2 prog w A h₀ L m env i2 x scope cl { s₁ with heap := g } (SrcAt h₀ ax its) (fun i v => its[i]? = some v) (Fin { s₁ with heap := g }) its.size 0 [] news) :
    Src2 prog w A h₀ L m env i2 x scope cl Fin (.ref ax) s₁ := ⟨ax, its, news, rfl, hh, F, N, .inr ⟨_, hm, rfl, _, rfl⟩, fun _ ⟨g, e⟩ => e ▸ h g⟩

theorem Assign_two {i1 i2 : Expr} {x x2 y : Str} {px p2 p3 py : Pos} {scope : Scope} {cl : List (Str × Addr)} {pos spos : Pos} {Q : Flow → Shared → Prop} (_F₀ : Fr h₀ L s.heap m) (hLe : env.locals = L)
    (hsw : swapsWith (two (.Name x2 p3) (.Name x px) i1 (.Name x2 p2) i2 scope pos) (some (.Name y py)) spos.line env = pure true)
    (hclos : closureFor scope env = pure cl) (hcell : ∀ z ∈ scope.names, z.2 ≠ .cell) (hkind : scope.kind = .function)
    (hnames : ∀ z ∈ scope.names, z.2 = .local → scope.names.lookup z.1 = some .local) (hx : scope.names.lookup x = some .local) (hx2 : scope.names.lookup x2 = some .local) (hnd : (x2 == ("__debug__" : Str)) = false)
    (hy : env.kindOf y = some .local) (hp : (env.scope.kind == .class || (env.scope.kind == .module && env.locals != env.globals)) = false)
    (h : wpAny (model prog w) A (eval i1 env) (Src2 prog w A h₀ L m env i2 x scope cl (fun s₂ => FinA h₀ L m s₂ y Q)) E s)
    (hs : ∀ x, foldedSetIterable i1 env x = pure x := by intro _; rfl) (hs2 : ∀ env x, foldedSetIterable i2 env x = pure x := by intro _ _; rfl) :
    wpAny (model prog w) A (exec (.Assign [.Name y py] (two (.Name x2 p3) (.Name x px) i1 (.Name x2 p2) i2 scope pos) spos) env) Q E s := by
  subst hLe
  rw [exec_Assign_Name_used _ _ _ _ hsw]
  refine wpAny_bind (wpAny_standAt (wpAny_bind ?_))
  show wpAny _ A (do let _ ← comprehension (two (.Name x2 p3) (.Name x px) i1 (.Name x2 p2) i2 scope pos) scope env _ (newList []) false (eval i1 env) (some (assign (.Name y py) env))) _ _ s
  refine wpAny_bind (wpAny_mono (wpAny_comprehension_free (use := some (assign (.Name y py) env)) (Q := fun _ s' => Q .next s') rfl hs hclos hkind hnames
    (wpAny_mono h (fun xv s₁ h₁ => ?_) fun _ _ e => e)) (fun _ s' hq => wpAny_pure (wpAny_pure hq)) fun _ _ e => e)
  obtain ⟨ax, its, news, rfl, hh, F, N, S, R⟩ := h₁
  have hl := S.list F.keep N
  have hlt : ax < s₁.heap.objs.size := by obtain ⟨_, e, _⟩ := hl; exact Heap.lt_size e
  refine wpAny_pyIter_list hl ?_
  have up : ∀ b o, s₁.heap.get? b = some o → (s₁.heap.push { cls := .type "list_iterator", data := .fields #[.ref ax, .int 0 0] }).get? b = some o := fun b o e => Heap.get?_push_of_some _ e
  refine block_2 hh (Walks.list hh s₁.heap.objs.size ax (Nat.ne_of_lt hlt) its) (fun i h st => by obtain ⟨o, e, _⟩ := st.1; exact ⟨o, e⟩) list_st hcell hkind hx hx2 hnd ⟨⟨_, Heap.get?_push_size _ rfl, rfl, rfl⟩, hl.push _⟩ (fun b hb => ?_)
    (F.keeps up) (N.grown up) (Nat.ne_of_lt F.ns.lt) (next_is_new F) (fun p hp => Nat.ne_of_lt (Heap.lt_size (N p hp).1)) S (R _ ⟨_, rfl⟩) ?_ hs2
  · show b < (s₁.heap.push _).objs.size
    rw [Heap.size_push]
    rcases List.mem_cons.mp hb with rfl | hb
    · exact Nat.lt_succ_self _
    · rw [List.mem_singleton.mp hb]; exact Nat.lt_succ_of_lt hlt
  · intro D C h' tk m' ys news' F' N' o1 hn hC₀ hD₀ hCL hDL hCD offC fin
    show wpAny _ A (assign (.Name y py) env (.ref D)) _ _ _
    refine wpAny_assign_Name (wpAny_storeName_local hy F'.ns (fun h₂ hn₂ hs₂ => ?_) hp)
    have hL₀ : h₀.get? env.locals = none := Heap.get?_none_of_le F'.above
    have F₂ : Fr h₀ env.locals h₂ (fun z => if z = y then some (.ref D) else m z) := ⟨hn₂, fun b o e => hs₂.extBut b o (fun q => by rw [q, hL₀] at e; cases e) (F'.keep b o e), F'.above⟩
    refine ⟨m', hn.sameBut hs₂ hCL, fun h'' hs'' => fin D h'' _ (F₂.change hs'' hCL hC₀) (fun p hp => ?_) o1⟩
    have z : h₂.get? p.1 = some p.2 := hs₂.extBut _ _ (N' p hp).2.1 (N' p hp).1
    refine ⟨hs''.extBut _ _ ?_ z, (N' p hp).2⟩
    rcases List.mem_cons.mp hp with rfl | hp
    · exact Ne.symm hCD
    · exact offC p hp
end
end Mine
end

section
open PySem.Calls
namespace Mine
section
variable {prog : Program} {w : World} {A A₀ : Around} {E : Value → Shared → Prop} {s : Shared} {K : Frag} {L : Addr} {h₀ base : Heap} {m mg mb : Str → Option Value} {p : Program} {loose : List Str} {mean : ExcName → Option Value}
  {news : List (Addr × Obj)}
theorem use_pureI {k : Nat} {f : Addr} {vs : List Value} {y : Int} {Q : Value → Shared → Prop} {dp un : Nat} {gd : Option (List Code)} {cn : Str} {cs : Scope} {a : Addr} {ccd : Value} {cl : List (Str × Addr)} {outer : List Env}
    (P : PureFn k prog w K p loose mean mg mb f vs (fun v => ∃ t', v = .int y t'))
    (B : Below A₀ base outer h₀) (F : Fr h₀ L s.heap m) (N : News h₀ L s.heap news) (X : K.In h₀) (Tp : Top p loose mean mg mb h₀) (hck : cs.kind = .function) (hd : dp + k < recursionLimit) (hu : un + 8 * k < cLine)
    (h : ∀ t' h' tk', Fr h₀ L h' m → News h₀ L h' news → Q (.int y t') { s with heap := h', toks := tk' }) :
    wpAny (model prog w) (ktrTop dp un gd cn cs L a ccd cl outer) (call (.ref f) vs) Q E s :=
  P dp un gd cn cs a ccd cl outer A₀ base h₀ L m s Q E B F X Tp hck hd hu fun v h' tk' hv hg => by
    obtain ⟨t', rfl⟩ := hv
    exact h t' h' tk' (Fr.grow F hg) (News.grow N hg)
end
/-- pieces of a pattern that a look for a closing bracket goes over: a sign that is neither that bracket nor a backslash, or a backslash with its sign -/
inductive Unit1 : List Nat → Prop
  | one {c : Nat} : c ≠ 41 → c ≠ 92 → Unit1 [c]
  | two (c : Nat) : Unit1 [92, c]
theorem close_ne : Str.ofString ")" = ofL [41] := lis_ofS _ _ (by decide +kernel)
theorem bne_same {c : Nat} {y : Str} (hy : y = ofL [c]) : ¬ (ofL [c] != y) = true := by subst hy; simp
theorem bne_other {c d : Nat} {y : Str} (hy : y = ofL [d]) (h : c ≠ d) : (ofL [c] != y) = true := by
  subst hy
  rw [bne_iff_ne]
  intro e
  exact h (by simpa using ofL_inj e)
theorem unit_spec (c : Nat) : Unit1 (trC specP c) := by
  unfold trC specP
  by_cases h : c ∈ specs
  · rw [if_pos h]; exact .two c
  · rw [if_neg h]
    refine .one ?_ ?_
    · rintro rfl; exact h (by decide)
    · rintro rfl; exact h (by decide)
theorem units_esc (p : List Nat) : ∃ us : List (List Nat), escL p = us.flatten ∧ ∀ u ∈ us, Unit1 u :=
  ⟨p.map (trC specP), by simp [escL, List.flatMap_def], fun u hu => by
    obtain ⟨c, _, rfl⟩ := List.mem_map.mp hu
    exact unit_spec c⟩
theorem units_lazy (p : List Nat) : ∃ us : List (List Nat), ([46, 42, 63] ++ escL p) = us.flatten ∧ ∀ u ∈ us, Unit1 u := by
  obtain ⟨us, e, h⟩ := units_esc p
  refine ⟨[46] :: [42] :: [63] :: us, by simp [e], fun u hu => ?_⟩
  simp only [List.mem_cons] at hu
  rcases hu with rfl | rfl | rfl | hu
  · exact .one (by decide) (by decide)
  · exact .one (by decide) (by decide)
  · exact .one (by decide) (by decide)
  · exact h u hu
end Mine
end

section
open PySem.Calls
namespace Mine
/-- a piece of a pattern -/
inductive Tk
  | lit (c : Nat) | lazy | far | grp (p : List Nat)
def Tk.text : Tk → List Nat
  | .lit c => trC specP c
  | .lazy => [46, 42, 63]
  | .far => [46, 42]
  | .grp p => [40, 63, 62] ++ ([46, 42, 63] ++ escL p) ++ [41]
def tkL (ts : List Tk) : List Nat := ts.flatMap Tk.text
def bLit (name : List Nat) (c : Nat) (k : Int) : Bool := decide ((name.drop k.toNat).take 1 = [c])
def litS (name : List Nat) (ws : List Int) (c : Nat) : List Int := (ws.filter (bLit name c)).map (· + 1)
def runL (name : List Nat) (p : List Nat) (ws : List Int) : List Int := p.foldl (litS name) ws
def upR (name : List Nat) (p : Int) : List Int := rangeInts p 1 (name.length + 1 - p).toNat
def downR (name : List Nat) (p : Int) : List Int := rangeInts name.length (-1) (name.length - (p - 1)).toNat
def stepT (name : List Nat) (ws : List Int) : Tk → List Int
  | .lit c => litS name ws c
  | .lazy => ws.flatMap (upR name)
  | .far => ws.flatMap (downR name)
  | .grp p => ws.flatMap fun q => (runL name p (upR name q)).take 1
def runT (name : List Nat) (ts : List Tk) (ws : List Int) : List Int := ts.foldl (stepT name) ws
def Tk.isLit : Tk → Bool | .lit _ => true | _ => false
def Good (name : List Nat) : List Tk → List Int → Prop
  | [], _ => True
  | t :: ts, ws => (t.isLit = true ∨ ws.length ≤ 1) ∧ Good name ts (stepT name ws t)
def InR (name : List Nat) (ws : List Int) : Prop := ∀ k ∈ ws, 0 ≤ k ∧ k ≤ name.length
theorem runT_inner (name p : List Nat) (q : Int) : runT name (.lazy :: p.map .lit) [q] = runL name p (upR name q) := by
  unfold runT runL
  rw [List.foldl_cons, List.foldl_map]
  simp [stepT]
theorem bLit_lt {name : List Nat} {c : Nat} {k : Int} (h0 : 0 ≤ k) (h : bLit name c k = true) : k < name.length := by
  unfold bLit at h
  have := congrArg List.length (of_decide_eq_true h)
  simp only [List.length_take, List.length_drop, List.length_cons, List.length_nil] at this
  omega
theorem inR_lit {name : List Nat} {ws : List Int} {c : Nat} (h : InR name ws) : InR name (litS name ws c) := by
  intro k hk
  obtain ⟨j, hj, rfl⟩ := List.mem_map.mp hk
  have hj' := List.mem_filter.mp hj
  have h1 := h j hj'.1
  have h2 := bLit_lt h1.1 hj'.2
  omega
theorem mem_upR {name : List Nat} {p k : Int} : k ∈ upR name p ↔ p ≤ k ∧ k ≤ name.length := by
  unfold upR rangeInts
  rw [List.mem_map]
  constructor
  · rintro ⟨i, hi, rfl⟩
    have := List.mem_range.mp hi
    omega
  · rintro ⟨h1, h2⟩
    exact ⟨(k - p).toNat, List.mem_range.mpr (by omega), by omega⟩
theorem mem_downR {name : List Nat} {p k : Int} : k ∈ downR name p ↔ p ≤ k ∧ k ≤ name.length := by
  unfold downR rangeInts
  rw [List.mem_map]
  constructor
  · rintro ⟨i, hi, rfl⟩
    have := List.mem_range.mp hi
    omega
  · rintro ⟨h1, h2⟩
    exact ⟨(name.length - k).toNat, List.mem_range.mpr (by omega), by omega⟩
theorem inR_runL {name : List Nat} : ∀ (p : List Nat) {ws : List Int}, InR name ws → InR name (runL name p ws)
  | [], _, h => h
  | c :: p, _, h => inR_runL p (inR_lit (c := c) h)
theorem inR_step {name : List Nat} {ws : List Int} (t : Tk) (h : InR name ws) : InR name (stepT name ws t) := by
  cases t with
  | lit c => exact inR_lit h
  | lazy =>
    intro k hk
    obtain ⟨p, hp, hk⟩ := List.mem_flatMap.mp hk
    have h1 := h p hp; have h2 := mem_upR.mp hk; omega
  | far =>
    intro k hk
    obtain ⟨p, hp, hk⟩ := List.mem_flatMap.mp hk
    have h1 := h p hp; have h2 := mem_downR.mp hk; omega
  | grp q =>
    intro k hk
    obtain ⟨p, hp, hk⟩ := List.mem_flatMap.mp hk
    have h1 := h p hp
    exact inR_runL q (ws := upR name p) (fun j hj => by have h2 := mem_upR.mp hj; omega) k (List.mem_of_mem_take hk)
theorem len_litS (name : List Nat) (ws : List Int) (c : Nat) : (litS name ws c).length ≤ ws.length := by
  unfold litS; rw [List.length_map]; exact List.length_filter_le _ _
theorem len_runL (name : List Nat) : ∀ (p : List Nat) (ws : List Int), (runL name p ws).length ≤ ws.length
  | [], _ => Nat.le_refl _
  | c :: p, ws => Nat.le_trans (len_runL name p (litS name ws c)) (len_litS name ws c)
theorem one_of {ws : List Int} (h : ws.length ≤ 1) : ws = [] ∨ ∃ p, ws = [p] := by
  match ws, h with
  | [], _ => exact .inl rfl
  | [p], _ => exact .inr ⟨p, rfl⟩
theorem len_upR (name : List Nat) (p : Int) : (upR name p).length = (name.length + 1 - p).toNat := by simp [upR, rangeInts]
theorem len_downR (name : List Nat) (p : Int) : (downR name p).length = (name.length - (p - 1)).toNat := by simp [downR, rangeInts]
theorem len_step {name : List Nat} {ws : List Int} {t : Tk} (hr : InR name ws) (h : ws.length ≤ name.length + 1) (hg : t.isLit = true ∨ ws.length ≤ 1) : (stepT name ws t).length ≤ name.length + 1 := by
  cases t with
  | lit c => exact Nat.le_trans (len_litS name ws c) h
  | lazy =>
    rcases one_of (hg.resolve_left (by decide)) with rfl | ⟨p, rfl⟩
    · simp [stepT]
    · have h1 := hr p (.head _)
      have := len_upR name p
      simp only [stepT, List.flatMap_cons, List.flatMap_nil, List.append_nil]; omega
  | far =>
    rcases one_of (hg.resolve_left (by decide)) with rfl | ⟨p, rfl⟩
    · simp [stepT]
    · have h1 := hr p (.head _)
      have := len_downR name p
      simp only [stepT, List.flatMap_cons, List.flatMap_nil, List.append_nil]; omega
  | grp q =>
    rcases one_of (hg.resolve_left (by simp [Tk.isLit])) with rfl | ⟨p, rfl⟩
    · simp [stepT]
    · simp only [stepT, List.flatMap_cons, List.flatMap_nil, List.append_nil, List.length_take]; omega
/-- the front sign of a pattern's text is no question mark -/
theorem lit_head (c : Nat) : ∃ a l, Tk.text (.lit c) = a :: l ∧ ((a = 92 ∧ c ∈ specs ∧ l = [c]) ∨ (a = c ∧ c ∉ specs ∧ l = [])) := by
  show ∃ a l, trC specP c = a :: l ∧ _
  unfold trC specP
  by_cases h : c ∈ specs
  · rw [if_pos h]; exact ⟨92, [c], rfl, .inl ⟨rfl, h, rfl⟩⟩
  · rw [if_neg h]; exact ⟨c, [], rfl, .inr ⟨rfl, h, rfl⟩⟩
theorem head_tk : ∀ (ts : List Tk) (r : List Nat), tkL ts ≠ 63 :: r
  | [], _ => by simp [tkL]
  | t :: ts, r => by
    unfold tkL
    rw [List.flatMap_cons]
    cases t with
    | lit c =>
      obtain ⟨a, l, e, h⟩ := lit_head c
      rw [e, List.cons_append]
      intro h2
      have : a = 63 := by simpa using congrArg List.head? h2
      rcases h with ⟨h, _⟩ | ⟨h, h3, _⟩
      · omega
      · exact h3 (by rw [← h, this]; decide)
    | lazy => simp [Tk.text]
    | far => simp [Tk.text]
    | grp p => simp [Tk.text]
theorem tkL_cons (t : Tk) (ts : List Tk) : tkL (t :: ts) = t.text ++ tkL ts := by simp [tkL]
/-- the state of the walk over a pattern -/
structure St5 where
  (oA : Obj) (av : Int) (ta : Tok) (D : Addr) (ys : List Value) (n : Nat)
theorem pat3 : lis (Str.ofString "(?>") = [40, 63, 62] := by decide +kernel
theorem patz : lis (Str.ofString ".*?") = [46, 42, 63] := by decide +kernel
theorem pat2 : lis (Str.ofString ".*") = [46, 42] := by decide +kernel
theorem patm : lis (Str.ofString "()[]{}?*+|^$.") = [40, 41, 91, 93, 123, 125, 63, 42, 43, 124, 94, 36, 46] := by decide +kernel
theorem eqs_no {l k : List Nat} {y : Str} (hy : lis y = k) (h : l ≠ k) : ¬ (ofL l == y) = true := by
  intro e
  rw [beq_iff_eq] at e
  exact h (by rw [← hy, ← e, lis_ofL])
theorem eqs_yes {l k : List Nat} {y : Str} (hy : lis y = k) (h : l = k) : (ofL l == y) = true := by
  rw [beq_iff_eq]; exact lis_inj (by rw [lis_ofL, hy, h])
theorem menu_sub : ∀ c ∈ lis (Str.ofString "()[]{}?*+|^$."), c ∈ specs := by rw [patm]; decide
theorem drop_more {text : Str} {k : Int} {l r : List Nat} (h0 : 0 ≤ k) (h : (lis text).drop k.toNat = l ++ r) (j : Int) (hj : j = l.length) : (lis text).drop (k + j).toNat = r := by
  rw [show (k + j).toNat = k.toNat + l.length from by omega, ← List.drop_drop, h, List.drop_left]
theorem take_at {text : Str} {k j : Int} {r l : List Nat} (h : (lis text).drop k.toNat = r) (n : Nat) (hj : j = k + n) (hl : r.take n = l) : ((lis text).drop k.toNat).take (j - k).toNat = l := by
  rw [h, show (j - k).toNat = n from by omega, hl]
theorem blit_yes {ln : List Nat} {c : Nat} {b : Bool} (hb : b = decide (ln = [c])) (h : (ofL ln == ofL [c]) = true) : b = true := by
  rw [hb, decide_eq_true_iff]; exact ofL_inj (beq_iff_eq.mp h)
theorem blit_no {ln : List Nat} {c : Nat} {b : Bool} (hb : b = decide (ln = [c])) (h : (ofL ln == ofL [c]) = false) : b = false := by
  rw [hb, decide_eq_false_iff_not]; rintro rfl; simp at h
theorem one_some {c : Nat} (h : (ofL [c] != Str.ofString "") = false) : False := by
  have : ofL [c] = Str.ofString "" := by simpa using h
  have := congrArg lis this
  rw [lis_ofL, lis_none] at this; cases this
theorem off1_of {D : Addr} : ∀ {news : List (Addr × Obj)}, (∀ q ∈ news, q.1 ≠ D) → LCg.Off1 D news
  | [], _ => trivial
  | _ :: _, h => ⟨h _ (.head _), off1_of fun q hq => h q (.tail _ hq)⟩
structure La5 where
  (path : Str) (tp : Tok) (oN : Obj) (name : Str) (tn : Tok)
end Mine
end

section
open PySem.Calls
namespace Mine
/-- the law's own places -/
def placeS (name : List Nat) (ws : List Int) (c : Nat) : List Int := if c = 42 then (match ws with | [] => [] | q :: _ => upR name q) else litS name ws c
def placesF (name path : List Nat) (ws : List Int) : List Int := path.foldl (placeS name) ws
def Asc (ws : List Int) : Prop := ws.Pairwise (· < ·)
theorem asc_upR (name : List Nat) (q : Int) : Asc (upR name q) := by
  unfold Asc upR rangeInts
  rw [List.pairwise_map]
  exact List.pairwise_lt_range.imp fun {a b} h => by omega
theorem asc_lit {name : List Nat} {ws : List Int} {c : Nat} (h : Asc ws) : Asc (litS name ws c) := by
  unfold Asc litS
  rw [List.pairwise_map]
  exact (h.filter _).imp fun {a b} h => by omega
theorem asc_place {name : List Nat} {ws : List Int} {c : Nat} (h : Asc ws) : Asc (placeS name ws c) := by
  unfold placeS
  split
  · split
    · exact .nil
    · exact asc_upR _ _
  · exact asc_lit h
theorem inR_place {name : List Nat} {ws : List Int} {c : Nat} (h : InR name ws) : InR name (placeS name ws c) := by
  unfold placeS
  split
  · split
    · exact fun k hk => nomatch hk
    · rename_i q r
      intro k hk
      have h1 := h q (.head _); have h2 := mem_upR.mp hk; omega
  · exact inR_lit h
theorem len_place {name : List Nat} {ws : List Int} {c : Nat} (h : InR name ws) (hl : ws.length ≤ name.length + 1) : (placeS name ws c).length ≤ name.length + 1 := by
  unfold placeS
  split
  · split
    · simp
    · rename_i q r
      rw [len_upR]
      have h1 := h q (.head _); omega
  · exact Nat.le_trans (len_litS _ _ _) hl
theorem places_lits {name : List Nat} : ∀ (p : List Nat) (ws : List Int), 42 ∉ p → placesF name p ws = runL name p ws
  | [], _, _ => rfl
  | c :: p, ws, h => by
    have hc : c ≠ 42 := fun e => h (by simp [e])
    have ih := places_lits (name := name) p (litS name ws c) (fun e => h (by simp [e]))
    unfold placesF runL at ih ⊢
    rw [List.foldl_cons, List.foldl_cons, ← ih]
    congr 1
    unfold placeS
    rw [if_neg hc]
theorem places_append (name a b : List Nat) (ws : List Int) : placesF name (a ++ b) ws = placesF name b (placesF name a ws) := by unfold placesF; rw [List.foldl_append]
theorem runT_append (name : List Nat) (a b : List Tk) (ws : List Int) : runT name (a ++ b) ws = runT name b (runT name a ws) := by unfold runT; rw [List.foldl_append]
theorem runT_lits (name p : List Nat) (ws : List Int) : runT name (p.map .lit) ws = runL name p ws := by unfold runT runL; rw [List.foldl_map]; rfl
theorem runL_nil (name : List Nat) : ∀ p, runL name p [] = []
  | [] => rfl
  | c :: p => runL_nil name p
theorem mids_same {name : List Nat} : ∀ (ms : List (List Nat)) (B : List Int), (∀ p ∈ ms, 42 ∉ p) → runT name (ms.map .grp) (B.take 1) = (placesF name (starL ms) B).take 1
  | [], B, _ => rfl
  | p :: ms, B, h => by
    have hp := h p (.head _)
    have ih := mids_same (name := name) ms (placesF name (42 :: p) B) (fun q hq => h q (.tail _ hq))
    have e : starL (p :: ms) = (42 :: p) ++ starL ms := by simp [starL]
    rw [e, places_append, ← ih]
    unfold runT
    rw [List.map_cons, List.foldl_cons]
    congr 1
    have e2 : placesF name (42 :: p) B = runL name p (placeS name B 42) := by
      rw [← places_lits p _ hp]; rfl
    rw [e2]
    cases B with
    | nil => simp [stepT, placeS, runL_nil]
    | cons q r => simp [stepT, placeS]
theorem downR_rev (name : List Nat) (q : Int) : downR name q = (upR name q).reverse := by
  have hn : (name.length - (q - 1) : Int).toNat = (name.length + 1 - q : Int).toNat := by congr 1; omega
  apply List.ext_getElem?
  intro i
  unfold downR upR rangeInts
  rw [hn]
  generalize hm : (name.length + 1 - q : Int).toNat = m
  by_cases hi : i < m
  · rw [List.getElem?_reverse (by simpa using hi)]
    rw [List.getElem?_map, List.getElem?_map, List.getElem?_range hi]
    simp only [List.length_map, List.length_range]
    rw [List.getElem?_range (by omega)]
    simp only [Option.map_some, Option.some.injEq]
    omega
  · rw [List.getElem?_eq_none (by simpa using Nat.not_lt.mp hi), List.getElem?_eq_none (by simpa using Nat.not_lt.mp hi)]
theorem litS_rev (name : List Nat) (ws : List Int) (c : Nat) : litS name ws.reverse c = (litS name ws c).reverse := by
  unfold litS; rw [List.filter_reverse, List.map_reverse]
theorem runL_rev (name : List Nat) : ∀ (p : List Nat) (ws : List Int), runL name p ws.reverse = (runL name p ws).reverse
  | [], _ => rfl
  | c :: p, ws => by
    show runL name p (litS name ws.reverse c) = _
    rw [litS_rev, runL_rev name p]; rfl
/-- the pieces of a pattern -/
def toks5 (p0 : List Nat) (mids : List (List Nat)) (last : List Nat) : List Tk := p0.map .lit ++ (mids.map .grp ++ .far :: last.map .lit)
theorem take1 {ws : List Int} (h : ws.length ≤ 1) : ws.take 1 = ws := List.take_of_length_le h
theorem toks_run {name p0 last : List Nat} {mids : List (List Nat)} (h0 : 42 ∉ p0) (hm : ∀ p ∈ mids, 42 ∉ p) (hl : 42 ∉ last) :
    runT name (toks5 p0 mids last) [0] = (placesF name (p0 ++ starL mids ++ 42 :: last) [0]).reverse := by
  unfold toks5
  rw [runT_append, runT_append, runT_lits, places_append, places_append, places_lits p0 _ h0]
  have h1 : (runL name p0 [0]).length ≤ 1 := len_runL name p0 [0]
  have h2 := mids_same (name := name) mids (runL name p0 [0]) hm
  rw [take1 h1] at h2
  rw [h2]
  generalize placesF name (starL mids) (runL name p0 [0]) = B
  have e2 : placesF name (42 :: last) B = runL name last (placeS name B 42) := by
    rw [← places_lits last _ hl]; rfl
  rw [e2]
  show runT name (last.map .lit) (stepT name (B.take 1) .far) = _
  rw [runT_lits, ← runL_rev]
  cases B with
  | nil => simp [stepT, placeS]
  | cons q r => simp [stepT, placeS, downR_rev]
theorem good_lits (name : List Nat) : ∀ (p : List Nat) (ts : List Tk) (ws : List Int), Good name ts (runL name p ws) → Good name (p.map .lit ++ ts) ws
  | [], _, _, h => h
  | c :: p, ts, ws, h => ⟨.inl rfl, good_lits name p ts (litS name ws c) h⟩
theorem good_mids (name : List Nat) : ∀ (ms : List (List Nat)) (ts : List Tk) (ws : List Int), ws.length ≤ 1 → (∀ ws, ws.length ≤ 1 → Good name ts ws) → Good name (ms.map .grp ++ ts) ws
  | [], _, _, h, g => g _ h
  | p :: ms, ts, ws, h, g => ⟨.inr h, good_mids name ms ts _ (by
      rcases one_of h with rfl | ⟨q, rfl⟩
      · simp [stepT]
      · simp only [stepT, List.flatMap_cons, List.flatMap_nil, List.append_nil, List.length_take]; omega) g⟩
theorem toks_good (name p0 last : List Nat) (mids : List (List Nat)) (q : Int) : Good name (toks5 p0 mids last) [q] := by
  refine good_lits name p0 _ _ (good_mids name mids _ _ (len_runL name p0 [q]) fun ws h => ⟨.inr h, ?_⟩)
  have := good_lits name last [] (stepT name ws .far) trivial
  rwa [List.append_nil] at this
theorem inner_good (name p : List Nat) (q : Int) : Good name (.lazy :: p.map .lit) [q] := by
  refine ⟨.inr (by simp), ?_⟩
  have := good_lits name p [] (stepT name [q] .lazy) trivial
  rwa [List.append_nil] at this
theorem tk_lits (p : List Nat) : tkL (p.map .lit) = escL p := by
  unfold tkL escL
  rw [List.flatMap_map]; rfl
theorem tk_inner (p : List Nat) : tkL (.lazy :: p.map .lit) = [46, 42, 63] ++ escL p := by
  rw [tkL_cons, tk_lits]; rfl
theorem tk_mids : ∀ ms : List (List Nat), tkL (ms.map .grp) = midL ms
  | [] => rfl
  | p :: ms => by
    rw [List.map_cons, tkL_cons, tk_mids ms]
    simp [midL, Tk.text, wrL]
theorem tk_append (a b : List Tk) : tkL (a ++ b) = tkL a ++ tkL b := by simp [tkL]
theorem toks_text (p0 last : List Nat) (mids : List (List Nat)) : tkL (toks5 p0 mids last) = escL p0 ++ (midL mids ++ (46 :: 42 :: escL last)) := by
  unfold toks5
  rw [tk_append, tk_append, tk_lits, tk_mids, tkL_cons, tk_lits]; rfl
theorem asc_places (name : List Nat) : ∀ (path : List Nat) (ws : List Int), Asc ws → Asc (placesF name path ws)
  | [], _, h => h
  | c :: p, ws, h => asc_places name p (placeS name ws c) (asc_place h)
/-- what is sorted is the places -/
theorem sorted_is {ns P : List Int} (hp : ns.Perm P.reverse) (hs : ns.Pairwise (· ≤ ·)) (hP : Asc P) : ns = P :=
  List.Perm.eq_of_pairwise (le := fun a b : Int => a ≤ b) (fun a b _ _ h1 h2 => Int.le_antisymm h1 h2) hs (hP.imp fun h => Int.le_of_lt h) (hp.trans (List.reverse_perm P))
theorem first_last (P : List Int) : P.reverse.take 1 = P.drop (P.length - 1) := by
  rw [List.take_reverse]
  match h : P.drop (P.length - 1) with
  | [] => rfl
  | [x] => rfl
  | x :: y :: r =>
    have := congrArg List.length h
    rw [List.length_drop, List.length_cons, List.length_cons] at this
    omega
theorem slice_ns (x : Str) {j : Int} (hj : 0 ≤ j) : lis (Txt.slice x none (some j)) = (lis x).take j.toNat := by
  have e : Txt.slice x none (some j) = Txt.slice x (some 0) (some j) := by
    show StrLaws.sliceText x none (some j) = StrLaws.sliceText x (some 0) (some j)
    unfold StrLaws.sliceText
    have h0 : max 0 (min 0 (x.length : Int)) = 0 := by omega
    rw [show Builtin.Str.strSliceIndices none (some j) 1 x.length = Builtin.Str.strSliceIndices (some 0) (some j) 1 x.length from by simp [Builtin.Str.strSliceIndices, h0]]
  rw [e, slice_of x (Int.le_refl 0) hj, lis_ofL]
  simp
theorem slice_sn (x : Str) {i : Int} (hi : 0 ≤ i) (hl : i ≤ x.length) : lis (Txt.slice x (some i) none) = (lis x).drop i.toNat := by
  have e : Txt.slice x (some i) none = Txt.slice x (some i) (some (x.length : Int)) := by
    show StrLaws.sliceText x (some i) none = StrLaws.sliceText x (some i) (some (x.length : Int))
    unfold StrLaws.sliceText
    have h1 : ¬ ((x.length : Int) < 0) := by omega
    have h2 : max 0 (x.length : Int) = (x.length : Int) := by omega
    rw [show Builtin.Str.strSliceIndices (some i) none 1 x.length = Builtin.Str.strSliceIndices (some i) (some (x.length : Int)) 1 x.length from by simp [Builtin.Str.strSliceIndices, h1, h2]]
  rw [e, slice_of x hi hl, lis_ofL]
  rw [List.take_of_length_le]
  rw [List.length_drop, ← length_lis]; omega
theorem in_a7 (x : Int) : 0 ≤ x.fmod 7 ∧ x.fmod 7 < (Str.ofString "abA./**").length := by
  rw [show (Str.ofString "abA./**").length = 7 from by decide +kernel]; exact fmod_lt (by decide)
theorem in_a6 (x : Int) : 0 ≤ x.fmod 6 ∧ x.fmod 6 < (Str.ofString "abA./\n").length := by
  rw [show (Str.ofString "abA./\n").length = 6 from by decide +kernel]; exact fmod_lt (by decide)
theorem put_star {path : Str} (h : path.length ≤ 63) :
    42 ∈ lis (Txt.slice path none (some ((path.length : Int).fdiv 2)) ++ Str.ofString "*" ++ Txt.slice path (some ((path.length : Int).fdiv 2)) none) ∧ (Txt.slice path none (some ((path.length : Int).fdiv 2)) ++ Str.ofString "*" ++ Txt.slice path (some ((path.length : Int).fdiv 2)) none).length ≤ 64 := by
  have e : (path.length : Int).fdiv 2 = ((path.length / 2 : Nat) : Int) := by
    rw [Int.fdiv_eq_ediv_of_nonneg _ (by decide)]; omega
  rw [e]
  constructor
  · rw [lis_append, lis_append, lis_star]; simp
  · rw [length_lis, lis_append, lis_append, lis_star, slice_ns path (by omega), slice_sn path (by omega) (by omega)]
    have := length_lis path
    simp only [List.length_append, List.length_take, List.length_drop, List.length_cons, List.length_nil]
    omega
theorem inR_places {name : List Nat} : ∀ (path : List Nat) (ws : List Int), InR name ws → InR name (placesF name path ws)
  | [], _, h => h
  | c :: p, ws, h => inR_places p (placeS name ws c) (inR_place h)
theorem len_places {name : List Nat} : ∀ (path : List Nat) (ws : List Int), InR name ws → ws.length ≤ name.length + 1 → (placesF name path ws).length ≤ name.length + 1
  | [], _, _, h => h
  | c :: p, ws, h, hl => len_places p (placeS name ws c) (inR_place h) (len_place h hl)
section
variable {prog : Program} {w : World} {A : Around} {E : Value → Shared → Prop} {s : Shared} {a b : Addr} {xs : List Value} {Q : Value → Shared → Prop}
theorem ne5_none (ha : s.heap.IsList a xs.toArray) (hb : s.heap.IsList b #[]) (hu : A.units < cLine) (hx : xs = []) (h : Q (.bool false) s) : wpAny (model prog w) A (compareOp .NotEq (.ref a) (.ref b)) Q E s := by
  subst hx
  exact PySem.SeqAt.RcNeAt.lists (e := fun _ => true) ha hb rfl hu (fun j h1 _ => absurd h1 (by simp)) prog w E Q (by simpa using h)
theorem ne5_some (ha : s.heap.IsList a xs.toArray) (hb : s.heap.IsList b #[]) (hu : A.units < cLine) (hx : xs ≠ []) (h : Q (.bool true) s) : wpAny (model prog w) A (compareOp .NotEq (.ref a) (.ref b)) Q E s :=
  PySem.SeqAt.RcNeAt.lists_lengths ha hb (by cases xs with | nil => exact absurd rfl hx | cons _ _ => simp) hu prog w E Q h
end
theorem rangeKs_is (a : Int) (n : Nat) : rangeKs a n = rangeInts a 1 n := by simp [rangeKs, rangeInts]
theorem min_first {q : Int} {r : List Int} (h : Asc (q :: r)) {M : Int} (h1 : M = q ∨ M ∈ r) (h2 : M ≤ q) : M = q := by
  rcases h1 with h1 | h1
  · exact h1
  · have := List.rel_of_pairwise_cons h h1
    omega
section
variable {prog : Program} {w : World} {A : Around} {E : Value → Shared → Prop} {s : Shared} {a b : Addr} {xs ys : List Value} {ns ms : List Int} {Q : Value → Shared → Prop}
theorem ne5_same (ha : s.heap.IsList a xs.toArray) (hb : s.heap.IsList b ys.toArray) (hi : IntsAre xs ns) (hj : IntsAre ys ms) (e : ns = ms) (hu : A.units + 64 < cLine) (h : Q (.bool false) s) : wpAny (model prog w) A (compareOp .NotEq (.ref a) (.ref b)) Q E s :=
  ke_ne_ints ha hb hi hj hu (by rw [e]; simpa using h)
theorem eq5_same (ha : s.heap.IsList a xs.toArray) (hb : s.heap.IsList b ys.toArray) (hi : IntsAre xs ns) (hj : IntsAre ys ms) (e : ns = ms) (hu : A.units + 64 < cLine) (h : Q (.bool true) s) : wpAny (model prog w) A (compareOp .Eq (.ref a) (.ref b)) Q E s :=
  ke_eq_ints ha hb hi hj hu (by rw [e]; simpa using h)
end
theorem fr_at {h₀ h : Heap} {L : Addr} {m : Str → Option Value} {y : Str} {v : Value} (e : m y = some v) (F : Fr h₀ L h m) : Fr h₀ L h (fun z => if z = y then some v else m z) := by
  have : (fun z => if z = y then some v else m z) = m := by
    funext z
    by_cases hz : z = y
    · rw [if_pos hz, hz, e]
    · rw [if_neg hz]
  rw [this]; exact F
@[irreducible] def Held (P : Prop) : Prop := P
theorem held {P : Prop} (h : P) : Held P := by unfold Held; exact h
theorem of_held {P : Prop} (h : Held P) : P := by unfold Held at h; exact h
theorem news_sub {h₀ h : Heap} {L : Addr} {a b : List (Addr × Obj)} (N : News h₀ L h a) (s : ∀ p ∈ b, p ∈ a) : News h₀ L h b := fun p hp => N p (s p hp)
end Mine
end

section
open PySem.Calls
namespace Mine
section
variable {prog : Program} {w : World} {A : Around} {E : Value → Shared → Prop} {s : Shared} {h₀ : Heap} {env : Env} {target : Expr} {body : List Stmt} {Q : Flow → Shared → Prop}
/-- going over a text, any target -/
theorem iter_strTurns {x : Str} {t : Tok} {m₀ : Str → Option Value} {news : List (Addr × Obj)} (hgo : ∀ it v, letOwnedTupleGo target it v = pure ()) (hh : A.handled = none) (F : Fr h₀ env.locals s.heap m₀) (N : News h₀ env.locals s.heap news)
    (rest₀ : ∀ (I : Addr) (T : String), (∀ p ∈ news, p.1 < I) → ItemsRest prog w A E h₀ env target body Q s [(I, T)] [] (x.cps.toList.map fun c => Itm.tok fun u => .str ⟨#[c]⟩ u) m₀ news) :
    wpAny (model prog w) A (pyIter (.str x t)) (fun it s₂ => TurnsAt prog w A h₀ env target body Q E it s₂) E s := by
  have core : ∀ (T : String) (o : Obj), (Walks prog w A s.heap.objs.size [s.heap.objs.size] [s.heap.objs.size] x.cps.size (SignAt x) (fun i h => h.IsStrIter s.heap.objs.size T x t i)) → (s.heap.push o).IsStrIter s.heap.objs.size T x t 0 →
      TurnsAt prog w A h₀ env target body Q E (.ref s.heap.objs.size) { s with heap := s.heap.push o } := by
    intro T o W hst
    refine ktu_core (tk0 := s.toks) (keep := []) (ws := [(s.heap.objs.size, T)]) (KTurns.ofWalks W fun i v s Q E st q => wpAny_of_eq (hgo _ _) q) (by simp) (fun i v h hp => ?_) (fun i h st => ?_) (fun b hb => ?_) (fun b hb => by simpa using hb) (fun b hb => .inl (by simpa using hb)) ?_ (fun p hp hI => ?_) hst (F.push _) (fun p hp => ⟨Heap.get?_push_of_some _ (N p hp).1, (N p hp).2⟩) trivial (rest₀ _ T fun p hp => Heap.lt_size (N p hp).1)
    · obtain ⟨c, u, hc, rfl⟩ := hp
      exact ⟨Itm.tok fun u => .str ⟨#[c]⟩ u, by simp [hc], u, rfl⟩
    · obtain ⟨it, hit, hic, _⟩ := st
      exact ⟨[(s.heap.objs.size, it)], ⟨⟨rfl, hic⟩, trivial⟩, fun p hp => by rw [List.mem_singleton.mp hp]; exact hit⟩
    · have hb' : b = s.heap.objs.size := by simpa using hb
      rw [hb']
      exact ⟨List.mem_cons_self .., next_is_new F⟩
    · intro hI
      exact absurd F.ns.lt ((List.mem_singleton.mp hI) ▸ Nat.lt_irrefl _)
    · exact absurd (Heap.lt_size (N p hp).1) ((List.mem_singleton.mp hI) ▸ Nat.lt_irrefl _)
  cases ha : x.cps.all (· < 128)
  · exact wpAny_pyIter_wide ha (core _ _ (Walks.strWide hh _ x t) ⟨_, Heap.get?_push_size _ rfl, rfl, rfl⟩)
  · exact wpAny_pyIter_ascii ha (core _ _ (Walks.strAscii hh _ x t) ⟨_, Heap.get?_push_size _ rfl, rfl, rfl⟩)

theorem allObj_mono' : ∀ {ws : List (Addr × String)} {k k' : List (Addr × Obj) → Prop}, AllObj ws k → (∀ its, k its → k' its) → AllObj ws k'
  | [], _, _, h, f => f [] h
  | w :: _, _, _, h, f => fun o ho => allObj_mono' (h o ho) (fun its => f ((w.1, o) :: its))
/-- turns by what holds between them; the ledger may change -/
theorem items_ind {α : Type} {ws : List (Addr × String)} {keep : List (Addr × Obj)} (g : α → Itm) (J : List α → (Str → Option Value) → List (Addr × Obj) → Prop) (xs : List α)
    (turn : ∀ (done : List α) (a : α) (post : List α) m news v h tk, xs = done ++ a :: post → (g a).Is v h → J done m news → Fr h₀ env.locals h m → AllObj ws (fun its => News h₀ env.locals h (its ++ news) →
      wpAny (model prog w) A (assign target env v) (fun _ s₂ => wpAny (model prog w) A (execs body env) (UnrPostW h₀ env.locals { s with heap := h, toks := tk } its (fun m' n' => SubL keep n' ∧ J (done ++ [a]) m' n') Q) E s₂) E { s with heap := h, toks := tk }))
    (fin : ∀ m news h tk, J xs m news → Fr h₀ env.locals h m → News h₀ env.locals h news → Q .next { s with heap := h, toks := tk }) :
    ∀ (todo done : List α) m news, xs = done ++ todo → J done m news → ItemsRest prog w A E h₀ env target body Q s ws keep (todo.map g) m news
  | [], done, m, news, he, hj => by
    rw [List.append_nil] at he
    subst he
    exact ItemsRest.zero fun h tk F N => fin m news h tk hj F N
  | e :: todo, done, m, news, he, hj => by
    intro v h tk hv F
    refine allObj_mono' (turn done e todo m news v h tk he hv hj F) (fun its hk N => ?_)
    refine wpAny_mono (hk N) (fun _ s₂ h2 => wpAny_mono h2 (fun f s₃ h3 => ?_) fun _ _ x => x) fun _ _ x => x
    have up : UnrEndW h₀ env.locals { s with heap := h, toks := tk } its (fun m' n' => SubL keep n' ∧ J (done ++ [e]) m' n') s₃ →
        UnrEndW h₀ env.locals { s with heap := h, toks := tk } its (fun m' n' => SubL keep n' ∧ ItemsRest prog w A E h₀ env target body Q s ws keep (todo.map g) m' n') s₃ := by
      rintro ⟨h', tk', m', news', e', F', N', off, hs, hj'⟩
      exact ⟨h', tk', _, _, e', F', N', off, hs, items_ind g J xs turn fin todo (done ++ [e]) m' news' (by rw [he]; simp) hj'⟩
    cases f with
    | ret v => exact h3
    | brk => exact h3
    | next => exact up h3
    | cont => exact up h3
end
end Mine
end

section
namespace Mine
set_option maxRecDepth 100000 in
set_option maxHeartbeats 8000000 in
open_top hd for PySem.Challenge.rw_kn0090_05
end Mine
end

section
namespace Mine
theorem spec_in (P : Params) : (hd.heap_39 P).lookup 16 = some Mine.specObj := by rfl
local macro_rules | `(tactic| walk_at "call builtin:str.translate") => `(tactic| (k_here; k_dflt (refine' Mine.escape_tr ?k1 ?k2 ?k3 (spec_in _) ?k4 ?k5 ?_; (case k1 => k_asm); (case k2 => k_asm); (case k3 => k_asm); (case k4 => exact rfl); (case k5 => (simp only [sizeLine] at *; omega)); k_whole); intro h' tk' t' F' N' g'))
local macro_rules | `(tactic| walk_at "getMethod str") => `(tactic| with_reducible refine Mine.gm_translate ?_)
set_option maxHeartbeats 8000000 in
theorem esc_pure (w : World) (mean : ExcName → Option Value) (mg mb : Str → Option Value) (x : Str) (t : Tok) (hx : 2 * x.length ≤ sizeLine) :
   Mine.PureFn 1 Challenge.rw_kn0090_05.row.prog w (hd.heap_39 w.params) hd.view_39 (looseW hd.view_39 [Str.ofString "_special_chars_map"]) mean mg mb 26 [.str x t] (fun v => ∃ t', v = .str (Mine.esc x) t') := by
  intro dp un gd cn cs a ccd cl outer A₀ base h₀ L m s Q E B F X T hk hd hu hret
  refine wpAny_call ?_
  k_dflt (refine' Mine.code_pure (fun v => ∃ t', v = .str (Mine.esc x) t') (fun v h' tk' hv hg => hret v h' tk' hv hg) B F X T ?kA ?kF ?kK ?k6 ?k7 ?k8 ?k9 ?kB ?_ ?c2 ?c3 ?c4 ?c5; (case kA => exact rfl); (case kF => exact rfl); (case kK => assumption);  (case k6 => k_is); (case k7 => k_is); (case k8 => ktr_room); (case k9 => exact BindsTo.of_eq rfl); (case c5 => decide); (case kB => exact locs rfl); (case c2 => exact rfl); (case c3 => exact rfl); (case c4 => exact rfl); k_whole; intro L' h' FG' F' N' B' X' T'; (try dsimp only); (try k_fold))
  k_steps
  all_goals exact ⟨⟨_, rfl⟩, _, _, rfl⟩
end Mine
end

section
namespace Mine
theorem short_of {l : List (Str × Tok)} {path : Str} (h : l.map (·.1) = Txt.split path (Str.ofString "*")) (hp : path.length ≤ 64) : l.length ≤ 65 := by
  have := congrArg List.length h
  rw [List.length_map, show Str.ofString "*" = ⟨#[42]⟩ from by decide +kernel] at this
  have := Mine.split_few path 42
  omega
local macro_rules | `(tactic| walk_at "call type:map") => `(tactic| (k_here; k_dflt (refine' Mine.map_K ?k1 ?k2 ?k3 ?_; (case k1 => k_asm); (case k2 => k_asm); (case k3 => k_mem); k_whole); intro M' T' I' h' F' N' l1 l2 l3; (try k_lt l1); (try k_lt2 l2); (try k_lt2 l3)))
local macro_rules | `(tactic| walk_at "call type:list") => `(tactic| (k_here; k_dflt (refine' Mine.list_map_texts (rest := []) (k := 1) (g := Mine.esc) ?k1 ?k2 ?k3 ?k4 ?k5 ?kK ?kd ?ku ?m1 ?m2 ?m3 ?m4 ?m5 ?m6 ?m7 ?_; (case k1 => k_asm); (case k2 => k_asm); (case k3 => k_asm); (case k4 => k_asm); (case k5 => k_asm); (case kK => exact rfl); (case kd => ktr_room); (case ku => ktr_units); (case m1 => k_mem); (case m2 => k_mem); (case m3 => k_mem); (case m4 => k_mem); (case m5 => exact fun q hq => nomatch hq); (case m6 => (have hz := short_of (by assumption) (by assumption); simp only [sizeLine]; omega)); (case m7 => exact fun x t hx => esc_pure _ _ _ _ x t (by (have hz := (by assumption : ∀ a ∈ _, Str.length a ≤ _) x hx); simp only [sizeLine]; omega)); k_whole); intro D' h' tk' c' zs' F' N' l1 hz'))
local macro_rules | `(tactic| walk_at "call builtin:len") => `(tactic| (k_here; k_dflt (refine' Mine.len_T ?k1 ?k2 ?k3 ?_; (case k1 => k_asm); (case k2 => k_mem); (case k3 => (have hz := short_of (by assumption) (by assumption); have hz2 := congrArg List.length (by assumption : List.map (fun (x : Str × Tok) => x.1) _ = List.map (fun (y : Str × Tok) => Mine.esc y.1) _); simp only [List.length_map] at hz2; omega)); k_whole)))
local macro_rules | `(tactic| walk_at "subscriptTail Name Name ref int") => `(tactic| (k_here; (with_reducible show wpAny _ _ (subscriptTail _ _ (Value.ref _) (Value.int _ _)) _ _ _); k_dflt (refine' Mine.sub_T ?k1 ?k2 ?k3 ?k4 ?k5 ?k6 ?_ ?k7; (case k1 => k_asm); (case k2 => k_mem); (case k3 => omega); (case k4 => omega); (case k5 => omega); (case k6 => assumption); (case k7 => with_unfolding_all rfl); k_whole)))
local macro_rules | `(tactic| walk_at "subscriptTail Name UnaryOp ref int") => `(tactic| (k_here; (with_reducible show wpAny _ _ (subscriptTail _ _ (Value.ref _) (Value.int _ _)) _ _ _); k_dflt (refine' Mine.sub_T ?k1 ?k2 ?k3 ?k4 ?k5 ?k6 ?_ ?k7; (case k1 => k_asm); (case k2 => k_mem); (case k3 => omega); (case k4 => omega); (case k5 => omega); (case k6 => assumption); (case k7 => with_unfolding_all rfl); k_whole)))
local macro_rules | `(tactic| walk_at "setItem ref int str") => `(tactic| (k_here; (with_reducible show wpAny _ _ (setItem (Value.ref _) (Value.int _ _) (Value.str _ _)) _ _ _); k_dflt (refine' Mine.set_T ?k1 ?k2 ?k3 ?k4 ?k5 ?k6 ?_; (case k1 => k_asm); (case k2 => k_asm); (case k3 => k_upd); (case k4 => omega); (case k5 => omega); (case k6 => omega); k_whole); intro h' F' N'))
set_option maxHeartbeats 8000000 in
theorem tp_pure (w : World) (mean : ExcName → Option Value) (mg mb : Str → Option Value) (path : Str) (t : Tok) (hx : path.length ≤ 64) :
   Mine.PureFn 2 Challenge.rw_kn0090_05.row.prog w (hd.heap_39 w.params) hd.view_39 (looseW hd.view_39 [Str.ofString "_special_chars_map"]) mean mg mb 33 [.str path t] (fun v => ∃ t', v = .str (Mine.tpS path) t') := by
  intro dp un gd cn cs a ccd cl outer A₀ base h₀ L m s Q E B F X T hk hd hu hret
  refine wpAny_call ?_
  k_dflt (refine' Mine.code_pure (fun v => ∃ t', v = .str (Mine.tpS path) t') (fun v h' tk' hv hg => hret v h' tk' hv hg) B F X T ?kA ?kF ?kK ?k6 ?k7 ?k8 ?k9 ?kB ?_ ?c2 ?c3 ?c4 ?c5; (case kA => exact rfl); (case kF => exact rfl); (case kK => assumption);  (case k6 => k_is); (case k7 => k_is); (case k8 => ktr_room); (case k9 => exact BindsTo.of_eq rfl); (case c5 => decide); (case kB => exact locs rfl); (case c2 => exact rfl); (case c3 => exact rfl); (case c4 => exact rfl); k_whole; intro L' h' FG' F' N' B' X' T'; (try dsimp only); (try k_fold))
  k_steps
  rename_i l h4 k0 hl1 hl2 hl3 hl4 M I T h3 la lb lc D h2 tk2 c zs lD hz h1 F1 N1 hr tkr t1 u1 v1 rg F2 N2 hgrow
  have hzl : zs.length = l.length := by have := congrArg List.length hz; simpa using this
  have hl65 := short_of hl1 hx
  have hl1' := Mine.split_pos hl1
  have hEq : zs.map (·.1) = (Txt.split path (Str.ofString "*")).map Mine.esc := by rw [hz, ← hl1, List.map_map]; rfl
  have hE : ∀ e ∈ zs.map (·.1), e.length ≤ 193 := by
    intro e he
    rw [hz] at he
    obtain ⟨y, hy, rfl⟩ := List.mem_map.mp he
    have h1 := hl3 y.1 (List.mem_map_of_mem hy)
    have h2 := Mine.esc_len y.1
    omega
  with_unfolding_all refine' kst_range (σ := List (Str × Tok)) (fun y => [(D, W.listOf (strValues y).toArray c)]) (fun _ => []) (fun _ => True) [] (fun pre y => y.map (·.1) = Mine.wrapK (zs.map (·.1)) pre.length ∧ ∀ z ∈ y, z.1.length ≤ 200) zs (by rfl) rg (small_one (by omega) (by omega) (by omega) (by omega)) (rangeSize_nat _ _) F2 N2 trivial ?_ ?_ ?_ ?_
  · intro p hp; cases hp
  · refine ⟨(Mine.wrapK_zero _).symm, fun z hzm => ?_⟩
    have : z.1 ∈ zs.map (·.1) := List.mem_map_of_mem hzm
    rw [hz] at this
    obtain ⟨y, hy, e⟩ := List.mem_map.mp this
    have h1 := hl3 y.1 (List.mem_map_of_mem hy)
    have h2 := Mine.esc_len y.1
    rw [← e]; omega
  · intro y pre k t u h tk own hk1 hk2 hoff _ hP Ft Nt
    obtain ⟨hP1, hP2⟩ := hP
    have hyl : y.length = zs.length := by have := congrArg List.length hP1; simpa [Mine.wrapK_length] using this
    have hkn : 0 ≤ k ∧ k + 1 < (zs.length : Int) := by omega
    have hkp : Mine.place k y.length = 1 + pre.length := by unfold Mine.place; rw [if_neg (by omega)]; omega
    obtain ⟨z, hz2⟩ : ∃ z, y[Mine.place k y.length]? = some z := ⟨y[1 + pre.length]'(by omega), by rw [hkp]; simp⟩
    have hzz : z ∈ y := List.mem_of_getElem? hz2
    have hzlen := hP2 z hzz
    have hP3 := hP2
    simp only [List.map_cons, List.map_nil, List.cons_append, List.nil_append] at hoff Nt
    try k_fold
    k_steps
    rename_i t3 tk3 h3 F3 N3
    refine' kst_end (y.set (Mine.place k y.length) (Str.empty ++ Str.ofString "(?>.*?" ++ z.1 ++ Str.ofString ")", ?tok)) F3 N3 ?_ ?_ rfl trivial ?_ ?_ ?_
    rotate_left
    · intro p hp; rw [List.mem_singleton.mp hp]; exact List.mem_cons_self
    · intro p hp; exact List.mem_cons_of_mem _ hp
    · intro p hp; cases hp
    · intro z hz _ _; show (if z = _ then _ else _) = _; rw [if_neg hz]; rfl
    · rw [List.length_append, List.length_singleton]
      exact ⟨Mine.turn_of hP1 hkp hz2 (by rw [Mine.empty_append]; rfl), Mine.turn_len hE hP1 hkp hz2 (by rw [Mine.empty_append]; rfl) hP2⟩
  · intro y u h tk _ hP Ft Nt
    obtain ⟨hP1, hP2⟩ := hP
    rw [rangeKs_length] at hP1
    have hyl : y.length = zs.length := by have := congrArg List.length hP1; simpa [Mine.wrapK_length] using this
    obtain ⟨z, hz2⟩ : ∃ z, y[Mine.place (-1) y.length]? = some z := ⟨y[y.length - 1]'(by omega), by rw [show Mine.place (-1) y.length = y.length - 1 from by unfold Mine.place; rw [if_pos (by decide)]; omega]; simp⟩
    have hzz : z ∈ y := List.mem_of_getElem? hz2
    have hzlen := hP2 z hzz
    try k_fold
    k_steps
    rename_i t3 tk3 h3 F3 N3
    refine Mine.join_T (B := 300) N3 (List.mem_singleton.mpr rfl) (Mine.set_bound (fun q hq => Nat.le_trans (hP2 q hq) (by decide)) (by rw [Mine.empty_append, Mine.strLen_append, Mine.glen2]; omega)) (by rw [List.length_set, show (Str.ofString "").length = 0 from by decide +kernel]; omega) ?_
    intro t4 k4
    rw [Mine.tpParts_of (E := (Txt.split path (Str.ofString "*")).map Mine.esc) (ys := y) (z := z) (by rw [hP1, hEq, List.length_map, ← hl1, List.length_map, show (((zs.length : Int) - 1 - 1).toNat = l.length - 2) from by omega]) (by unfold Mine.place; rw [if_pos (by decide), List.length_map, ← hl1, List.length_map]; omega) hz2 (Mine.empty_append _ ▸ rfl)]
    k_steps
    exact ⟨⟨_, rfl⟩, _, _, rfl⟩
end Mine
end

section
namespace Mine
local macro_rules | `(tactic| walk_at "exec While") => `(tactic| (k_here; refine Mine.stop ?_))
local macro_rules | `(tactic| walk_at "exec While BoolOp cons nil") => `(tactic| (k_here; refine Mine.stop ?_))
local macro_rules | `(tactic| walk_at "subscriptTail Name Name str int") => `(tactic| (k_here; (with_reducible show wpAny _ _ (subscriptTail _ _ (Value.str _ _) (Value.int _ _)) _ _ _); k_dflt (refine' Mine.sub_str ?a ?b ?c ?_ ?d ?e; (case a => omega); (case b => omega); (case c => assumption); (case d => with_unfolding_all rfl); (case e => intro _; with_unfolding_all rfl); k_whole)))
local macro_rules | `(tactic| walk_at "ite") => `(tactic| (k_here; k_dflt (first
  | refine Mine.ite_yes (Mine.one_eq Mine.back_is) ?_
  | refine Mine.ite_no (Mine.one_ne Mine.back_is (by assumption)) ?_
  | refine Mine.ite_no (Mine.bne_same Mine.close_ne) ?_
  | refine Mine.ite_yes (Mine.bne_other Mine.close_ne (by assumption)) ?_
  | refine Mine.ite_yes (Mine.bne_other Mine.close_ne (by decide)) ?_)))
local macro_rules | `(tactic| walk_at "KswEnd") => `(tactic| (refine Mine.stop ?_))
set_option maxHeartbeats 2000000 in
theorem meas {n : Nat} {a b : Int} (h0 : 0 ≤ a) (h : a < n) (hb : a < b) : n + 10 - b.toNat < n + 10 - a.toNat := by omega
theorem nat_add {a : Int} (h : 0 ≤ a) (k : Nat) : (a + (k : Int)).toNat = a.toNat + k := by omega
theorem close_pure (w : World) (mean : ExcName → Option Value) (mg mb : Str → Option Value) (text : Str) (at_ : Int) (t u : Tok) (us : List (List Nat)) (r : List Nat) (hat : 0 ≤ at_) (htx : (Mine.lis text).drop at_.toNat = us.flatten ++ 41 :: r) (hus : ∀ u ∈ us, Mine.Unit1 u) (hlen : text.length ≤ 1000) :
   Mine.PureFn 1 Challenge.rw_kn0090_05.row.prog w (hd.heap_39 w.params) hd.view_39 (looseW hd.view_39 [Str.ofString "_special_chars_map"]) mean mg mb 40 [.str text t, .int at_ u] (fun v => ∃ t', v = .int (at_ + us.flatten.length) t') := by
  intro dp un gd cn cs a ccd cl outer A₀ base h₀ L m s Q E B F X T hk hd hu hret
  refine wpAny_call ?_
  k_dflt (refine' Mine.code_pure (fun v => ∃ t', v = .int (at_ + us.flatten.length) t') (fun v h' tk' hv hg => hret v h' tk' hv hg) B F X T ?kA ?kF ?kK ?k6 ?k7 ?k8 ?k9 ?kB ?_ ?c2 ?c3 ?c4 ?c5; (case kA => exact rfl); (case kF => exact rfl); (case kK => assumption);  (case k6 => k_is); (case k7 => k_is); (case k8 => ktr_room); (case k9 => exact BindsTo.of_eq rfl); (case c5 => decide); (case kB => exact locs rfl); (case c2 => exact rfl); (case c3 => exact rfl); (case c4 => exact rfl); k_whole; intro L' h' FG' F' N' B' X' T'; (try dsimp only); (try k_fold))
  k_steps
  unfold Mine.Stop
  rename Fr _ _ _ _ => F2
  rename News _ _ _ _ => N2
  with_unfolding_all refine' ksw_while (σ := Int × Tok) (fun _ => []) (fun c => [(Str.ofString "at", .int c.1 c.2)]) (fun _ => True) [] (fun c => ∃ done todo, us = done ++ todo ∧ 0 ≤ c.1 ∧ (Mine.lis text).drop c.1.toNat = todo.flatten ++ 41 :: r ∧ c.1 = at_ + done.flatten.length) (fun c => text.length + 10 - c.1.toNat) (at_, _) F2 N2 trivial ?hk ?hp ?turn
  case hk => kst_all
  case hp => exact ⟨[], us, rfl, hat, htx, by simp⟩
  case turn =>
    rintro ⟨av, ta⟩ uu h tk _ hP Ft Nt
    dsimp only at hP Ft Nt
    simp only [kstB] at Ft
    obtain ⟨done, todo, hp1, ha0, hd0, hav⟩ := hP
    cases todo with
    | nil =>
      have hd1 : (Mine.lis text).drop av.toNat = 41 :: r := hd0
      have hlt := Mine.drop_lt ha0 hd1
      (try k_fold)
      k_steps
      have e2 : av = at_ + us.flatten.length := by rw [hav, hp1, List.append_nil]
      subst e2
      exact ⟨⟨_, rfl⟩, _, _, rfl⟩
    | cons u0 todo =>
      have hu0 := hus u0 (by rw [hp1]; simp)
      cases hu0 with
      | @one c h1 h2 =>
        have hd1 : (Mine.lis text).drop av.toNat = c :: (todo.flatten ++ 41 :: r) := by rw [hd0]; simp
        have hlt := Mine.drop_lt ha0 hd1
        (try k_fold)
        k_steps
        unfold Mine.Stop
        rename Fr _ _ _ _ => F9
        rename News _ _ _ _ => N9
        refine' ksw_end (_, _) F9 N9 ?hn9 trivial ?hk9 ?hr9 ?hp9 ?hm9
        case hk9 => kst_all
        case hn9 => intro p hp; cases hp
        case hr9 => ksw_same
        case hp9 =>
          refine ⟨done ++ [[c]], todo, by rw [hp1]; simp, ?_, ?_, ?_⟩
          · dsimp only; omega
          · dsimp only; rw [show (av + 1).toNat = av.toNat + 1 from nat_add ha0 _, ← List.drop_drop, hd1]; rfl
          · dsimp only; rw [hav]; simp only [List.flatten_append, List.length_append, List.flatten_cons, List.flatten_nil, List.length_cons, List.length_nil]; omega
        case hm9 => exact meas ha0 hlt (by dsimp only; omega)
      | two c =>
        have hd1 : (Mine.lis text).drop av.toNat = 92 :: c :: (todo.flatten ++ 41 :: r) := by rw [hd0]; simp
        have hlt := Mine.drop_lt ha0 hd1
        (try k_fold)
        k_steps
        unfold Mine.Stop
        rename Fr _ _ _ _ => F9
        rename News _ _ _ _ => N9
        refine' ksw_end (_, _) F9 N9 ?hn9 trivial ?hk9 ?hr9 ?hp9 ?hm9
        case hk9 => kst_all
        case hn9 => intro p hp; cases hp
        case hr9 => ksw_same
        case hp9 =>
          refine ⟨done ++ [[92, c]], todo, by rw [hp1]; simp, ?_, ?_, ?_⟩
          · dsimp only; omega
          · dsimp only; rw [show (av + 2).toNat = av.toNat + 2 from nat_add ha0 _, ← List.drop_drop, hd1]; rfl
          · dsimp only; rw [hav]; simp only [List.flatten_append, List.length_append, List.flatten_cons, List.flatten_nil, List.length_cons, List.length_nil]; omega
        case hm9 => exact meas ha0 hlt (by dsimp only; omega)
end Mine
end

section
namespace Mine
local macro_rules | `(tactic| walk_at "exec While") => `(tactic| (k_here; refine Mine.stop ?_))
local macro_rules | `(tactic| walk_at "exec While Compare cons nil") => `(tactic| (k_here; refine Mine.stop ?_))
local macro_rules | `(tactic| walk_at "subscriptTail Name Name str int") => `(tactic| (k_here; (with_reducible show wpAny _ _ (subscriptTail _ _ (Value.str _ _) (Value.int _ _)) _ _ _); k_dflt (refine' Mine.sub_str ?a ?b ?c ?_ ?d ?e; (case a => omega); (case b => omega); (case c => assumption); (case d => with_unfolding_all rfl); (case e => intro _; with_unfolding_all rfl); k_whole)))
local macro_rules | `(tactic| walk_at "subscriptTail Name Slice str ref") => `(tactic| (k_here; (with_reducible show wpAny _ _ (subscriptTail _ (Expr.Slice (some _) (some _) none _) _ _) _ _ _); (with_reducible rename Fr _ _ _ _ => F'); (with_reducible rename News _ _ _ _ => N'); k_dflt (refine' Mine.slice_ss (s := ⟨_, _, _, _, _⟩) F' N' ?a ?b ?c ?l ?_ ?d ?e; (case a => omega); (case b => omega); (case c => (simp only [sizeLine]; omega)); (case l => assumption); (case d => with_unfolding_all rfl); (case e => intro _; with_unfolding_all rfl); k_whole); intro h' t' k' F' N'))
local macro_rules | `(tactic| walk_at "ite") => `(tactic| (k_here; k_dflt (first | refine Mine.ite_no (by with_reducible assumption) ?_ | refine Mine.ite_yes (by with_reducible assumption) ?_)))
local macro_rules | `(tactic| walk_at "compareOp In str str") => `(tactic| (k_here; refine Mine.in_one ?_))
local macro_rules | `(tactic| walk_at "exec If") => `(tactic| ((with_reducible show wpAny _ _ (exec (Stmt.If _ [Stmt.AugAssign _ _ _ _] [] _) _) _ _ _); refine Mine.stop ?_))
local macro_rules | `(tactic| walk_at "CompSrcT") => `(tactic| (refine Mine.stop ?_))
local macro_rules | `(tactic| walk_at "CompEnd") => `(tactic| (refine Mine.stop ?_))
local macro_rules | `(tactic| walk_at "exec Assign cons ListComp") => `(tactic| (k_here; (with_reducible show wpAny _ _ (exec (Stmt.Assign _ (Expr.ListComp _ [_, _] _ _) _) _) _ _ _); k_dflt (refine Mine.Assign_two (by k_asm) (by rfl) (by with_unfolding_all rfl) (by with_unfolding_all rfl) (by decide) (by rfl) (by decide) (by rfl) (by rfl) (by decide) (by rfl) (by rfl) ?_)))
local macro_rules | `(tactic| walk_at "call ref") => `(tactic| (k_here; first | (k_dflt (refine' Mine.use_pureI (close_pure _ _ _ _ _ _ _ _ _ _ ?a0 ?a1 ?a2 ?a3) ?k1 ?k2 ?k3 ?k4 ?k5 ?kK ?kd ?ku ?_; (case a1 => assumption); (case a0 => omega); (case a2 => assumption); (case a3 => assumption); (case k1 => k_asm); (case k2 => k_asm); (case k3 => k_asm); (case k4 => k_asm); (case k5 => k_asm); (case kK => exact rfl); (case kd => ktr_room); (case ku => ktr_units); k_whole); intro t' h' tk' F' N') | refine Mine.stop ?_))
local macro_rules | `(tactic| walk_at "Src2") => `(tactic| (refine Mine.stop ?_))
local macro_rules | `(tactic| walk_at "RngEnd") => `(tactic| (refine Mine.stop ?_))
local macro_rules | `(tactic| walk_at "KswEnd") => `(tactic| (refine Mine.stop ?_))
open PyProof.Rows.LCg in
theorem rest2_le_one {prog : Program} {w : World} {A : Around} {s : Shared} {h₀ : Heap} {L : Addr} {m : Str → Option Value} {env : Env} {i2 : Expr} {x : Str} {scope : Scope} {cl : List (Str × Addr)} {S : List (Addr × Obj) → Prop} {P : Nat → Value → Prop} {Fin : List Value → List (Addr × Obj) → Prop} {news : List (Addr × Obj)} (G : List Value → Prop) : ∀ {n : Nat}, n ≤ 1 → (n = 0 → G []) →
    (n = 1 → ∀ v I oI C oC D m₂ h tk (E' : Value → Shared → Prop), P 0 v → NsObj oC m₂ → m₂ x = some v → Fr h₀ L h m → News h₀ L h ((I, oI) :: (C, oC) :: (D, lst []) :: news) → Off3 I C D news → ((@Ne Nat I C) ∧ (@Ne Nat I D) ∧ (@Ne Nat C D)) →
      wpAny (model prog w) A (eval i2 (compEnvC scope cl C env)) (RngEnd h₀ L m { s with heap := h, toks := tk } I oI C oC D [] S (fun a c n news' => ∀ zs, IntsAre zs (rangeInts a c n) → news' = news ∧ G ([] ++ zs))) E' { s with heap := h, toks := tk }) →
    (∀ ys, G ys → Fin ys news) → Rest2 prog w A h₀ L m env i2 x scope cl s S P Fin n 0 [] news
  | 0, _, h0, _, hf => hf [] (h0 rfl)
  | 1, _, _, h1, hf => fun v I oI C oC D m₂ h tk E' a1 a2 a3 a4 a5 a6 a7 => wpAny_mono (h1 rfl v I oI C oC D m₂ h tk E' a1 a2 a3 a4 a5 a6 a7) (fun xv s₂ hR => by
      obtain ⟨r, a, b, c, t, u, v, n, h', tk, news', e1, e2, hr, hsm, hn, F, N, off, hS, hsz, hR⟩ := hR
      exact ⟨r, a, b, c, t, u, v, n, h', tk, news', e1, e2, hr, hsm, hn, F, N, off, hS, hsz, fun zs hz => by obtain ⟨rfl, g⟩ := hR zs hz; exact hf _ g⟩) (fun _ _ x => x)
  | n + 2, h, _, _, _ => absurd h (by omega)
inductive Late : Prop | mk

local macro_rules | `(tactic| walk_at "exec For Name Name cons nil") => `(tactic| (k_here; (with_reducible rename Late => hLate0); refine Mine.stop ?_))
set_option maxHeartbeats 2000000 in
theorem ways_walk (n : Nat) (w : World) (mean : ExcName → Option Value) (mg mb : Str → Option Value) (text name : Str) (t1 t2 : Tok) (Z : Addr) (q : Int) (tq : Tok) (c0 : Nat) (toks : List Tk) (hT : Mine.lis text = tkL toks) (hne : toks ≠ []) (hG : Good (Mine.lis name) toks [q]) (hq0 : 0 ≤ q) (hq1 : q ≤ name.length) (hlen : text.length ≤ 1000) (hnm : name.length ≤ 100)
   (Hin : ∀ p, Tk.grp p ∈ toks → ∀ (t1 t2 : Tok) (Z : Addr) (q : Int) (tq : Tok) (c0 : Nat), 0 ≤ q → q ≤ name.length → Mine.PureFnX n Challenge.rw_kn0090_05.row.prog w (hd.heap_39 w.params) hd.view_39 (looseW hd.view_39 [Str.ofString "_special_chars_map"]) mean mg mb 45 [.str (Mine.ofL ([46, 42, 63] ++ Mine.escL p)) t1, .str name t2, .ref Z] [(Z, listOf #[.int q tq] c0)] (Mine.NewX [(Z, listOf #[.int q tq] c0)] (fun o => ∃ ys c, o = listOf ys.toArray c ∧ IntsAre ys (runL (Mine.lis name) p (upR (Mine.lis name) q))))) :
   Mine.PureFnX (n + 2) Challenge.rw_kn0090_05.row.prog w (hd.heap_39 w.params) hd.view_39 (looseW hd.view_39 [Str.ofString "_special_chars_map"]) mean mg mb 45 [.str text t1, .str name t2, .ref Z] [(Z, listOf #[.int q tq] c0)] (Mine.NewX [(Z, listOf #[.int q tq] c0)] (fun o => ∃ ys c, o = listOf ys.toArray c ∧ IntsAre ys (runT (Mine.lis name) toks [q]))) := by
  w_top off
  intro dp un gd cn cs a ccd cl outer A₀ base h₀ L m s Q E B F N X T hk hd hu hret
  refine wpAny_call ?_
  k_dflt (refine' Mine.code_pureX (Mine.NewX [(Z, listOf #[.int q tq] c0)] (fun o => ∃ ys c, o = listOf ys.toArray c ∧ IntsAre ys (runT (Mine.lis name) toks [q]))) (fun v h' tk' hv hg => hret v h' tk' hv hg) B F X N T ?kA ?kF ?kK ?k6 ?k7 ?k8 ?k9 ?kB ?kD ?_ ?c2 ?c3 ?c4; (case kA => exact rfl); (case kF => exact rfl); (case kK => assumption);  (case k6 => k_is); (case k7 => k_is); (case k8 => ktr_room); (case k9 => exact BindsTo.of_eq rfl); (case kB => exact rfl); (case kD => decide +kernel); (case c2 => exact rfl); (case c3 => exact rfl); (case c4 => exact rfl); k_whole; intro g' L' h' tk' cells' FG' F' N' Y' B' X' T' l1; (try k_lt l1); k_cells Y'; (try simp only [List.cons_append, List.nil_append] at N'); (try dsimp only); (try k_fold))
  k_steps
  unfold Mine.Stop
  rename_i o1 oN oT d1 dN dT h2 oA F2 N2 dA
  have eN : oN.data = .cell (some (.str name t2)) := dN
  have eT : oT.data = .cell (some (.str text t1)) := dT
  clear dN dT d1
  obtain ⟨m0, hw0, F2⟩ : ∃ m0 : Str → Option Value, m0 (Str.ofString "ways") = some (.ref Z) ∧ Fr g' L' h2 m0 := ⟨_, rfl, F2⟩
  with_unfolding_all refine' ksw_while (σ := St5) (fun c => [(L' + 1 + 1 + 1, c.oA), (L' + 1 + 1, oN), (L' + 1, oT), (c.D, listOf c.ys.toArray c.n), (Z, listOf #[.int q tq] c0)]) (fun c => [(Str.ofString "ways", .ref c.D)]) (fun c => c.oA.data = .cell (some (.int c.av c.ta)) ∧ @Ne Nat c.D (L' + 1 + 1 + 1)) [Str.ofString "end", Str.ofString "firsts", Str.ofString "place", Str.ofString "inner"] (fun c => ∃ todo ns, IntsAre c.ys ns ∧ 0 ≤ c.av ∧ (Mine.lis text).drop c.av.toNat = tkL todo ∧ runT (Mine.lis name) todo ns = runT (Mine.lis name) toks [q] ∧ Good (Mine.lis name) todo ns ∧ InR (Mine.lis name) ns ∧ ns.length ≤ (Mine.lis name).length + 1 ∧ (todo = [] → @Ne Nat c.D Z) ∧ ∀ p, Tk.grp p ∈ todo → Tk.grp p ∈ toks) (fun c => text.length + 10 - c.av.toNat) ⟨oA, 0, _, Z, [.int q tq], c0⟩ F2 ?hn ⟨dA, ?hz⟩ ?hk ?hp ?turn
  case hn => intro p hp; exact N2 p (by simpa using hp)
  case hz => dsimp only; omega
  case hk => exact List.forall_mem_cons.mpr ⟨hw0, List.forall_mem_nil _⟩
  case hp => exact ⟨toks, [q], .cons _ _ .nil, Int.le_refl 0, hT, rfl, hG, (by intro k hk; rw [List.mem_singleton.mp hk, ← Mine.length_lis]; exact ⟨hq0, hq1⟩), (by simp), (fun h => absurd h hne), fun p h => h⟩
  case turn =>
    rintro ⟨oA2, av, ta, D, ys, nn⟩ uu h tk ⟨hA, hDA⟩ hP Ft Nt
    dsimp only at hA hDA hP Ft Nt
    simp only [kstB] at Ft
    have hll : (Mine.lis name).length = name.length := (Mine.length_lis name).symm
    obtain ⟨todo, ns, hI, ha0, hd0, hres, hgood, hin, hnl, hfr, hsub⟩ := hP
    cases todo with
    | nil =>
      have hend : (text.length : Int) ≤ av := by
        have := congrArg List.length hd0
        rw [List.length_drop, ← Mine.length_lis] at this
        simp [tkL] at this; omega
      (try k_fold)
      k_steps
      rename News g' _ _ _ => N9
      refine ⟨⟨D, _, rfl, ⟨ys, nn, rfl, hres ▸ hI⟩, (N9 (D, listOf ys.toArray nn) (by simp)).2.2, ?_, (N9 (D, listOf ys.toArray nn) (by simp)).1⟩, ⟨_, _, rfl⟩, ?_⟩
      · intro z hz; rw [List.mem_singleton.mp hz]; exact fun e => hfr rfl e.symm
      · intro z hz; rw [List.mem_singleton.mp hz]; exact (N9 (Z, listOf #[.int q tq] c0) (by simp)).1
    | cons t0 todo =>
      rw [tkL_cons] at hd0
      cases t0 with
      | lit c =>
        obtain ⟨a, l, ea, hl⟩ := lit_head c
        rw [ea] at hd0
        have hd1 : (Mine.lis text).drop av.toNat = a :: (l ++ tkL todo) := by rw [hd0]; rfl
        have hlt := Mine.drop_lt ha0 hd1
        have ham : ¬ decide (a ∈ Mine.lis (Str.ofString "()[]{}?*+|^$.")) = true := by
          rw [decide_eq_true_iff]
          intro h
          rcases hl with ⟨h1, _⟩ | ⟨h1, h2, _⟩
          · rw [h1, patm] at h; exact absurd h (by decide)
          · exact h2 (by rw [← h1]; exact menu_sub _ h)
        have ha40 : a ≠ 40 := by rintro rfl; exact ham (by rw [patm]; decide)
        have ha46 : a ≠ 46 := by rintro rfl; exact ham (by rw [patm]; decide)
        have hs3 := take_at (j := av + 3) hd1 3 rfl rfl
        have hs2 := take_at (j := av + 2) hd1 2 rfl rfl
        rw [List.take_succ_cons] at hs3 hs2
        have hne3 := eqs_no (l := a :: List.take 2 (l ++ tkL todo)) pat3 (by intro h; exact ha40 (by simpa using congrArg List.head? h))
        have hnez := eqs_no (l := a :: List.take 2 (l ++ tkL todo)) patz (by intro h; exact ha46 (by simpa using congrArg List.head? h))
        have hne2 := eqs_no (l := a :: List.take 1 (l ++ tkL todo)) pat2 (by intro h; exact ha46 (by simpa using congrArg List.head? h))
        (try k_fold)
        k_steps
        unfold Mine.Stop
        refine wpAny_mono (Q := fun f s' => Mine.Stop (f = .next ∧ ∃ h' tk' oA3 av3 ta3, s' = { s with heap := h', toks := tk' } ∧ Fr g' L' h' (fun z => if z = Str.ofString "ways" then some (.ref D) else if [Str.ofString "end", Str.ofString "firsts", Str.ofString "place", Str.ofString "inner"].contains z = true then uu z else m0 z) ∧ News g' L' h' [(L' + 1 + 1 + 1, oA3), (L' + 1 + 1, oN), (L' + 1, oT), (D, listOf ys.toArray nn), (Z, listOf #[.int q tq] c0)] ∧ oA3.data = .cell (some (.int av3 ta3)) ∧ 0 ≤ av3 ∧ av ≤ av3 ∧ (Mine.lis text).drop av3.toNat = c :: tkL todo)) ?_ ?_ (fun _ _ x => x)
        · rcases hl with ⟨h1, h2, h3⟩ | ⟨h1, h2, h3⟩
          · subst h1 h3
            have hb := Mine.one_eq (c := 92) Mine.back_is
            refine wpAny_If ?_
            k_steps
            unfold Mine.Stop
            rename Fr _ _ _ _ => F8
            rename News _ _ _ _ => N8
            rename _ = Data.cell _ => dA8
            exact ⟨rfl, _, _, _, _, _, rfl, F8, N8, dA8, by omega, by omega, drop_more (l := [92]) ha0 hd1 1 rfl⟩
          · subst h1 h3
            have hb := Mine.one_ne (c := a) Mine.back_is (by rintro rfl; exact h2 (by decide))
            refine wpAny_If ?_
            k_steps
            unfold Mine.Stop
            rename Fr _ _ _ _ => F8
            rename News _ _ _ _ => N8
            exact ⟨rfl, _, _, _, _, _, rfl, F8, N8, hA, ha0, Int.le_refl _, hd1⟩
        · intro f s8 hS8
          unfold Mine.Stop at hS8
          obtain ⟨rfl, h8, tk8, oA3, av3, ta3, rfl, F8, N8, dA8, ha3, hle3, hd3⟩ := hS8
          dsimp only
          have hlt3 := Mine.drop_lt ha3 hd3
          have hc1 := take_at (j := av3 + 1) hd3 1 rfl (l := [c]) rfl
          k_steps
          unfold Mine.Stop
          rename Fr _ _ _ _ => F9
          rename News _ _ _ _ => N9
          refine LCt.CompSrcT.ledger (by rfl) F9 N9 (by k_mem) (by rw [List.size_toArray, hI.length]; simp only [sizeLine]; omega) ?_
          intro g'
          refine Mine.filter_ints (bLit (Mine.lis name) c) (· + 1) hI ?tu ?fi
          case tu =>
            intro k tk1 I oI C oC D1 m2 ys1 h1 tk2 E1 hk1 hC1 hx1 F' N' off' ne'
            have off0 := off'
            (try simp only [LCg.Off3, and_true] at off')
            have hkr := hin k hk1
            have hq1 := take_at (text := name) (k := k) (j := k + 1) rfl 1 rfl rfl
            have hbl : bLit (Mine.lis name) c k = decide (((Mine.lis name).drop k.toNat).take 1 = [c]) := rfl
            generalize ((Mine.lis name).drop k.toNat).take 1 = ln at hq1 hbl
            (try k_fold)
            k_steps
            · unfold Mine.Stop
              rename Fr _ _ _ _ => F5
              rename News _ _ _ _ => N5
              refine LCg.CompEnd.intro F5 N5 _ (fun p hp => hp) off0 (.inr ⟨_, by k_mem, rfl, _, rfl⟩) ⟨blit_yes hbl (by assumption), rfl, _, rfl⟩
            · exact (one_some (by assumption)).elim
            · unfold Mine.Stop
              rename Fr _ _ _ _ => F5
              rename News _ _ _ _ => N5
              refine LCg.CompEnd.intro F5 N5 _ (fun p hp => hp) off0 (.inr ⟨_, by k_mem, rfl, _, rfl⟩) ⟨blit_no hbl (by assumption), rfl⟩
          case fi =>
            intro ys1 hI1 D1 h1 tk1 F' N' off1
            (try simp only [LCg.Off1, and_true] at off1)
            obtain ⟨u1, u2, u3, u4, u5⟩ := off1
            have u6 := Ne.symm u1
            (try k_fold)
            k_steps
            unfold Mine.Stop
            rename Fr _ _ _ _ => F9
            rename News _ _ _ _ => N9
            rename _ = Data.cell _ => dA9
            refine' ksw_end ⟨_, _, _, D1, ys1, ys1.length⟩ F9 N9 ?hn9 ⟨dA9, ?hd9⟩ ?hk9 ?hr9 ?hp9 ?hm9
            case hk9 => kst_all
            case hn9 => dsimp only; kcf_all
            case hr9 => ksw_same
            case hd9 => exact u6
            case hp9 =>
              refine ⟨todo, _, hI1, ?_, ?_, hres, hgood.2, inR_step (.lit c) hin, len_step (t := .lit c) hin hnl (.inl rfl), fun _ e => u5 e.symm, fun p hp => hsub p (.tail _ hp)⟩
              · dsimp only; omega
              · exact drop_more (l := [c]) ha3 hd3 1 rfl
            case hm9 => exact meas ha0 hlt (by dsimp only; omega)
      | lazy =>
        have hd1 : (Mine.lis text).drop av.toNat = 46 :: (42 :: 63 :: tkL todo) := hd0
        have hlt := Mine.drop_lt ha0 hd1
        have hs3 := take_at (j := av + 3) hd1 3 rfl (l := [46, 42, 63]) rfl
        have hne3 := eqs_no (l := [46, 42, 63]) pat3 (by decide)
        have heqz := eqs_yes (l := [46, 42, 63]) patz rfl
        have h1 := hgood.1.resolve_left (by decide)
        (try k_fold)
        k_steps
        unfold Mine.Stop
        rename Fr _ _ _ _ => F8
        rename News _ _ _ _ => N8
        refine Mine.Src2.ledger (by rfl) F8 N8 (by k_mem) ?_
        intro g'
        refine rest2_le_one (fun zs => IntsAre zs (Mine.stepT (Mine.lis name) ns .lazy)) (by rw [List.size_toArray, hI.length]; exact h1) ?z0 ?z1 ?zf
        case z0 =>
          intro hz
          rcases one_of h1 with rfl | ⟨p0, rfl⟩
          · exact .nil
          · rw [List.size_toArray, hI.length] at hz; cases hz
        case z1 =>
          intro hz
          rcases one_of h1 with rfl | ⟨p0, rfl⟩
          · rw [List.size_toArray, hI.length] at hz; cases hz
          cases hI with
          | cons _ tp hI2 =>
            cases hI2
            clear hz
            intro v I oI C oC D0 m2 h3 tk3 E3 hv hC1 hx1 F' N' off' ne'
            have off0 := off'
            (try simp only [LCg.Off3, and_true] at off')
            obtain rfl : v = .int p0 tp := (Option.some.inj hv).symm
            have hkr := hin p0 (.head _)
            (try k_fold)
            k_steps
            unfold Mine.Stop
            rename Fr _ _ _ _ => F5
            rename News _ _ _ _ => N5
            rename IsRange _ _ _ _ _ _ _ _ => rg5
            refine Mine.RngEnd.intro F5 N5 rg5 (small_one (by omega) (by omega) (by omega) (by omega)) (rangeSize_nat _ _) [(L' + 1 + 1 + 1, oA2), (L' + 1 + 1, oN), (L' + 1, oT), (D, listOf [.int p0 tp].toArray nn), (Z, listOf #[.int q tq] c0)] (by intro p hp; repeat (first | exact hp | refine List.Mem.tail _ ?_)) off0 (.inr ⟨_, by k_mem, rfl, _, rfl⟩) (by rw [List.length_nil]; simp only [sizeLine]; omega) ?_
            intro zs hz
            have hz2 : IntsAre ([] ++ zs) (Mine.stepT (Mine.lis name) [p0] .lazy) := by
              simp only [Mine.stepT, List.flatMap_cons, List.flatMap_nil, List.append_nil, upR, downR, hll]; exact hz
            exact ⟨rfl, hz2⟩
        case zf =>
          intro ys1 hI1 D1 h6 tk6 F' N' off1
          (try simp only [LCg.Off1, and_true] at off1)
          obtain ⟨u1, u2, u3, u4, u5⟩ := off1
          have u6 := Ne.symm u1
          (try k_fold)
          k_steps
          unfold Mine.Stop
          rename Fr _ _ _ _ => F9
          rename News _ _ _ _ => N9
          rename _ = Data.cell _ => dA9
          refine' ksw_end ⟨_, _, _, D1, ys1, ys1.length⟩ F9 N9 ?hn9 ⟨dA9, ?hd9⟩ ?hk9 ?hr9 ?hp9 ?hm9
          case hk9 => kst_all
          case hn9 => dsimp only; kcf_all
          case hr9 => ksw_same
          case hd9 => exact u6
          case hp9 =>
            refine ⟨todo, _, hI1, ?_, drop_more (l := [46, 42, 63]) ha0 hd0 3 rfl, hres, hgood.2, inR_step .lazy hin, len_step (t := .lazy) hin hnl (.inr h1), fun _ e => u5 e.symm, fun p hp => hsub p (.tail _ hp)⟩
            dsimp only; omega
          case hm9 => exact meas ha0 hlt (by dsimp only; omega)
      | far =>
        have hd1 : (Mine.lis text).drop av.toNat = 46 :: (42 :: tkL todo) := hd0
        have hlt := Mine.drop_lt ha0 hd1
        have hs3 := take_at (j := av + 3) hd1 3 rfl (l := 46 :: 42 :: (tkL todo).take 1) rfl
        have hs2 := take_at (j := av + 2) hd1 2 rfl (l := [46, 42]) rfl
        have hne3 := eqs_no (l := 46 :: 42 :: (tkL todo).take 1) pat3 (by intro h; simp at h)
        have hnez := eqs_no (l := 46 :: 42 :: (tkL todo).take 1) patz (by
          intro h
          have h' : (tkL todo).take 1 = [63] := by simpa using h
          cases hh : tkL todo with
          | nil => rw [hh] at h'; cases h'
          | cons x r =>
            rw [hh] at h'
            have : x = 63 := by simpa using h'
            rw [this] at hh
            exact head_tk todo r hh)
        have heq2 := eqs_yes (l := [46, 42]) pat2 rfl
        have h1 := hgood.1.resolve_left (by decide)
        (try k_fold)
        k_steps
        unfold Mine.Stop
        rename Fr _ _ _ _ => F8
        rename News _ _ _ _ => N8
        refine Mine.Src2.ledger (by rfl) F8 N8 (by k_mem) ?_
        intro g'
        refine rest2_le_one (fun zs => IntsAre zs (Mine.stepT (Mine.lis name) ns .far)) (by rw [List.size_toArray, hI.length]; exact h1) ?z0 ?z1 ?zf
        case z0 =>
          intro hz
          rcases one_of h1 with rfl | ⟨p0, rfl⟩
          · exact .nil
          · rw [List.size_toArray, hI.length] at hz; cases hz
        case z1 =>
          intro hz
          rcases one_of h1 with rfl | ⟨p0, rfl⟩
          · rw [List.size_toArray, hI.length] at hz; cases hz
          cases hI with
          | cons _ tp hI2 =>
            cases hI2
            clear hz
            intro v I oI C oC D0 m2 h3 tk3 E3 hv hC1 hx1 F' N' off' ne'
            have off0 := off'
            (try simp only [LCg.Off3, and_true] at off')
            obtain rfl : v = .int p0 tp := (Option.some.inj hv).symm
            have hkr := hin p0 (.head _)
            (try k_fold)
            k_steps
            unfold Mine.Stop
            rename Fr _ _ _ _ => F5
            rename News _ _ _ _ => N5
            rename IsRange _ _ _ _ _ _ _ _ => rg5
            refine Mine.RngEnd.intro F5 N5 rg5 (small_down (by omega) (by omega) (by omega) (by omega)) (rangeSize_downNat _ _) [(L' + 1 + 1 + 1, oA2), (L' + 1 + 1, oN), (L' + 1, oT), (D, listOf [.int p0 tp].toArray nn), (Z, listOf #[.int q tq] c0)] (by intro p hp; repeat (first | exact hp | refine List.Mem.tail _ ?_)) off0 (.inr ⟨_, by k_mem, rfl, _, rfl⟩) (by rw [List.length_nil]; simp only [sizeLine]; omega) ?_
            intro zs hz
            have hz2 : IntsAre ([] ++ zs) (Mine.stepT (Mine.lis name) [p0] .far) := by
              simp only [Mine.stepT, List.flatMap_cons, List.flatMap_nil, List.append_nil, upR, downR, hll]; exact hz
            exact ⟨rfl, hz2⟩
        case zf =>
          intro ys1 hI1 D1 h6 tk6 F' N' off1
          (try simp only [LCg.Off1, and_true] at off1)
          obtain ⟨u1, u2, u3, u4, u5⟩ := off1
          have u6 := Ne.symm u1
          (try k_fold)
          k_steps
          unfold Mine.Stop
          rename Fr _ _ _ _ => F9
          rename News _ _ _ _ => N9
          rename _ = Data.cell _ => dA9
          refine' ksw_end ⟨_, _, _, D1, ys1, ys1.length⟩ F9 N9 ?hn9 ⟨dA9, ?hd9⟩ ?hk9 ?hr9 ?hp9 ?hm9
          case hk9 => kst_all
          case hn9 => dsimp only; kcf_all
          case hr9 => ksw_same
          case hd9 => exact u6
          case hp9 =>
            refine ⟨todo, _, hI1, ?_, drop_more (l := [46, 42]) ha0 hd0 2 rfl, hres, hgood.2, inR_step .far hin, len_step (t := .far) hin hnl (.inr h1), fun _ e => u5 e.symm, fun p hp => hsub p (.tail _ hp)⟩
            dsimp only; omega
          case hm9 => exact meas ha0 hlt (by dsimp only; omega)
      | grp p =>
        obtain ⟨us, eu, hus⟩ := units_lazy p
        have hd1 : (Mine.lis text).drop av.toNat = 40 :: (63 :: 62 :: (([46, 42, 63] ++ Mine.escL p) ++ (41 :: tkL todo))) := by rw [hd0]; simp [Tk.text]
        have hlt := Mine.drop_lt ha0 hd1
        have hs3 := take_at (j := av + 3) hd1 3 rfl (l := [40, 63, 62]) rfl
        have heq3 := eqs_yes (l := [40, 63, 62]) pat3 rfl
        have hd3 := drop_more (l := [40, 63, 62]) ha0 hd1 3 rfl
        have hd4 : (Mine.lis text).drop (av + 3).toNat = us.flatten ++ 41 :: tkL todo := by rw [hd3, ← eu]; simp
        have hdl : av + 3 + (us.flatten.length : Int) < text.length := by
          have := congrArg List.length hd4
          rw [List.length_drop, ← Mine.length_lis, List.length_append, List.length_cons] at this
          omega
        have hs4 : ((Mine.lis text).drop (av + 3).toNat).take (av + 3 + (us.flatten.length : Int) - (av + 3)).toNat = [46, 42, 63] ++ Mine.escL p := by
          rw [hd4, show (av + 3 + (us.flatten.length : Int) - (av + 3)).toNat = us.flatten.length from by omega, List.take_left, eu]
        have h1 := hgood.1.resolve_left (by simp [Tk.isLit])
        have hLate : Late := .mk
        (try k_fold)
        k_steps
        unfold Mine.Stop
        rename Late => hLate
        clear hLate
        rcases one_of h1 with rfl | ⟨p0, rfl⟩
        · cases hI
          (try k_fold)
          k_steps
          rename_i lf _ lf1 _ _ _ _ _ _ _ _ _ _ _ _ _
          unfold Mine.Stop
          rename Fr _ _ _ _ => F9
          rename News _ _ _ _ => N9
          rename _ = Data.cell _ => dA9
          refine' ksw_end ⟨_, _, _, lf, [], 0⟩ F9 N9 ?hn9 ⟨dA9, ?hd9⟩ ?hk9 ?hr9 ?hp9 ?hm9
          case hk9 => kst_all
          case hn9 => dsimp only; kcf_all
          case hr9 => ksw_same
          case hd9 => dsimp only; omega
          case hp9 =>
            refine ⟨todo, _, .nil, ?_, ?_, hres, hgood.2, inR_step (.grp p) hin, len_step (t := .grp p) hin hnl (.inr h1), fun _ => ?_, fun p hp => hsub p (.tail _ hp)⟩
            · dsimp only; omega
            · dsimp only; rw [Int.add_assoc]; exact drop_more (l := us.flatten ++ [41]) (by omega) (by rw [hd4]; simp) _ (by simp)
            · dsimp only; omega
          case hm9 => exact meas ha0 hlt (by dsimp only; omega)
        · cases hI with
          | cons _ tp hI2 =>
            cases hI2
            (try k_fold)
            k_steps
            unfold Mine.Stop
            rename_i lf _ lf1 _ _ iA _ itO _ _ _ _ _ _ lp _ _ _ _
            rename News _ _ _ _ => N9
            have hkr := hin p0 (.head _)
            refine' Mine.use_newX (Hin p (hsub p (.head _)) _ _ _ p0 tp _ hkr.1 (by omega)) ?k1 ?k2 N9 ?k4 ?k5 ?kK ?kd ?ku ?kc ?_
            case k1 => k_asm
            case k2 => k_asm
            case k4 => k_asm
            case k5 => k_asm
            case kK => exact rfl
            case kd => ktr_room
            case ku => ktr_units
            case kc => intro z hz; rw [List.mem_singleton.mp hz]; k_mem
            intro D2 o2 h5 tk5 hO F' N' n'
            obtain ⟨ys2, c2, rfl, hI2⟩ := hO
            replace n' := Mine.off1_of n'
            simp only [LCg.Off1, and_true] at n'
            obtain ⟨u1, u2, u3, u4, u5, u6, u7, u8⟩ := n'
            have v2 := Ne.symm u2
            have v3 := Ne.symm u3
            have v4 := Ne.symm u4
            have hl2 := Mine.len_runL (Mine.lis name) p (upR (Mine.lis name) p0)
            rw [Mine.len_upR] at hl2
            generalize hr2 : runL (Mine.lis name) p (upR (Mine.lis name) p0) = ms2 at hI2 hl2
            (try k_fold)
            k_steps
            rename IntsAre _ (List.take _ _) => hW
            cases ms2 with
            | nil =>
              cases hW
              (try k_fold)
              k_steps
              unfold Mine.Stop
              rename Fr _ _ _ _ => F9
              rename News _ _ _ _ => N9
              rename _ = Data.cell _ => dA9
              refine' ksw_end ⟨_, _, _, lf, [], 0⟩ F9 N9 ?hn9 ⟨dA9, ?hd9⟩ ?hk9 ?hr9 ?hp9 ?hm9
              case hk9 => kst_all
              case hn9 => dsimp only; kcf_all
              case hr9 => ksw_same
              case hd9 => dsimp only; omega
              case hp9 =>
                refine ⟨todo, _, (by simp only [Mine.stepT, List.flatMap_cons, List.flatMap_nil, List.append_nil, hr2]; exact .nil), ?_, ?_, hres, hgood.2, inR_step (.grp p) hin, len_step (t := .grp p) hin hnl (.inr h1), fun _ => ?_, fun p hp => hsub p (.tail _ hp)⟩
                · dsimp only; omega
                · dsimp only; rw [Int.add_assoc]; exact drop_more (l := us.flatten ++ [41]) (by omega) (by rw [hd4]; simp) _ (by simp)
                · dsimp only; omega
              case hm9 => exact meas ha0 hlt (by dsimp only; omega)
            | cons x r =>
              cases hW with
              | cons _ tx hW2 =>
                cases hW2
                (try k_fold)
                k_steps
                unfold Mine.Stop
                rename Fr _ _ _ _ => F9
                rename News _ _ _ _ => N9
                rename _ = Data.cell _ => dA9
                refine' ksw_end ⟨_, _, _, lf, [.int x tx], 1⟩ F9 N9 ?hn9 ⟨dA9, ?hd9⟩ ?hk9 ?hr9 ?hp9 ?hm9
                case hk9 => kst_all
                case hn9 => dsimp only; kcf_all
                case hr9 => ksw_same
                case hd9 => dsimp only; omega
                case hp9 =>
                  refine ⟨todo, _, (by simp only [Mine.stepT, List.flatMap_cons, List.flatMap_nil, List.append_nil, hr2]; exact .cons _ _ .nil), ?_, ?_, hres, hgood.2, inR_step (.grp p) hin, len_step (t := .grp p) hin hnl (.inr h1), fun _ => ?_, fun p hp => hsub p (.tail _ hp)⟩
                  · dsimp only; omega
                  · dsimp only; rw [Int.add_assoc]; exact drop_more (l := us.flatten ++ [41]) (by omega) (by rw [hd4]; simp) _ (by simp)
                  · dsimp only; omega
                case hm9 => exact meas ha0 hlt (by dsimp only; omega)
end Mine
end

section
namespace Mine
theorem ways_inner (w : World) (mean : ExcName → Option Value) (mg mb : Str → Option Value) (name : Str) (p : List Nat) (hp : p.length ≤ 400) (hnm : name.length ≤ 100) (t1 t2 : Tok) (Z : Addr) (q : Int) (tq : Tok) (c0 : Nat) (hq0 : 0 ≤ q) (hq1 : q ≤ name.length) :
    Mine.PureFnX 2 Challenge.rw_kn0090_05.row.prog w (hd.heap_39 w.params) hd.view_39 (looseW hd.view_39 [Str.ofString "_special_chars_map"]) mean mg mb 45 [.str (Mine.ofL ([46, 42, 63] ++ Mine.escL p)) t1, .str name t2, .ref Z] [(Z, listOf #[.int q tq] c0)] (Mine.NewX [(Z, listOf #[.int q tq] c0)] (fun o => ∃ ys c, o = listOf ys.toArray c ∧ IntsAre ys (runL (Mine.lis name) p (upR (Mine.lis name) q)))) := by
  have hlen : (Mine.ofL ([46, 42, 63] ++ Mine.escL p)).length ≤ 1000 := by
    have := Mine.escL_le p
    rw [Mine.length_lis, Mine.lis_ofL, List.length_append, List.length_cons, List.length_cons, List.length_cons, List.length_nil]; omega
  have := ways_walk 0 w mean mg mb (Mine.ofL ([46, 42, 63] ++ Mine.escL p)) name t1 t2 Z q tq c0 (.lazy :: p.map .lit) (by rw [Mine.lis_ofL, tk_inner]) (by simp) (inner_good _ _ _) hq0 hq1 hlen hnm (fun r hr => by
    exfalso
    rcases List.mem_cons.mp hr with h | h
    · cases h
    · obtain ⟨c, _, h⟩ := List.mem_map.mp h; cases h)
  rw [runT_inner] at this
  exact this
theorem mem_toks {p0 last p : List Nat} {mids : List (List Nat)} (h : Tk.grp p ∈ toks5 p0 mids last) : p ∈ mids := by
  unfold toks5 at h
  simp only [List.mem_append, List.mem_cons, List.mem_map] at h
  rcases h with ⟨c, _, h⟩ | ⟨q, hq, h⟩ | h | ⟨c, _, h⟩
  · cases h
  · cases h; exact hq
  · cases h
  · cases h
theorem mid_le {p : List Nat} {mids : List (List Nat)} (h : p ∈ mids) : p.length ≤ (starL mids).length := by
  obtain ⟨a, b, rfl⟩ := List.append_of_mem h
  simp [starL]; omega
/-- the walk over a path's pattern -/
theorem ways_outer (w : World) (mean : ExcName → Option Value) (mg mb : Str → Option Value) (path name : Str) (h : 42 ∈ Mine.lis path) (hp : path.length ≤ 64) (hnm : name.length ≤ 100) (t1 t2 : Tok) (Z : Addr) (tq : Tok) (c0 : Nat) :
    Mine.PureFnX 4 Challenge.rw_kn0090_05.row.prog w (hd.heap_39 w.params) hd.view_39 (looseW hd.view_39 [Str.ofString "_special_chars_map"]) mean mg mb 45 [.str (Mine.tpS path) t1, .str name t2, .ref Z] [(Z, listOf #[.int 0 tq] c0)] (Mine.NewX [(Z, listOf #[.int 0 tq] c0)] (fun o => ∃ ys c, o = listOf ys.toArray c ∧ IntsAre ys (placesF (Mine.lis name) (Mine.lis path) [0]).reverse)) := by
  obtain ⟨p0, mids, last, e1, e2, h0, hm, hl, hn⟩ := Mine.tpS_yes h
  have hpl : Mine.lis path = p0 ++ starL mids ++ 42 :: last := by rw [e2, Mine.lis_ofL]
  have hml : (starL mids).length ≤ 64 := by
    have := congrArg List.length hpl
    rw [← Mine.length_lis, List.length_append, List.length_append] at this
    omega
  have := ways_walk 2 w mean mg mb (Mine.tpS path) name t1 t2 Z 0 tq c0 (toks5 p0 mids last) (by rw [e1, toks_text]) (by simp [toks5]) (toks_good _ _ _ _ _) (Int.le_refl 0) (by omega) (by omega) hnm (fun p hp t1 t2 Z q tq c0 hq0 hq1 => ways_inner w mean mg mb name p (by have := mid_le (mem_toks hp); omega) hnm t1 t2 Z q tq c0 hq0 hq1)
  rw [toks_run h0 hm hl, ← hpl] at this
  exact this
end Mine
end

section
namespace Mine
local macro_rules | `(tactic| walk_at "call ref") => `(tactic| (k_here; first | (k_dflt (refine' Mine.use_pureS (tp_pure _ _ _ _ _ _ ?a0) ?k1 ?k2 ?k3 ?k4 ?k5 ?kK ?kd ?ku ?_; (case a0 => omega); (case k1 => k_asm); (case k2 => k_asm); (case k3 => k_asm); (case k4 => k_asm); (case k5 => k_asm); (case kK => exact rfl); (case kd => ktr_room); (case ku => ktr_units); k_whole); intro t' h' tk' F' N') | refine Mine.stop ?_))
local macro_rules | `(tactic| walk_at "exec For Name Name cons nil") => `(tactic| (k_here; refine Mine.stop ?_))
local macro_rules | `(tactic| walk_at "pyIter ref") => `(tactic| (k_here; refine Mine.stop ?_))
local macro_rules | `(tactic| walk_at "pyIter str") => `(tactic| (k_here; (with_reducible show wpAny _ _ (pyIter (Value.str _ _)) (fun it s₂ => TurnsAt _ _ _ _ _ _ _ _ _ it s₂) _ _); refine Mine.stop ?_))
local macro_rules | `(tactic| walk_at "ite") => `(tactic| (k_here; k_dflt (first | refine Mine.ite_no (by with_reducible assumption) ?_ | refine Mine.ite_yes (by with_reducible assumption) ?_)))
local macro_rules | `(tactic| walk_at "exec If") => `(tactic| ((with_reducible show wpAny _ _ (exec (Stmt.If _ [Stmt.Assign _ _ _] [] _) _) _ _ _); refine Mine.stop ?_))
local macro_rules | `(tactic| walk_at "UnrPostW") => `(tactic| (dsimp only [UnrPostW]))
local macro_rules | `(tactic| walk_at "UnrEndW") => `(tactic| (refine Mine.stop ?_))
local macro_rules | `(tactic| walk_at "compareOp NotEq ref ref") => `(tactic| (refine Mine.stop ?_))
local macro_rules | `(tactic| walk_at "CompSrcT") => `(tactic| ((with_reducible show LCt.CompSrcT _ _ _ _ _ _ _ _ _ _ _ _ _ (Value.ref _) _); refine Mine.stop ?_))
local macro_rules | `(tactic| walk_at "CompEnd") => `(tactic| (refine Mine.stop ?_))
local macro_rules | `(tactic| walk_at "call type:list") => `(tactic| (refine Mine.stop ?_))
local macro_rules | `(tactic| walk_at "subscriptTail Name Slice str ref") => `(tactic| (k_here; (with_reducible show wpAny _ _ (subscriptTail _ (Expr.Slice (some _) (some _) none _) _ _) _ _ _); (with_reducible rename Fr _ _ _ _ => F'); (with_reducible rename News _ _ _ _ => N'); k_dflt (refine' Mine.slice_ss (s := ⟨_, _, _, _, _⟩) F' N' ?a ?b ?c ?l ?_ ?d ?e; (case a => omega); (case b => omega); (case c => (simp only [sizeLine]; omega)); (case l => assumption); (case d => with_unfolding_all rfl); (case e => intro _; with_unfolding_all rfl); k_whole); intro h' t' k' F' N'))
local macro_rules | `(tactic| walk_at "call builtin:sorted") => `(tactic| (refine Mine.stop ?_))
local macro_rules | `(tactic| walk_at "InvEndN") => `(tactic| (refine Mine.stop ?_))
local macro_rules | `(tactic| walk_at "compareOp Eq ref ref") => `(tactic| (refine Mine.stop ?_))
set_option maxHeartbeats 2000000 in
theorem law5 : PySem.Challenge.rw_kn0090_05.Holds := by
  refine hd ?_
  k_go0; (all_goals try k_fold); k_steps
  unfold Mine.Stop
  rename_i oS _ _ _ _ hb hc oN FN NN dN hdp htk ta ua va rg F2 N2 hg
  rename ¬ (_ < _) => hlen
  with_unfolding_all refine' kst_range (σ := La5) (fun c => [(_, oS), (_, c.oN)]) (fun c => [(Str.ofString "path", .str c.path c.tp)]) (fun c => c.oN.data = .cell (some (.str c.name c.tn))) [] (fun pre c => c.path.length ≤ pre.length ∧ 2 * c.name.length ≤ pre.length) ⟨Str.ofString "", _, oN, Str.ofString "", _⟩ (by rfl) rg (small_one (by omega) (by omega) (by omega) (by omega)) (rangeSize_nat _ _) F2 N2 dN ?hk ?hp ?turn ?done
  case hk => kst_all
  case hp => exact ⟨by dsimp only; rw [Mine.len_none]; exact Nat.zero_le _, by dsimp only; rw [Mine.len_none]; exact Nat.zero_le _⟩
  case turn =>
    rintro ⟨path, tp, oN1, name, tn⟩ pre k t u h tk own hk1 hk2 hoff hN ⟨hp1, hp2⟩ Ft Nt
    dsimp only at hN hp1 hp2 Ft Nt
    simp only [kstB] at Ft
    (try k_fold)
    k_steps
    · unfold Mine.Stop
      rename Fr _ _ _ _ => F9
      rename News _ _ _ _ => N9
      refine' kst_end ⟨_, _, oN1, name, tn⟩ F9 N9 ?hn ?ho rfl hN ?hk ?hr ?hp
      case hk => kst_all
      case hn => intro p hp; simp only [List.mem_cons, List.not_mem_nil, or_false] at hp; rcases hp with rfl | rfl <;> simp
      case ho => intro p hp; simp [hp]
      case hr => kst_same
      case hp => exact ⟨by dsimp only; rw [Mine.strLen_append, List.length_append, Mine.itemLen _ _ (Mine.in_a7 _)]; exact Nat.add_le_add hp1 (Nat.le_refl 1), by dsimp only; rw [List.length_append]; exact Nat.le_succ_of_le hp2⟩
    · unfold Mine.Stop
      rename Fr _ _ _ _ => F9
      rename News _ _ _ _ => N9
      rename _ = Data.cell _ => dA9
      refine' kst_end ⟨path, _, _, _, _⟩ F9 N9 ?hn ?ho rfl dA9 ?hk ?hr ?hp
      case hk => kst_all
      case hn => intro p hp; simp only [List.mem_cons, List.not_mem_nil, or_false] at hp; rcases hp with rfl | rfl <;> simp
      case ho => intro p hp; simp [hp]
      case hr => kst_same
      case hp => exact ⟨by dsimp only; rw [List.length_append]; exact Nat.le_succ_of_le hp1, by dsimp only; rw [Mine.strLen_append, List.length_append, Mine.itemLen _ _ (Mine.in_a6 _), List.length_singleton]; rename (Int.fmod k 2 ≠ 0) => hodd; rw [Int.fmod_eq_emod_of_nonneg _ (by decide)] at hodd; omega⟩
  case done =>
    rintro ⟨path, tp, oN1, name, tn⟩ u h tk hN ⟨hp1, hp2⟩ Ft Nt
    dsimp only at hN hp1 hp2 Ft Nt
    simp only [kstB] at Ft
    rw [rangeKs_length] at hp1 hp2
    have hp63 : path.length ≤ 63 := by omega
    have hn63 : name.length ≤ 31 := by omega
    (try k_fold)
    k_steps
    unfold Mine.Stop
    rename Shared => sB
    refine wpAny_mono (Q := fun f s' => Mine.Held (f = .next ∧ ∃ (path2 : Str) (tp2 : Tok) (u2 : Str → Option Value) (h' : Heap) (tk' : Nat), s' = { sB with heap := h', toks := tk' } ∧ Fr sB.heap sB.heap.objs.size h' (fun z => if z = Str.ofString "path" then some (.str path2 tp2) else u2 z) ∧ News sB.heap sB.heap.objs.size h' [(sB.heap.objs.size + 1 + 1, oS), (sB.heap.objs.size + 1, oN1)] ∧ 42 ∈ Mine.lis path2 ∧ path2.length ≤ 64)) ?_ ?_ (fun _ _ x => x)
    · refine wpAny_If ?_
      k_steps
      unfold Mine.Stop
      rename CarriedAll _ _ => hC
      rename News _ _ _ _ => N9
      by_cases hs : 42 ∈ Mine.lis path
      · refine Mine.eq_some (by is_list) (by is_list) (by ke_room) (Mine.stars_some hC hs) ?_
        k_steps
        refine Mine.held ?_
        rename Fr _ _ _ _ => F8
        rename News _ _ _ _ => N8
        refine ⟨rfl, path, tp, _, _, _, rfl, Mine.fr_at (by rfl) F8, fun p hp => N8 p ?_, hs, by omega⟩
        simp only [List.mem_cons, List.not_mem_nil, or_false] at hp; rcases hp with rfl | rfl <;> simp
      · refine Mine.eq_none (by is_list) (by is_list) (by ke_room) (Mine.stars_none hC hs) ?_
        k_steps
        refine Mine.held ?_
        rename Fr _ _ _ _ => F8
        rename News _ _ _ _ => N8
        obtain ⟨hs2, hl2⟩ := Mine.put_star (path := path) (by omega)
        refine ⟨rfl, _, _, _, _, _, rfl, F8, fun p hp => N8 p ?_, hs2, hl2⟩
        simp only [List.mem_cons, List.not_mem_nil, or_false] at hp; rcases hp with rfl | rfl <;> simp
    · intro f s8 hS8
      obtain ⟨rfl, path2, tp2, u2, h8, tk8, rfl, F8, N8, hs2, hl2⟩ := Mine.of_held hS8
      dsimp only
      (try k_fold)
      k_steps
      unfold Mine.Stop
      rename Fr _ _ _ _ => F3
      rename News _ _ _ _ => N3
      refine' Mine.use_newX (ways_outer _ _ _ _ path2 name hs2 hl2 (by omega) _ _ _ _ _) ?k1 F3 N3 ?k4 ?k5 ?kK ?kd ?ku ?kc ?_
      case k1 => k_asm
      case k4 => k_asm
      case k5 => k_asm
      case kK => exact rfl
      case kd => ktr_room
      case ku => ktr_units
      case kc => intro z hz; rw [List.mem_singleton.mp hz]; k_mem
      intro D o h5 tk5 hO F' N' n'
      obtain ⟨ys, c, rfl, hI⟩ := hO
      replace n' := Mine.off1_of n'
      simp only [LCg.Off1, and_true] at n'
      obtain ⟨n1', n2', n3'⟩ := n'
      have m2' := Ne.symm n2'
      have m3' := Ne.symm n3'
      (try k_fold)
      k_steps
      unfold Mine.Stop
      with_unfolding_all refine' For_turns (by assumption) ?_
      k_steps
      unfold Mine.Stop
      rename_i _ tk0 l0 _ l1 _ F4 N4
      with_unfolding_all refine' Mine.iter_strTurns (news := [(l0, listOf [.int 0 tk0].toArray 0), (D, listOf ys.toArray c), (sB.heap.objs.size + 1 + 1, oS), (sB.heap.objs.size + 1, oN1)]) (by intro _ _; rfl) (by rfl) F4 ?nn ?_
      case nn => intro p hp; simp only [List.mem_cons, List.not_mem_nil, or_false] at hp; rcases hp with rfl | rfl | rfl | rfl <;> (refine N4 _ ?_; simp)
      intro I Ty hI1
      simp only [List.forall_mem_cons, List.forall_mem_nil, and_true] at hI1
      obtain ⟨hI2, hI3, hI4, hI5, _⟩ := hI1
      k_lt2 hI2; k_lt2 hI3; k_lt2 hI4; k_lt2 hI5
      with_unfolding_all refine' Mine.items_ind (fun c => Itm.tok fun u => .str (Mine.ofL [c]) u) (fun done m nx => ∃ (D2 : Addr) (zs : List Value) (n2 : Nat) (oS2 : Obj) (d2 : Option Value) (u2 : Str → Option Value), m = (fun z => if z = Str.ofString "places" then some (.ref D2) else if z = Str.ofString "ways" then some (.ref D) else u2 z) ∧ nx = [(D2, listOf zs.toArray n2), (D, listOf ys.toArray c), (sB.heap.objs.size + 1 + 1, oS2), (sB.heap.objs.size + 1, oN1)] ∧ IntsAre zs (placesF (Mine.lis name) done [0]) ∧ oS2.data = .cell d2 ∧ @Ne Nat D2 (sB.heap.objs.size + 1 + 1)) (Mine.lis path2) ?turn4 ?fin4 _ [] _ _ rfl ?start4
      case start4 => exact ⟨l0, [.int 0 tk0], 0, oS, _, _, rfl, rfl, .cons _ _ .nil, by assumption, by omega⟩
      case turn4 =>
        rintro done c1 post m nx v h3 tk3 hsp ⟨tv, rfl⟩ ⟨D2, zs, n2, oS2, d2, u2, rfl, rfl, hz, hd2, hne⟩ F5
        ktu_objs
        have hIn := Mine.inR_places (name := Mine.lis name) done [0] (by intro k hk; rw [List.mem_singleton.mp hk]; omega)
        have hLn := Mine.len_places (name := Mine.lis name) done [0] (by intro k hk; rw [List.mem_singleton.mp hk]; omega) (by simp)
        have hAs := Mine.asc_places (Mine.lis name) done [0] (by unfold Asc; simp)
        have hst : placesF (Mine.lis name) (done ++ [c1]) [0] = placeS (Mine.lis name) (placesF (Mine.lis name) done [0]) c1 := by rw [Mine.places_append]; rfl
        have hll : (Mine.lis name).length = name.length := (Mine.length_lis name).symm
        generalize placesF (Mine.lis name) done [0] = ps at hz hIn hLn hAs hst
        by_cases hc : c1 = 42
        · have hb := Mine.one_eq (c := c1) (y := Str.ofString "*") (by rw [hc]; exact Mine.star_is)
          (try k_fold)
          k_steps
          unfold Mine.Stop
          rename News _ _ _ _ => N6
          cases ps with
          | nil =>
            cases hz
            refine Mine.ne5_none (by is_list) (by is_list) (by ke_room) rfl ?_
            k_steps
            rename_i D3 _ l9 _ FE NE
            unfold Mine.Stop
            rename _ = Data.cell _ => dS
            refine ⟨_, _, _, [(D3, listOf ([] : List Value).toArray 0), (D, listOf ys.toArray c), (sB.heap.objs.size + 1 + 1, _), (sB.heap.objs.size + 1, oN1)], rfl, FE, ?n1, ?n2, trivial, D3, ([] : List Value), 0, _, _, u2, ?f1, rfl, ?hz, dS, ?ne⟩
            case n1 => refine Mine.news_sub NE ?_; (try dsimp only [List.cons_append, List.nil_append]); kcf_all
            case n2 => intro p hp q hq; simp only [List.mem_cons, List.not_mem_nil, or_false] at hp hq; rcases hp with rfl | rfl | rfl | rfl <;> subst hq <;> (show @Ne Nat _ _; dsimp only; omega)
            case f1 => funext z; by_cases h : z = Str.ofString "places" <;> simp [h]
            case ne => omega
            case hz => rw [hst]; unfold placeS; rw [if_pos hc]; exact .nil
          | cons q0 r0 =>
            cases hz with
            | @cons _ tq5 zs5 _ hz5 =>
              refine Mine.ne5_some (by is_list) (by is_list) (by ke_room) (by simp) ?_
              k_steps
              unfold Mine.Stop
              rename (_ = q0 ∨ _) => hM1
              rename (_ ≤ q0 ∧ _) => hM2
              have hM3 := Mine.min_first hAs hM1 hM2.1
              subst hM3
              have hq0 := hIn _ (.head _)
              rename Fr _ _ _ _ => F7
              rename News _ _ _ _ => N7
              rename IsRange _ _ _ _ _ _ _ _ => rg7
              refine kll_range rfl F7 N7 rg7 (small_one (by omega) (by omega) (by omega) (by omega)) (rangeSize_nat _ _) (by omega) ?_
              intro D3 us3 c3 h6 tk6 F8 N8 l8 hus
              k_lt l8
              rw [Mine.rangeKs_is] at hus
              k_steps
              unfold Mine.Stop
              rename Fr _ _ _ _ => FE
              rename News _ _ _ _ => NE
              rename _ = Data.cell _ => dS
              refine ⟨_, _, _, [(D3, listOf us3.toArray c3), (D, listOf ys.toArray c), (sB.heap.objs.size + 1 + 1, _), (sB.heap.objs.size + 1, oN1)], rfl, FE, ?n1, ?n2, trivial, D3, us3, c3, _, _, u2, ?f1, rfl, ?hz, dS, ?ne⟩
              case n1 => refine Mine.news_sub NE ?_; (try dsimp only [List.cons_append, List.nil_append]); kcf_all
              case n2 => intro p hp q hq; simp only [List.mem_cons, List.not_mem_nil, or_false] at hp hq; rcases hp with rfl | rfl | rfl | rfl <;> subst hq <;> (show @Ne Nat _ _; dsimp only; omega)
              case f1 => funext z; by_cases h : z = Str.ofString "places" <;> simp [h]
              case ne => omega
              case hz => rw [hst]; unfold placeS; rw [if_pos hc]; simp only [Mine.upR, hll]; exact hus
        · have hb := Mine.one_ne (c := c1) Mine.star_is hc
          (try k_fold)
          k_steps
          unfold Mine.Stop
          rename Fr _ _ _ _ => F7
          rename News _ _ _ _ => N7
          refine LCt.CompSrcT.ledger (by rfl) F7 N7 (by k_mem) (by rw [List.size_toArray, hz.length]; simp only [sizeLine]; omega) ?_
          intro g'
          refine Mine.filter_ints (bLit (Mine.lis name) c1) (· + 1) hz ?tu ?fi
          case tu =>
            intro k5 tk1 I5 oI C oC D1 m2 ys1 h1 tk2 E1 hk1 hC1 hx1 F' N' off' ne'
            have off0 := off'
            (try simp only [LCg.Off3, and_true] at off')
            have hkr := hIn k5 hk1
            have hq1 := take_at (text := name) (k := k5) (j := k5 + 1) rfl 1 rfl rfl
            have hbl : bLit (Mine.lis name) c1 k5 = decide (((Mine.lis name).drop k5.toNat).take 1 = [c1]) := rfl
            generalize ((Mine.lis name).drop k5.toNat).take 1 = ln at hq1 hbl
            (try k_fold)
            k_steps
            · unfold Mine.Stop
              rename Fr _ _ _ _ => F6
              rename News _ _ _ _ => N6
              exact LCg.CompEnd.intro F6 N6 _ (fun p hp => hp) off0 (.inr ⟨_, by k_mem, rfl, _, rfl⟩) ⟨blit_yes hbl (by assumption), rfl, _, rfl⟩
            · unfold Mine.Stop
              rename Fr _ _ _ _ => F6
              rename News _ _ _ _ => N6
              exact LCg.CompEnd.intro F6 N6 _ (fun p hp => hp) off0 (.inr ⟨_, by k_mem, rfl, _, rfl⟩) ⟨blit_no hbl (by assumption), rfl⟩
          case fi =>
            intro ys1 hI1 D3 h1 tk1 F' N' off1
            (try simp only [LCg.Off1, and_true] at off1)
            obtain ⟨q1, q2, q3, q4, q5⟩ := off1
            have r1 := Ne.symm q1
            have r4 := Ne.symm q4
            have r5 := Ne.symm q5
            (try k_fold)
            k_steps
            unfold Mine.Stop
            rename Fr _ _ _ _ => FE
            rename News _ _ _ _ => NE
            rename _ = Data.cell _ => dS
            refine ⟨_, _, _, [(D3, listOf ys1.toArray ys1.length), (D, listOf ys.toArray c), (sB.heap.objs.size + 1 + 1, _), (sB.heap.objs.size + 1, oN1)], rfl, FE, ?n1, ?n2, trivial, D3, ys1, ys1.length, _, _, u2, ?f1, rfl, ?hz, dS, ?ne⟩
            case n1 => refine Mine.news_sub NE ?_; (try dsimp only [List.cons_append, List.nil_append]); kcf_all
            case n2 => intro p hp q hq; simp only [List.mem_cons, List.not_mem_nil, or_false] at hp hq; rcases hp with rfl | rfl | rfl | rfl <;> subst hq <;> (show @Ne Nat _ _; dsimp only; omega)
            case f1 => funext z; by_cases h : z = Str.ofString "places" <;> simp [h]
            case ne => omega
            case hz => rw [hst]; unfold placeS; rw [if_neg hc]; exact hI1
      case fin4 =>
        rintro m nx h3 tk3 ⟨D2, zs, n2, oS2, d2, u2, rfl, rfl, hz, hd2, hne⟩ F5 N5
        have hLn := Mine.len_places (name := Mine.lis name) (Mine.lis path2) [0] (by intro k hk; rw [List.mem_singleton.mp hk]; omega) (by simp)
        have hAs := Mine.asc_places (Mine.lis name) (Mine.lis path2) [0] (by unfold Asc; simp)
        have hll : (Mine.lis name).length = name.length := (Mine.length_lis name).symm
        have hRl : (placesF (Mine.lis name) (Mine.lis path2) [0]).reverse.length = (placesF (Mine.lis name) (Mine.lis path2) [0]).length := List.length_reverse
        have hFL := Mine.first_last (placesF (Mine.lis name) (Mine.lis path2) [0])
        have hSo := fun ns => @Mine.sorted_is ns (placesF (Mine.lis name) (Mine.lis path2) [0])
        generalize placesF (Mine.lis name) (Mine.lis path2) [0] = ps at hz hI hLn hAs hRl hFL hSo
        generalize ps.reverse = qs at hI hRl hFL hSo
        (try k_fold)
        k_steps
        unfold Mine.Stop
        rename Fr _ _ _ _ => F7
        rename News _ _ _ _ => N7
        refine sorted_N F7 N7 (by is_list) hI (by rw [hI.length]; omega) ?_
        intro h6 vs6 ns6 e6 F8 N8 hI6 hp6 hs6
        have e6 := hSo ns6 hp6 hs6 hAs
        (try k_fold)
        k_steps
        unfold Mine.Stop
        rename Fr _ _ _ _ => F9
        rename News _ _ _ _ => N9
        refine Mine.ne5_same (by is_list) (by is_list) hI6 hz e6 (by ke_room) ?_
        k_steps
        unfold Mine.Stop
        rename IntsAre _ (List.take 1 _) => hA9
        rename IntsAre _ (List.drop _ _) => hB9
        rename News _ _ _ _ => NZ
        refine Mine.eq5_same (by is_list) (by is_list) hA9 hB9 hFL (by ke_room) ?_
        k_steps
end Mine
open Mine

theorem PySem.Challenge.cw_kn0090_05_holds : PySem.Challenge.rw_kn0090_05.Holds := by
  exact law5
end

