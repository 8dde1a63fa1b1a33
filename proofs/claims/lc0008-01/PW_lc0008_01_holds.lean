import PyProof.Rows.All
import Wide.All
import OpenK.AllK
import Wide.FinOn
import PySem.Challenge.RW_lc0008_01
set_option Elab.async false
set_option maxRecDepth 100000
set_option rowWalk.seconds 0
set_option compiler.extract_closed false
section
open PySem PySem.W PySem.Calls PyProof.Rows PySem.W.KBw
set_option maxHeartbeats 4000000
namespace Mine

section
variable {prog : Program} {w : World} {A : Around} {E : Value → Shared → Prop} {s : Shared} {b : Array UInt8} {t : Tok}
theorem nextOf_bytes_item {it : Addr} {i : Nat} {c : UInt8} {Q : Value → Shared → Prop} (hit : IsBytesIter s.heap it b t i) (hx : b[i]? = some c)
    (hQ : ∀ h', IsBytesIter h' it b t (i + 1) → Heap.SameBut it s.heap h' → Q (.int (c.toNat : Int) s.toks) { s with heap := h', toks := s.toks + 1 }) :
    wpAny (model prog w) A (Builtin.SmallTypes.nextOf (.ref it)) Q E s := by
  obtain ⟨o, ho, hc, hd⟩ := id hit
  unfold Builtin.SmallTypes.nextOf
  refine wpAny_bind (wpAny_callSpecial?_slot (name := PySem.Str.ofString "__next__") (iter_typeIs hit) slot_next
    (wpAny_call_entry slot_next (iter_typeIs hit) entry_next ?_ (args_next _)))
  show wpAny _ _ (field (.ref it) 0 >>= _) _ _ s
  refine wpAny_bind (wpAny_field ho hd (x := .bytes b t) rfl ?_)
  show wpAny _ _ (if (Value.bytes b t == Value.none) = true then _ else _) _ _ s
  rw [if_neg (show ¬ ((Value.bytes b t == Value.none) = true) from Bool.false_ne_true)]
  show wpAny _ _ (field (.ref it) 1 >>= _) _ _ s
  refine wpAny_bind (wpAny_field ho hd (x := .int i 0) rfl ?_)
  refine wpAny_bind (wpAny_of_eq (a := b) rfl ?_)
  simp only [Int.toNat_natCast, hx]
  refine wpAny_bind (wpAny_setField ho hd (by simp) (wpAny_bind (wpAny_mkInt (wpAny_pure ⟨_, rfl, wpAny_pure (hQ _ ?_ (Heap.SameBut.update ..))⟩))))
  exact ⟨_, Heap.get?_update_self _ ho (Obj.isFreed_of_fields (Obj.data_mapFields hd _)), (Obj.cls_mapFields ..).trans hc, by
    rw [Obj.data_mapFields hd]; simp [rawInt]⟩

theorem nextOf_bytes_end {it : Addr} {i : Nat} {Q : Value → Shared → Prop} (hh : A.handled = none) (hit : IsBytesIter s.heap it b t i) (hx : b[i]? = none)
    (hE : ∀ h' e, Heap.ExtBut it s.heap h' → (∃ o, h'.get? e = some o ∧ o.cls = .type "StopIteration") → E (.ref e) { s with heap := h' }) :
    wpAny (model prog w) A (Builtin.SmallTypes.nextOf (.ref it)) Q E s := by
  obtain ⟨o, ho, hc, hd⟩ := id hit
  unfold Builtin.SmallTypes.nextOf
  refine wpAny_bind (wpAny_callSpecial?_slot (name := PySem.Str.ofString "__next__") (iter_typeIs hit) slot_next
    (wpAny_call_entry slot_next (iter_typeIs hit) entry_next ?_ (args_next _)))
  show wpAny _ _ (field (.ref it) 0 >>= _) _ _ s
  refine wpAny_bind (wpAny_field ho hd (x := .bytes b t) rfl ?_)
  show wpAny _ _ (if (Value.bytes b t == Value.none) = true then _ else _) _ _ s
  rw [if_neg (show ¬ ((Value.bytes b t == Value.none) = true) from Bool.false_ne_true)]
  show wpAny _ _ (field (.ref it) 1 >>= _) _ _ s
  refine wpAny_bind (wpAny_field ho hd (x := .int i 0) rfl ?_)
  refine wpAny_bind (wpAny_of_eq (a := b) rfl ?_)
  simp only [Int.toNat_natCast, hx]
  refine wpAny_bind (wpAny_rule (wpAny_bind (wpAny_setField ho hd (by simp) ?_)))
  show wpAny _ _ (newExc (.type "StopIteration") [] >>= _) _ _ _
  refine wpAny_bind ?_
  simp only [newExc, newTuple]
  refine wpAny_bind (wpAny_newObj_type ?_ (by size_fits))
  refine wpAny_bind (m := firstArgMember _ _) (wpAny_of_eq (a := Value.none) (by first | rfl | (simp only [firstArgMember]; rfl)) ?_)
  refine wpAny_newObj_type ?_ (by size_fits)
  simp only [raiseNew]
  refine wpAny_bind (wpAny_handled ?_)
  rw [show A.in1.handled = none from hh]
  refine wpAny_bind (wpAny_pure (wpAny_throw ?_))
  exact hE _ _ (((Heap.SameBut.update ..).extBut.push _).push _) ⟨_, Heap.get?_push_size _ rfl, rfl⟩
end

theorem draws_bytes {prog : Program} {w : World} {A : Around} (hh : A.handled = none) (it : Addr) (b : Array UInt8) (t : Tok) :
    Draws prog w A it [it] b.size (fun i v => ∃ c u, b[i]? = some c ∧ v = .int (c.toNat : Int) u) (fun i h => IsBytesIter h it b t i) where
  live := fun _ _ st => let ⟨o, ho, _⟩ := st; ⟨o, ho⟩
  frame := fun _ _ _ st hk => let ⟨o, ho, r⟩ := st; ⟨o, hk it (by simp) o ho, r⟩
  item := fun i s Q E hi st hQ => by
    refine nextOf_bytes_item st (c := b[i]) (by simp [hi]) fun h' hit' hs' => ?_
    exact hQ _ h' (s.toks + 1) ⟨_, _, by simp [hi], rfl⟩ hit' hs'
  done := fun s Q E st hE => nextOf_bytes_end hh st (by simp) hE

theorem meets_enumerate_newB (x : Array UInt8) (t : Tok) :
    Meets (Builtin.«enumerate.__new__» ⟨[.type "enumerate", .bytes x t], []⟩) (fun _ R s =>
      R (.ok (.ret (.ref (s.heap.push { cls := .type "bytes_iterator", data := .fields #[.bytes x t, .int 0 0] }).objs.size)))
        { s with heap := (s.heap.push { cls := .type "bytes_iterator", data := .fields #[.bytes x t, .int 0 0] }).push { cls := .type "enumerate", data := .fields #[.none, .bool false, .ref s.heap.objs.size, rawInt 0, .none, .none] } }) :=
  .of_wp fun prog w A R s h => by
    obtain ⟨hp, g, d, tk, os⟩ := s
    have hsub := sub_enumerate
    wp_walk
    refine wpAny_stack_any fun st => wpAny_pure ?_
    split
    · rename_i c _ _ _ _ _
      cases (c == Value.type "enumerate")
      · wp_walk using KBw.pyIter_bytes
        exact ⟨_, rfl, h⟩
      · wp_walk using KBw.pyIter_bytes
        exact ⟨_, rfl, h⟩
    · wp_walk using KBw.pyIter_bytes
      exact ⟨_, rfl, h⟩

section
variable {prog : Program} {w : World} {A : Around} {E : Value → Shared → Prop} {s : Shared}
theorem call_enumerate_bytes {x : Array UInt8} {t : Tok} {Q : Value → Shared → Prop}
    (h : ∀ h', IsEnum h' (s.heap.objs.size + 1) s.heap.objs.size 0 .none → IsBytesIter h' s.heap.objs.size x t 0 → h'.objs.size = s.heap.objs.size + 2 →
      (∀ b o, s.heap.get? b = some o → h'.get? b = some o) → Q (.ref (s.heap.objs.size + 1)) { s with heap := h' }) :
    wpAny (model prog w) A (call (.type "enumerate") [.bytes x t]) Q E s := by
  refine callType_new F.called_enumerate (by decide) (F.typeCall_enumerate_1 _) (F.newCall_enumerate_1 _) (fun obj => F.args_object_init_2 obj _) F.entry_enumerate_new
    (meets_enumerate_newB x t) ?_
  have hz : (s.heap.push { cls := .type "bytes_iterator", data := .fields #[.bytes x t, .int 0 0] }).objs.size = s.heap.objs.size + 1 := Heap.size_push ..
  show _ ∧ _
  rw [hz]
  have he : IsEnum ((s.heap.push { cls := .type "bytes_iterator", data := .fields #[.bytes x t, .int 0 0] }).push
      { cls := .type "enumerate", data := .fields #[.none, .bool false, .ref s.heap.objs.size, rawInt 0, .none, .none] }) (s.heap.objs.size + 1) s.heap.objs.size 0 .none := by
    have := Heap.get?_push_size (s.heap.push { cls := .type "bytes_iterator", data := .fields #[.bytes x t, .int 0 0] })
      (o := { cls := .type "enumerate", data := .fields #[.none, .bool false, .ref s.heap.objs.size, rawInt 0, .none, .none] }) rfl
    rw [hz] at this; exact this
  refine ⟨⟨_, he, rfl⟩, h _ he ⟨_, Heap.get?_push_of_some _ (Heap.get?_push_size _ rfl), rfl, rfl⟩ (by rw [Heap.size_push, hz]) fun b o x => Heap.get?_push_of_some _ (Heap.get?_push_of_some _ x)⟩
end
end Mine
end
section
open PySem PySem.W PySem.Calls PyProof.Rows PySem.W.KBw
set_option maxHeartbeats 4000000
namespace Mine
section
variable {M : Model} {A : Around} {E : Value → Shared → Prop} {s : Shared} {env : Env}
theorem callWith_type_kwA {pos : Pos} {T : String} {first : List Value} {args : List (Bool × Sem Value)} {keywords : List (Option Str × Sem Value)} {Q : Value → Shared → Prop}
    (hplain : args.any (·.1) = false) (hkw : keywords.any (·.1.isNone) = false)
    (h : wpAny M A (evalArgs (.type T) true args keywords) (fun a s₁ => wpAny M A (call (.type T) (first ++ a.pos) a.kw) Q E s₁) E s) :
    wpAny M A (callWith pos (.type T) first args keywords) Q E s := by
  unfold callWith
  refine wpAny_bind (wpAny_holding (wpAny_mono h (fun a s₁ h₁ => wpAny_bind (wpAny_standAt ?_)) fun _ _ x => x))
  simp only [hplain, hkw, Bool.or_false]
  refine wpAny_bind (wpAny_pure ?_)
  exact wpAny_bind (wpAny_mono h₁ (fun r s₂ hr => wpAny_bind (wpAny_holding (wpAny_point (wpAny_pure hr)))) fun _ _ x => x)
theorem callWith_type_kw {pos : Pos} {T : String} {e : Expr} {rest : List Expr} {kws : List Keyword} {Q : Value → Shared → Prop}
    (h : wpAny M A (spliced (backTo pos (starEach (e :: rest) env))) (fun vs s₁ => wpAny M A (evalAll ((backToKw pos (keywordEach kws env)).map (·.2)))
      (fun kvs s₂ => wpAny M A (call (.type T) vs (((backToKw pos (keywordEach kws env)).filterMap (·.1)).zip kvs)) Q E s₂) E s₁) E s)
    (he : backTo pos (starEach (e :: rest) env) = (false, eval e env) :: backTo pos (starEach rest env) := by rfl)
    (hplain : (backTo pos (starEach (e :: rest) env)).any (·.1) = false := by rfl)
    (hall : (backToKw pos (keywordEach kws env)).all (·.1.isSome) = true := by rfl)
    (hkw : (backToKw pos (keywordEach kws env)).any (·.1.isNone) = false := by rfl) :
    wpAny M A (callWith pos (.type T) [] (backTo pos (starEach (e :: rest) env)) (backToKw pos (keywordEach kws env))) Q E s := by
  refine callWith_type_kwA hplain hkw ?_
  rw [he] at h ⊢
  exact evalArgs_kwB hall h
end

section
variable {prog : Program} {w : World} {A : Around} {E : Value → Shared → Prop} {s : Shared}
theorem object_init_meetsK {T newId : String} {self : Value} {rest : List Value} {kw : List (Str × Value)} (hl : typeLookup (.type T) "__init__" = pure (some (.builtin "object.__init__")))
    (hm : Bind.madeBy (.type T) = pure (some newId)) (hne : (some newId != some "object.__new__") = true) :
    Meets (Builtin.«object.__init__» ⟨self :: rest, kw⟩) (fun _ R s => s.TypeIs self T ∧ R (.ok (.ret .none)) s) := by
  refine Meets.of_wp fun prog w A R s hs => ?_
  obtain ⟨hT, hq⟩ := hs
  cases rest with
  | nil =>
    cases kw with
    | nil => exact wpAny_pure ⟨_, rfl, hq⟩
    | cons k kw =>
      repeat (any_goals (first | assumption | wp_step))
      exact ⟨_, rfl, hq⟩
  | cons a rest =>
    repeat (any_goals (first | assumption | wp_step))
    exact ⟨_, rfl, hq⟩
theorem callType_newK {T newId : String} {Bn : Builtin} {args : List Value} {kw : List (Str × Value)} {S : PySem.Spec} {Q : Value → Shared → Prop} (ft : TypeCalled T newId "object.__init__")
    (hne : (some newId != some "object.__new__") = true) (hct : checkTypeCall T ⟨args, kw⟩ = pure ()) (hcn : checkBuiltinCall newId ⟨.type T :: args, kw⟩ = pure ())
    (hok : ∀ obj, argsOk "object.__init__" ⟨obj :: args, kw⟩) (entryN : entryFor table newId = some Bn) (g : Meets (Bn ⟨.type T :: args, kw⟩) S)
    (h : S A.in1 (wants (fun obj s₁ => s₁.TypeIs obj T ∧ Q obj s₁) E) s) : wpAny (model prog w) A (call (.type T) args kw) Q E s := by
  obtain ⟨c, tl, hmro⟩ := ft.mro
  have hmade := ft.made
  have hsub := ft.sub
  refine wpAny_call (codeAny_of_tree ?_)
  show wpAny _ _ (callAny (.type T) _) _ _ _
  refine wpAny_pure ⟨Code.quiet_builtin _ (by decide +kernel), codeAny_builtin F.entry_type_call ?_⟩
  rw [Around.under_plain (weight_type_call_type T args kw) (units_type_call_type T args kw)]
  have h1 := ft.notType
  have h2 := ft.canCreate
  repeat (any_goals (first | assumption | wp_step))
  refine codeAny_mono (codeAny_call_builtin ft.plain entryN (wpAny_of_eq hcn (g prog w A.in1 _ s h))) fun r s₁ hr => ?_
  cases r with
  | error e => exact hr
  | ok fl =>
    cases fl with
    | ret obj =>
      obtain ⟨hT, hq⟩ := hr
      have hli := ft.init.lookup
      have hbi := ft.init.bind obj
      have gi := object_init_meetsK (self := obj) (rest := args) (kw := kw) ft.init.lookup ft.made hne
      repeat (any_goals (first | assumption | wp_step))
      refine codeAny_mono (codeAny_call_builtin ft.init.plain F.entry_object_init (ft.init.check _ _ _ _ _ _ _ _ hT (hok obj) (gi prog w A.in1 (wants (fun r s₂ => r = .none ∧ Q obj s₂) E) s₁ ⟨hT, rfl, hq⟩))) fun r₂ s₂ hr₂ => ?_
      cases r₂ with
      | error e => exact hr₂
      | ok fl₂ =>
        cases fl₂ with
        | ret r =>
          obtain ⟨rfl, hq⟩ := hr₂
          repeat (any_goals (first | assumption | wp_step))
        | _ => exact hr₂.elim
    | _ => exact hr.elim
end
end Mine
end
section
open PySem PySem.W PySem.Calls PyProof.Rows PySem.W.KBw
set_option maxHeartbeats 4000000
namespace Mine
abbrev kwStrict : List (Str × Value) := [(PySem.Str.ofString "strict", .bool false)]
theorem typeCall_zip_2K (a b : Value) : checkTypeCall "zip" ⟨[a, b], kwStrict⟩ = pure () := by kernel_rfl
theorem newCall_zip_2K (a b : Value) : checkBuiltinCall "zip.__new__" ⟨[.type "zip", a, b], kwStrict⟩ = pure () := by kernel_rfl
theorem args_object_init_3K (a b c : Value) : argsOk "object.__init__" ⟨[a, b, c], kwStrict⟩ := by
  unfold argsOk; rw [signature?_of (id := "object.__init__") (n := ['_', '_', 't', 'i', 'n', 'i', '_', '_']) (o := ['t', 'c', 'e', 'j', 'b', 'o']) (by kernel_rfl) PySem.F.owner_object]; kernel_rfl

abbrev zbH1 (h : Heap) (b : Array UInt8) (t : Tok) : Heap := h.push { cls := .type "bytes_iterator", data := .fields #[.bytes b t, .int 0 0] }
abbrev zbH2 (h : Heap) (b : Array UInt8) (t : Tok) (l2 : Addr) : Heap := (zbH1 h b t).push { cls := .type "list_iterator", data := .fields #[.ref l2, .int 0 0] }
abbrev zbH3 (h : Heap) (b : Array UInt8) (t : Tok) (l2 : Addr) : Heap := (zbH2 h b t l2).push { cls := .type "tuple", data := .seq #[.ref h.objs.size, .ref (zbH1 h b t).objs.size] }
abbrev zbH4 (h : Heap) (b : Array UInt8) (t : Tok) (l2 : Addr) : Heap := (zbH3 h b t l2).push { cls := .type "tuple", data := .seq #[.none, .none] }
abbrev zbH5 (h : Heap) (b : Array UInt8) (t : Tok) (l2 : Addr) : Heap := (zbH4 h b t l2).push { cls := .type "zip", data := .fields #[.none, .bool false, .bool false, .ref (zbH2 h b t l2).objs.size, .ref (zbH3 h b t l2).objs.size] }

theorem meets_zip_newB (b : Array UInt8) (t : Tok) (l2 : Addr) (ys : Array Value) :
    Meets (Builtin.«zip.__new__» ⟨[.type "zip", .bytes b t, .ref l2], kwStrict⟩) (fun _ R s => s.heap.IsList l2 ys ∧
      R (.ok (.ret (.ref (zbH4 s.heap b t l2).objs.size))) { s with heap := zbH5 s.heap b t l2 }) :=
  .of_wp fun prog w A R s h => by
    obtain ⟨hp, g, d, tk, os⟩ := s; obtain ⟨hl2, h⟩ := h
    have hsub := sub_zip
    have hL2 : Heap.IsList (Shared.heap ⟨hp.push { cls := .type "bytes_iterator", data := .fields #[.bytes b t, .int 0 0] }, g, d, tk, os⟩) l2 ys := Heap.IsList.push hl2 _
    wp_walk using KBw.pyIter_bytes, wpAny_pyIter_list hL2
    exact ⟨_, rfl, h⟩
end Mine
end
section
open PySem PySem.W PySem.Calls PyProof.Rows PySem.W.KBw
set_option maxHeartbeats 4000000
namespace Mine
theorem biter_at {h h' : Heap} {a : Addr} {b : Array UInt8} {t : Tok} {i : Nat} (x : IsBytesIter h a b t i) (k : ∀ o, h.get? a = some o → h'.get? a = some o) : IsBytesIter h' a b t i :=
  let ⟨o, ho, r⟩ := x; ⟨o, k o ho, r⟩
theorem biter_ext {h h' : Heap} {a c : Addr} {b : Array UInt8} {t : Tok} {i : Nat} (x : IsBytesIter h a b t i) (hs : Heap.ExtBut c h h') (hne : a ≠ c) : IsBytesIter h' a b t i :=
  biter_at x fun o e => hs a o hne e

structure ZbApart (z TI TO i1 i2 l2 : Addr) : Prop where
  TIz : TI ≠ z
  TOz : TO ≠ z
  i1z : i1 ≠ z
  i2z : i2 ≠ z
  TITO : TI ≠ TO
  TIi1 : TI ≠ i1
  TIi2 : TI ≠ i2
  TOi1 : TO ≠ i1
  TOi2 : TO ≠ i2
  i12 : i1 ≠ i2
  l2z : l2 ≠ z
  l2TO : l2 ≠ TO
  l2i1 : l2 ≠ i1
  l2i2 : l2 ≠ i2

section
variable {prog : Program} {w : World} {A : Around} {E : Value → Shared → Prop} {s : Shared}

theorem call_zip_B {bs : Array UInt8} {t : Tok} {l2 : Addr} {ys : Array Value} {Q : Value → Shared → Prop} (hl2 : s.heap.IsList l2 ys)
    (h : ∀ h', IsZip h' (s.heap.objs.size + 4) (s.heap.objs.size + 2) (s.heap.objs.size + 3) .none → IsPair h' (s.heap.objs.size + 2) (.ref s.heap.objs.size) (.ref (s.heap.objs.size + 1)) →
      IsPair h' (s.heap.objs.size + 3) .none .none → IsBytesIter h' s.heap.objs.size bs t 0 → h'.IsListIter (s.heap.objs.size + 1) l2 0 → h'.objs.size = s.heap.objs.size + 5 →
      (∀ c o, s.heap.get? c = some o → h'.get? c = some o) → Q (.ref (s.heap.objs.size + 4)) { s with heap := h' }) :
    wpAny (model prog w) A (call (.type "zip") [.bytes bs t, .ref l2] kwStrict) Q E s := by
  refine callType_newK PySem.F.called_zip (by decide) (typeCall_zip_2K _ _) (newCall_zip_2K _ _) (fun obj => args_object_init_3K obj _ _) PySem.F.entry_zip_new
    (meets_zip_newB bs t l2 ys) ⟨hl2, ?_⟩
  have z1 : (zbH1 s.heap bs t).objs.size = s.heap.objs.size + 1 := Heap.size_push ..
  have z2 : (zbH2 s.heap bs t l2).objs.size = s.heap.objs.size + 2 := by rw [Heap.size_push, z1]
  have z3 : (zbH3 s.heap bs t l2).objs.size = s.heap.objs.size + 3 := by rw [Heap.size_push, z2]
  have z4 : (zbH4 s.heap bs t l2).objs.size = s.heap.objs.size + 4 := by rw [Heap.size_push, z3]
  have z5 : (zbH5 s.heap bs t l2).objs.size = s.heap.objs.size + 5 := by rw [Heap.size_push, z4]
  have g5 : (zbH5 s.heap bs t l2).get? (zbH4 s.heap bs t l2).objs.size = some _ := Heap.get?_push_size _ rfl
  have g4 : (zbH5 s.heap bs t l2).get? (zbH3 s.heap bs t l2).objs.size = some _ := Heap.get?_push_of_some _ (Heap.get?_push_size _ rfl)
  have g3 : (zbH5 s.heap bs t l2).get? (zbH2 s.heap bs t l2).objs.size = some _ := Heap.get?_push_of_some _ (Heap.get?_push_of_some _ (Heap.get?_push_size _ rfl))
  have g2 : (zbH5 s.heap bs t l2).get? (zbH1 s.heap bs t).objs.size = some _ := Heap.get?_push_of_some _ (Heap.get?_push_of_some _ (Heap.get?_push_of_some _ (Heap.get?_push_size _ rfl)))
  have g1 : (zbH5 s.heap bs t l2).get? s.heap.objs.size = some _ := Heap.get?_push_of_some _ (Heap.get?_push_of_some _ (Heap.get?_push_of_some _ (Heap.get?_push_of_some _ (Heap.get?_push_size _ rfl))))
  show _ ∧ _
  rw [z2, z3, z4] at g5
  rw [z1, z2] at g3
  rw [z3] at g4
  rw [z1] at g2
  rw [z4]
  exact ⟨⟨_, g5, rfl⟩, h _ g5 g3 g4 ⟨_, g1, rfl, rfl⟩ ⟨_, g2, rfl, rfl⟩ z5 fun c o x =>
    Heap.get?_push_of_some _ (Heap.get?_push_of_some _ (Heap.get?_push_of_some _ (Heap.get?_push_of_some _ (Heap.get?_push_of_some _ x))))⟩

theorem zb_next_item {z TI TO i1 i2 l2 : Addr} {k1 k2 : Nat} {bs : Array UInt8} {t : Tok} {ys : Array Value} {x : UInt8} {y a b : Value} {Q : Value → Shared → Prop} (D : ZbApart z TI TO i1 i2 l2)
    (hz : IsZip s.heap z TI TO .none) (hTI : IsPair s.heap TI (.ref i1) (.ref i2)) (hTO : IsPair s.heap TO a b)
    (h1 : IsBytesIter s.heap i1 bs t k1) (h2 : s.heap.IsListIter i2 l2 k2) (hl2 : s.heap.IsList l2 ys) (hx : bs[k1]? = some x) (hy : ys[k2]? = some y)
    (hQ : ∀ h' tk u, IsZip h' z TI TO (rawInt s.heap.objs.size) → (∃ a b, IsPair h' TO a b) → IsBytesIter h' i1 bs t (k1 + 1) → h'.IsListIter i2 l2 (k2 + 1) → IsPair h' s.heap.objs.size (.int (x.toNat : Int) u) y → h'.objs.size = s.heap.objs.size + 1 →
      (∀ c o, c ≠ z → c ≠ TO → c ≠ i1 → c ≠ i2 → s.heap.get? c = some o → h'.get? c = some o) → Q (.ref s.heap.objs.size) { s with heap := h', toks := tk }) :
    wpAny (model prog w) A (Builtin.«zip.__next__» ⟨[.ref z], []⟩) (fun fin s' => ∃ v, fin = .done (.ret v) ∧ Q v s') E s := by
  show wpAny _ _ (field (.ref z) 2 >>= _) _ _ _
  refine wpAny_bind (wpAny_field hz rfl (x := .bool false) rfl ?_)
  show wpAny _ _ (field (.ref z) 3 >>= _) _ _ _
  refine wpAny_bind (wpAny_field hz rfl (x := .ref TI) rfl ?_)
  refine wpAny_bind (wpAny_seqItems hTI rfl ?_)
  show wpAny _ _ (Builtin.SmallTypes.ownedTupleIsFree (.ref z) >>= _) _ _ _
  refine wpAny_bind ?_
  unfold Builtin.SmallTypes.ownedTupleIsFree
  refine wpAny_bind (wpAny_field hz rfl (x := .none) rfl (wpAny_pure ?_))
  simp only [if_true]
  refine wpAny_bind (wpAny_rule ?_)
  refine wpAny_bind (wpAny_field hz rfl (x := .ref TO) rfl ?_)
  refine wpAny_bind (wpAny_setField_rec hz (by simp) fun h₁ hz₁ hs₁ => ?_)
  replace hz₁ : IsZip h₁ z TI TO .ellipsis := hz₁
  refine wpAny_bind ?_
  simp only [List.zipIdx_cons, List.zipIdx_nil, List.forIn_cons, List.forIn_nil]
  refine wpAny_bind (wpAny_bind (wpAny_onRaise ?_))
  show wpAny _ _ (Builtin.SmallTypes.nextOf (.ref i1) >>= _) _ _ _
  refine wpAny_bind (nextOf_bytes_item (biter_ext h1 hs₁.extBut D.i1z) hx fun h₂ h1₂ hs₂ => wpAny_pure ?_)
  have hTO₂ : IsPair h₂ TO a b := hs₂.extBut _ _ D.TOi1 (hs₁.extBut _ _ D.TOz hTO)
  refine wpAny_bind (wpAny_seqItems hTO₂ rfl ?_)
  refine wpAny_bind (wpAny_updateSeq_pair hTO₂ fun h₃ hTO₃ hs₃ => ?_)
  replace hTO₃ : IsPair h₃ TO (.int (x.toNat : Int) s.toks) b := hTO₃
  refine wpAny_bind (wpAny_letGo (wpAny_pure ?_))
  refine wpAny_bind (wpAny_bind (wpAny_onRaise ?_))
  show wpAny _ _ (Builtin.SmallTypes.nextOf (.ref i2) >>= _) _ _ _
  refine wpAny_bind (wpAny_nextOf_list_item (((h2.extBut hs₁.extBut D.i2z).extBut hs₂.extBut D.i12.symm).extBut hs₃.extBut D.TOi2.symm)
    (((hl2.extBut hs₁.extBut D.l2z).extBut hs₂.extBut D.l2i1).extBut hs₃.extBut D.l2TO) hy fun h₄ h2₄ hs₄ => wpAny_pure ?_)
  have hTO₄ : IsPair h₄ TO (.int (x.toNat : Int) s.toks) b := hs₄.extBut _ _ D.TOi2 hTO₃
  refine wpAny_bind (wpAny_seqItems hTO₄ rfl ?_)
  refine wpAny_bind (wpAny_updateSeq_pair hTO₄ fun h₅ hTO₅ hs₅ => ?_)
  replace hTO₅ : IsPair h₅ TO (.int (x.toNat : Int) s.toks) y := hTO₅
  refine wpAny_bind (wpAny_letGo (wpAny_pure (wpAny_pure ?_)))
  refine wpAny_bind (wpAny_seqItems hTO₅ rfl ?_)
  refine wpAny_bind (wpAny_newTuple ?_)
  have hsz : h₅.objs.size = s.heap.objs.size := by rw [hs₅.1, hs₄.1, hs₃.1, hs₂.1, hs₁.1]
  have hz₅ : IsZip h₅ z TI TO .ellipsis := hs₅.extBut _ _ D.TOz.symm (hs₄.extBut _ _ D.i2z.symm (hs₃.extBut _ _ D.TOz.symm (hs₂.extBut _ _ D.i1z.symm hz₁)))
  have hk₅ : ∀ c o, c ≠ z → c ≠ TO → c ≠ i1 → c ≠ i2 → s.heap.get? c = some o → h₅.get? c = some o := fun c o c1 c2 c3 c4 e =>
    hs₅.extBut _ _ c2 (hs₄.extBut _ _ c4 (hs₃.extBut _ _ c2 (hs₂.extBut _ _ c3 (hs₁.extBut _ _ c1 e))))
  have h1₅ : IsBytesIter h₅ i1 bs t (k1 + 1) := biter_ext (biter_ext (biter_ext h1₂ hs₃.extBut D.TOi1.symm) hs₄.extBut D.i12) hs₅.extBut D.TOi1.symm
  have h2₅ : h₅.IsListIter i2 l2 (k2 + 1) := h2₄.extBut hs₅.extBut D.TOi2.symm
  have hzlt : z < h₅.objs.size := Heap.lt_size hz₅
  have hTOlt : TO < h₅.objs.size := Heap.lt_size hTO₅
  show wpAny _ _ (Builtin.SmallTypes.ownedTupleHandOut (.ref z) (.ref h₅.objs.size) >>= _) _ _ _
  refine wpAny_bind ?_
  unfold Builtin.SmallTypes.ownedTupleHandOut
  have hz₆ : IsZip (h₅.push { cls := .type "tuple", data := .seq #[.int (x.toNat : Int) s.toks, y] }) z TI TO .ellipsis := Heap.get?_push_of_some _ hz₅
  refine wpAny_bind (wpAny_setField_rec hz₆ (by simp) fun h₇ hz₇ hs₇ => ?_)
  replace hz₇ : IsZip h₇ z TI TO (rawInt h₅.objs.size) := hz₇
  refine wpAny_setField_rec hz₇ (by simp) fun h₈ hz₈ hs₈ => ?_
  replace hz₈ : IsZip h₈ z TI TO (rawInt h₅.objs.size) := hz₈
  have up : ∀ c o, c ≠ z → h₅.get? c = some o → h₈.get? c = some o := fun c o c1 e => hs₈.extBut _ _ c1 (hs₇.extBut _ _ c1 (Heap.get?_push_of_some _ e))
  have hT₈ : IsPair h₈ h₅.objs.size (.int (x.toNat : Int) s.toks) y := hs₈.extBut _ _ (Nat.ne_of_gt hzlt) (hs₇.extBut _ _ (Nat.ne_of_gt hzlt) (Heap.get?_push_size _ rfl))
  have hz8 : h₈.objs.size = h₅.objs.size + 1 := by rw [hs₈.1, hs₇.1, Heap.size_push]
  rw [hsz] at hz₈ hT₈ hz8
  refine wpAny_pure ⟨_, rfl, ?_⟩
  show Q (.ref h₅.objs.size) _
  rw [hsz]
  exact hQ h₈ _ s.toks hz₈ ⟨_, _, up _ _ D.TOz hTO₅⟩ (biter_at h1₅ fun o e => up _ o D.i1z e) (h2₅.at fun o e => up _ o D.i2z e) hT₈ hz8 fun c o c1 c2 c3 c4 e => up c o c1 (hk₅ c o c1 c2 c3 c4 e)

theorem zb_next_end {z TI TO i1 i2 l2 : Addr} {k1 k2 : Nat} {bs : Array UInt8} {t : Tok} {ys : Array Value} {a b : Value} {Q : Fin → Shared → Prop} (hh : A.handled = none) (D : ZbApart z TI TO i1 i2 l2)
    (hz : IsZip s.heap z TI TO .none) (hTI : IsPair s.heap TI (.ref i1) (.ref i2)) (hTO : IsPair s.heap TO a b)
    (h1 : IsBytesIter s.heap i1 bs t k1) (h2 : s.heap.IsListIter i2 l2 k2) (hl2 : s.heap.IsList l2 ys) (hend : bs[k1]? = none ∨ ys[k2]? = none)
    (hE : ∀ h' tk e, (∀ c o, c ≠ z → c ≠ TO → c ≠ i1 → c ≠ i2 → s.heap.get? c = some o → h'.get? c = some o) → (∃ o, h'.get? e = some o ∧ o.cls = .type "StopIteration") → E (.ref e) { s with heap := h', toks := tk }) :
    wpAny (model prog w) A (Builtin.«zip.__next__» ⟨[.ref z], []⟩) Q E s := by
  show wpAny _ _ (field (.ref z) 2 >>= _) _ _ _
  refine wpAny_bind (wpAny_field hz rfl (x := .bool false) rfl ?_)
  show wpAny _ _ (field (.ref z) 3 >>= _) _ _ _
  refine wpAny_bind (wpAny_field hz rfl (x := .ref TI) rfl ?_)
  refine wpAny_bind (wpAny_seqItems hTI rfl ?_)
  show wpAny _ _ (Builtin.SmallTypes.ownedTupleIsFree (.ref z) >>= _) _ _ _
  refine wpAny_bind ?_
  unfold Builtin.SmallTypes.ownedTupleIsFree
  refine wpAny_bind (wpAny_field hz rfl (x := .none) rfl (wpAny_pure ?_))
  simp only [if_true]
  refine wpAny_bind (wpAny_rule ?_)
  refine wpAny_bind (wpAny_field hz rfl (x := .ref TO) rfl ?_)
  refine wpAny_bind (wpAny_setField_rec hz (by simp) fun h₁ hz₁ hs₁ => ?_)
  replace hz₁ : IsZip h₁ z TI TO .ellipsis := hz₁
  refine wpAny_bind ?_
  simp only [List.zipIdx_cons, List.zipIdx_nil, List.forIn_cons, List.forIn_nil]
  refine wpAny_bind (wpAny_bind (wpAny_onRaise ?_))
  show wpAny _ _ (Builtin.SmallTypes.nextOf (.ref i1) >>= _) _ _ _
  cases hx : bs[k1]? with
  | none =>
    refine wpAny_bind (nextOf_bytes_end hh (biter_ext h1 hs₁.extBut D.i1z) hx fun h₂ e hs₂ he => ?_)
    obtain ⟨oe, hoe, hce⟩ := he
    have hz₂ : IsZip h₂ z TI TO .ellipsis := hs₂ _ _ D.i1z.symm hz₁
    have hez : e ≠ z := fun x => by subst x; rw [hz₂] at hoe; cases hoe; simp at hce
    refine wpAny_setField_rec hz₂ (by simp) fun h₃ _ hs₃ => hE h₃ _ e (fun c o c1 _ c3 _ x => hs₃.extBut _ _ c1 (hs₂ _ _ c3 (hs₁.extBut _ _ c1 x))) ⟨oe, hs₃.extBut _ _ hez hoe, hce⟩
  | some x =>
    have hy : ys[k2]? = none := by rcases hend with h | h; rw [hx] at h; cases h; exact h
    refine wpAny_bind (nextOf_bytes_item (biter_ext h1 hs₁.extBut D.i1z) hx fun h₂ h1₂ hs₂ => wpAny_pure ?_)
    have hTO₂ : IsPair h₂ TO a b := hs₂.extBut _ _ D.TOi1 (hs₁.extBut _ _ D.TOz hTO)
    refine wpAny_bind (wpAny_seqItems hTO₂ rfl ?_)
    refine wpAny_bind (wpAny_updateSeq_pair hTO₂ fun h₃ hTO₃ hs₃ => ?_)
    refine wpAny_bind (wpAny_letGo (wpAny_pure ?_))
    refine wpAny_bind (wpAny_bind (wpAny_onRaise ?_))
    show wpAny _ _ (Builtin.SmallTypes.nextOf (.ref i2) >>= _) _ _ _
    refine wpAny_bind (wpAny_nextOf_list_end hh (((h2.extBut hs₁.extBut D.i2z).extBut hs₂.extBut D.i12.symm).extBut hs₃.extBut D.TOi2.symm)
      (((hl2.extBut hs₁.extBut D.l2z).extBut hs₂.extBut D.l2i1).extBut hs₃.extBut D.l2TO) hy fun h₄ e hs₄ he => ?_)
    obtain ⟨oe, hoe, hce⟩ := he
    have hz₄ : IsZip h₄ z TI TO .ellipsis := hs₄ _ _ D.i2z.symm (hs₃.extBut _ _ D.TOz.symm (hs₂.extBut _ _ D.i1z.symm hz₁))
    have hez : e ≠ z := fun x => by subst x; rw [hz₄] at hoe; cases hoe; simp at hce
    refine wpAny_setField_rec hz₄ (by simp) fun h₅ _ hs₅ => hE h₅ _ e (fun c o c1 c2 c3 c4 x => hs₅.extBut _ _ c1 (hs₄ _ _ c4 (hs₃.extBut _ _ c2 (hs₂.extBut _ _ c3 (hs₁.extBut _ _ c1 x))))) ⟨oe, hs₅.extBut _ _ hez hoe, hce⟩

theorem pyNext_zb_item {z TI TO i1 i2 l2 : Addr} {k1 k2 : Nat} {bs : Array UInt8} {t : Tok} {ys : Array Value} {x : UInt8} {y a b : Value} {Q : Option Value → Shared → Prop} (D : ZbApart z TI TO i1 i2 l2)
    (hz : IsZip s.heap z TI TO .none) (hTI : IsPair s.heap TI (.ref i1) (.ref i2)) (hTO : IsPair s.heap TO a b)
    (h1 : IsBytesIter s.heap i1 bs t k1) (h2 : s.heap.IsListIter i2 l2 k2) (hl2 : s.heap.IsList l2 ys) (hx : bs[k1]? = some x) (hy : ys[k2]? = some y)
    (hQ : ∀ h' tk u, IsZip h' z TI TO (rawInt s.heap.objs.size) → (∃ a b, IsPair h' TO a b) → IsBytesIter h' i1 bs t (k1 + 1) → h'.IsListIter i2 l2 (k2 + 1) → IsPair h' s.heap.objs.size (.int (x.toNat : Int) u) y → h'.objs.size = s.heap.objs.size + 1 →
      (∀ c o, c ≠ z → c ≠ TO → c ≠ i1 → c ≠ i2 → s.heap.get? c = some o → h'.get? c = some o) → Q (some (.ref s.heap.objs.size)) { s with heap := h', toks := tk }) :
    wpAny (model prog w) A (pyNext (.ref z)) Q E s := by
  have hT : s.TypeIs (.ref z) "zip" := ⟨_, hz, rfl⟩
  unfold pyNext
  exact wpAny_bind (wpAny_attempt (wpAny_callSpecial?_slot (name := Str.ofString "__next__") hT PySem.F.slot_zip_next
    (wpAny_call_entry PySem.F.slot_zip_next hT PySem.F.entry_zip_next
      (zb_next_item D hz hTI hTO h1 h2 hl2 hx hy fun h' tk u a1 a2 a3 a4 a5 a6 a7 => wpAny_pure (hQ h' tk u a1 a2 a3 a4 a5 a6 a7)) (PySem.F.args_zip_next_1 _))))

theorem pyNext_zb_end {z TI TO i1 i2 l2 : Addr} {k1 k2 : Nat} {bs : Array UInt8} {t : Tok} {ys : Array Value} {a b : Value} {Q : Option Value → Shared → Prop} (hh : A.handled = none) (D : ZbApart z TI TO i1 i2 l2)
    (hz : IsZip s.heap z TI TO .none) (hTI : IsPair s.heap TI (.ref i1) (.ref i2)) (hTO : IsPair s.heap TO a b)
    (h1 : IsBytesIter s.heap i1 bs t k1) (h2 : s.heap.IsListIter i2 l2 k2) (hl2 : s.heap.IsList l2 ys) (hend : bs[k1]? = none ∨ ys[k2]? = none)
    (hQ : ∀ h' tk, (∀ c o, c ≠ z → c ≠ TO → c ≠ i1 → c ≠ i2 → s.heap.get? c = some o → h'.get? c = some o) → Q none { s with heap := h', toks := tk }) : wpAny (model prog w) A (pyNext (.ref z)) Q E s := by
  have hT : s.TypeIs (.ref z) "zip" := ⟨_, hz, rfl⟩
  unfold pyNext
  refine wpAny_bind (wpAny_attempt (wpAny_callSpecial?_slot (name := Str.ofString "__next__") hT PySem.F.slot_zip_next
    (wpAny_call_entry PySem.F.slot_zip_next hT PySem.F.entry_zip_next (zb_next_end hh D hz hTI hTO h1 h2 hl2 hend fun h' tk e hk he => ?_) (PySem.F.args_zip_next_1 _))))
  obtain ⟨o, ho, hc⟩ := he
  refine wpAny_bind (wpAny_isInstance (T := "StopIteration") (b := true) ⟨o, ho, hc⟩ isSubtype_stop ?_)
  exact wpAny_pure (hQ _ _ hk)

theorem walksT_zb (hh : A.handled = none) (z TI TO i1 i2 l2 : Addr) (D : ZbApart z TI TO i1 i2 l2) (bs : Array UInt8) (t : Tok) (ys : Array Value) :
    WalksT prog w A z [z, TI, TO, i1, i2, l2] [z, TO, i1, i2] (min bs.size ys.size)
      (fun i vals => ∃ x u y, bs[i]? = some x ∧ ys[i]? = some y ∧ vals = #[.int ((x : UInt8).toNat : Int) u, y])
      (fun i h => IsZip h z TI TO .none ∧ IsPair h TI (.ref i1) (.ref i2) ∧ (∃ a b, IsPair h TO a b) ∧ IsBytesIter h i1 bs t i ∧ h.IsListIter i2 l2 i ∧ h.IsList l2 ys)
      (fun i T h => IsZip h z TI TO (rawInt T) ∧ IsPair h TI (.ref i1) (.ref i2) ∧ (∃ a b, IsPair h TO a b) ∧ IsBytesIter h i1 bs t (i + 1) ∧ h.IsListIter i2 l2 (i + 1) ∧ h.IsList l2 ys ∧
        T ≠ z ∧ T ≠ TO ∧ T ≠ i1 ∧ T ≠ i2) where
  sub := fun c hc => by simp at hc ⊢; rcases hc with rfl | rfl | rfl | rfl <;> simp
  frame := fun i h h' hst hk => by
    obtain ⟨hz, hTI, ⟨a, b, hTO⟩, h1, h2, hl2⟩ := hst
    exact ⟨hk z (by simp) _ hz, hk TI (by simp) _ hTI, ⟨a, b, hk TO (by simp) _ hTO⟩, biter_at h1 fun o e => hk i1 (by simp) o e, h2.at fun o e => hk i2 (by simp) o e,
      hl2.at fun o e => hk l2 (by simp) o e⟩
  item := fun i s Q E hi hst hQ => by
    obtain ⟨hz, hTI, ⟨a, b, hTO⟩, h1, h2, hl2⟩ := hst
    have hix : i < bs.size := Nat.lt_of_lt_of_le hi (Nat.min_le_left ..)
    have hiy : i < ys.size := Nat.lt_of_lt_of_le hi (Nat.min_le_right ..)
    refine pyNext_zb_item D hz hTI hTO h1 h2 hl2 (Array.getElem?_eq_getElem hix) (Array.getElem?_eq_getElem hiy) fun h' tk u a1 a2 a3 a4 a5 a6 hk => ?_
    have lt : ∀ {c o}, s.heap.get? c = some o → s.heap.objs.size ≠ c := fun e => Nat.ne_of_gt (Heap.lt_size e)
    exact hQ s.heap.objs.size #[.int (bs[i].toNat : Int) u, ys[i]] h' tk ⟨_, _, _, Array.getElem?_eq_getElem hix, Array.getElem?_eq_getElem hiy, rfl⟩ (Nat.le_refl _) ⟨_, a5, rfl, _, rfl⟩
      ⟨a1, hk _ _ D.TIz D.TITO D.TIi1 D.TIi2 hTI, a2, a3, a4, hl2.at fun o e => hk _ o D.l2z D.l2TO D.l2i1 D.l2i2 e,
        lt hz, lt hTO, (by obtain ⟨_, e, _⟩ := h1; exact lt e), (by obtain ⟨_, e, _⟩ := h2; exact lt e)⟩
      fun c o hc e => hk c o (fun x => hc (by simp [x])) (fun x => hc (by simp [x])) (fun x => hc (by simp [x])) (fun x => hc (by simp [x])) e
  go := fun elts k pos i T s Q E hm hQ => by
    obtain ⟨hz, hTI, ⟨a, b, hTO⟩, h1, h2, hl2, _⟩ := hm
    refine wpAny_letOwnedTupleGo_zip hz fun h' hz' hs' => hQ h' ⟨hz', hs'.extBut _ _ D.TIz hTI, ⟨a, b, hs'.extBut _ _ D.TOz hTO⟩, biter_ext h1 hs'.extBut D.i1z, h2.extBut hs'.extBut D.i2z,
      hl2.extBut hs'.extBut D.l2z⟩ fun c o hc e => hs'.extBut _ _ (fun x => hc (by simp [x])) e
  apart := fun i T h hm hT => by
    obtain ⟨_, _, _, _, _, _, t1, t2, t3, t4⟩ := hm
    simp at hT
    rcases hT with rfl | rfl | rfl | rfl
    · exact t1 rfl
    · exact t2 rfl
    · exact t3 rfl
    · exact t4 rfl
  done := fun s Q E hst hQ => by
    obtain ⟨hz, hTI, ⟨a, b, hTO⟩, h1, h2, hl2⟩ := hst
    have hend : bs[min bs.size ys.size]? = none ∨ ys[min bs.size ys.size]? = none := by
      rcases Nat.le_total bs.size ys.size with h | h
      · exact .inl (by rw [Nat.min_eq_left h]; exact Array.getElem?_eq_none (Nat.le_refl _))
      · exact .inr (by rw [Nat.min_eq_right h]; exact Array.getElem?_eq_none (Nat.le_refl _))
    exact pyNext_zb_end hh D hz hTI hTO h1 h2 hl2 hend fun h' tk hk => hQ h' tk fun c o hc e =>
      hk c o (fun x => hc (by simp [x])) (fun x => hc (by simp [x])) (fun x => hc (by simp [x])) (fun x => hc (by simp [x])) e
  self := fun i s Q E hst hQ => wpAny_pyIter_zip hst.1 hQ
end
end Mine
end
section
open PySem PySem.W PySem.Calls PyProof.Rows PySem.W.KBw
set_option maxHeartbeats 4000000
namespace Mine
/-- what a turn leaves behind: the frame, a ledger that holds the loop's own part and the iterator's objects -/
def TEnd (h₀ : Heap) (L : Addr) (J : (Str → Option Value) → List (Addr × Obj) → Prop) (own : List (Addr × Obj)) (s₁ s₂ : Shared) : Prop :=
  ∃ h' tk m' news' nx, s₂ = { s₁ with heap := h', toks := tk } ∧ Fr h₀ L h' m' ∧ News h₀ L h' news' ∧ (∀ p ∈ nx, p ∈ news') ∧ (∀ p ∈ own, p ∈ news') ∧ (∀ p ∈ own, ∀ q ∈ nx, p.1 ≠ q.1) ∧ J m' nx
def TPost (h₀ : Heap) (L : Addr) (J : (Str → Option Value) → List (Addr × Obj) → Prop) (own : List (Addr × Obj)) (s₁ : Shared) (Q : Flow → Shared → Prop) (f : Flow) (s₂ : Shared) : Prop :=
  match f with
  | .ret v => Q (.ret v) s₂
  | .brk => Q .next s₂
  | _ => TEnd h₀ L J own s₁ s₂

section
variable {prog : Program} {w : World} {A : Around} {E : Value → Shared → Prop} {s : Shared} {env : Env} {h₀ : Heap} {target : Expr} {body : List Stmt} {Q : Flow → Shared → Prop}

theorem turns_at {I : Addr} {fp wr : List Addr} {n : Nat} {P Md : Nat → Value → Heap → Prop} {St : Nat → Heap → Prop} {m₀ : Str → Option Value} {news keep : List (Addr × Obj)} {hp : Heap} {tk0 : Nat}
    (J : Nat → (Str → Option Value) → List (Addr × Obj) → Prop) (W : KTurns prog w A target I fp wr n P Md St)
    (hlive : ∀ i h, St i h → ∀ b ∈ wr, ∃ o, h.get? b = some o) (hfp : ∀ b ∈ fp, b ∈ wr ∨ (∃ o, (b, o) ∈ keep))
    (hkeep : ∀ i m nx, J i m nx → ∀ p ∈ keep, p ∈ nx)
    (hLf : env.locals ∉ fp) (hwr : ∀ b ∈ wr, h₀.get? b = none) (hnw : ∀ p ∈ news, p.1 ∉ wr) (hst : St 0 hp)
    (F : Fr h₀ env.locals hp m₀) (N : News h₀ env.locals hp news) (hj : J 0 m₀ news)
    (turn : ∀ i v m₁ nx h tk own, i < n → P i v h → J i m₁ nx → OwnOff own (nx.map (·.1)) → Fr h₀ env.locals h m₁ → News h₀ env.locals h (nx ++ own) →
      wpAny (model prog w) A (assign target env v) (fun _ s₃ => wpAny (model prog w) A (execs body env) (TPost h₀ env.locals (J (i + 1)) own { s with heap := h, toks := tk } Q) E s₃) E { s with heap := h, toks := tk })
    (done : ∀ m₁ nx h tk, J n m₁ nx → Fr h₀ env.locals h m₁ → News h₀ env.locals h nx → Q .next { s with heap := h, toks := tk }) :
    TurnsAt prog w A h₀ env target body Q E (.ref I) { s with heap := hp, toks := tk0 } := by
  refine ⟨I, fp, wr, n, P, Md, St, m₀, news, J, rfl, W, hLf, hwr, hnw, hst, F, N, hj, ?_, ?_⟩
  · intro i v m₁ news₁ h₁ tk₁ own hin hPi hJ hoff hown hget hall hst₁ F₁ N₁
    let own' := own.filter fun p => decide (p.1 ∈ wr)
    have hsub : ∀ p ∈ own', p ∈ own ∧ p.1 ∈ wr := fun p hp => by
      have := List.mem_filter.mp hp
      exact ⟨this.1, of_decide_eq_true this.2⟩
    have hsep : OwnOff own' (news₁.map (·.1)) := by
      intro p hp b hb e
      obtain ⟨q, hq, rfl⟩ := List.mem_map.mp hb
      exact hoff q hq (e ▸ (hsub p hp).2)
    have N₂ : News h₀ env.locals h₁ (news₁ ++ own') := fun p hp => N₁ p ((List.mem_append.mp hp).elim (fun h => List.mem_append_right _ h) fun h => List.mem_append_left _ (hsub p h).1)
    have fin : ∀ s₃, TEnd h₀ env.locals (J (i + 1)) own' { s with heap := h₁, toks := tk₁ } s₃ → LoopStepU h₀ env.locals wr own (J (i + 1)) { s with heap := h₁, toks := tk₁ } .next s₃ := by
      rintro s₃ ⟨h', tk, m', news', nx, e, F', N', hn, ho, ha, hm⟩
      refine ⟨rfl, h', tk, m', nx, e, F', ?_, ?_, hm⟩
      · rintro ⟨pa, po⟩ hp
        rcases List.mem_append.mp hp with hp | hp
        · by_cases hw : pa ∈ wr
          · exact N' _ (ho _ (List.mem_filter.mpr ⟨hp, decide_eq_true hw⟩))
          · rcases hfp pa (hown _ hp) with h3 | ⟨o, h3⟩
            · exact absurd h3 hw
            · have h4 : h₁.get? pa = some o := (N₁ _ (List.mem_append_right _ (hkeep _ _ _ hJ _ h3))).1
              have h2 : h₁.get? pa = some po := hget _ hp
              have h6 : o = po := Option.some.inj (h4.symm.trans h2)
              subst h6
              exact N' _ (hn _ (hkeep _ _ _ hm _ h3))
        · exact N' _ (hn _ hp)
      · intro p hp hI
        obtain ⟨o, ho'⟩ := hlive _ _ hst₁ _ hI
        have : (p.1, o) ∈ own' := List.mem_filter.mpr ⟨hall _ (W.sub _ hI) (hwr _ hI) _ ho', decide_eq_true hI⟩
        exact ha _ this _ hp rfl
    refine wpAny_mono (turn i v m₁ news₁ h₁ tk₁ own' hin hPi hJ hsep F₁ N₂) (fun _ s₂ h₂ => wpAny_mono h₂ (fun f s₃ p => ?_) fun _ _ e => e) fun _ _ e => e
    cases f with
    | ret v => exact .ret p
    | brk => exact .brk p
    | next => exact .next (fin _ p)
    | cont => exact .cont (fin _ p)
  · intro h' tk m' news' F' N' _ hJ
    exact done m' news' h' tk hJ F' N'

theorem letGo_range {I : Addr} {x left c : Int} {v : Value} {Q' : Unit → Shared → Prop} {s' : Shared} (hit : IsRangeIter s'.heap I x left c) (h : Q' () s') :
    wpAny (model prog w) A (letOwnedTupleGo target (.ref I) v) Q' E s' := by
  unfold letOwnedTupleGo
  cases target <;> first
    | exact wpAny_pure h
    | (cases v <;> first
      | exact wpAny_pure h
      | exact wpAny_bind (wpAny_load hit (wpAny_pure h)))

/-- a for over a range, by an invariant -/
theorem turns_range {r : Addr} {a b c : Int} {t₀ u₀ v₀ : Tok} {n : Nat} {m₀ : Str → Option Value} {news : List (Addr × Obj)}
    (J : Nat → (Str → Option Value) → List (Addr × Obj) → Prop)
    (hh : A.handled = none) (hr : IsRange s.heap r a b c t₀ u₀ v₀) (hsmall : Builtin.Range.small a b c = true) (hn : Builtin.Range.rangeSize a b c = (n : Int))
    (F : Fr h₀ env.locals s.heap m₀) (N : News h₀ env.locals s.heap news) (hj : J 0 m₀ news)
    (turn : ∀ i t m₁ nx h tk own, i < n → J i m₁ nx → OwnOff own (nx.map (·.1)) → Fr h₀ env.locals h m₁ → News h₀ env.locals h (nx ++ own) →
      wpAny (model prog w) A (assign target env (.int (a + (i : Int) * c) t)) (fun _ s₃ => wpAny (model prog w) A (execs body env) (TPost h₀ env.locals (J (i + 1)) own { s with heap := h, toks := tk } Q) E s₃) E { s with heap := h, toks := tk })
    (done : ∀ m₁ nx h tk, J n m₁ nx → Fr h₀ env.locals h m₁ → News h₀ env.locals h nx → Q .next { s with heap := h, toks := tk }) :
    wpAny (model prog w) A (pyIter (.ref r)) (fun it s₂ => TurnsAt prog w A h₀ env target body Q E it s₂) E s := by
  refine wpAny_pyIter_range hr hsmall ?_
  have W := Walks.range (prog := prog) (w := w) hh s.heap.objs.size a c n
  refine turns_at (tk0 := s.toks) (keep := []) J (KTurns.ofWalks (target := target) W fun i v s Q E st q => letGo_range st q) ?_ ?_ ?_ ?_ ?_ ?_ ?_ (F.push _) (fun p hp => ⟨Heap.get?_push_of_some _ (N p hp).1, (N p hp).2⟩) hj ?_ done
  · intro i h st b hb
    rw [List.mem_singleton.mp hb]
    exact ⟨_, st⟩
  · intro b hb
    exact .inl hb
  · intro _ _ _ _ p hp
    cases hp
  · intro hm
    exact absurd F.ns.lt ((List.mem_singleton.mp hm) ▸ Nat.lt_irrefl _)
  · intro b hb
    rw [List.mem_singleton.mp hb]
    exact next_is_new F
  · intro p hp hI
    exact absurd (Heap.lt_size (N p hp).1) ((List.mem_singleton.mp hI) ▸ Nat.lt_irrefl _)
  · show IsRangeIter _ _ _ _ _; rw [hn]; simpa using Heap.get?_push_size _ rfl
  · rintro i v m₁ nx h tk own hi hP hJ ho F' N'
    obtain ⟨t, rfl⟩ := hP
    exact turn i t m₁ nx h tk own hi hJ ho F' N'

/-- for j, x in enumerate(bytes) -/
theorem turns_enumB {elts : List Expr} {kk : Nat} {pos : Pos} {bs : Array UInt8} {tb : Tok} {ks : List Int} {m₀ : Str → Option Value} {news : List (Addr × Obj)}
    (J : Nat → (Str → Option Value) → List (Addr × Obj) → Prop)
    (hh : A.handled = none) (hk : bInts bs = ks)
    (F : Fr h₀ env.locals s.heap m₀) (N : News h₀ env.locals s.heap news) (hj : J 0 m₀ news)
    (turn : ∀ (i : Nat) k T t u m₁ nx h tk own, ks[i]? = some k → 0 ≤ k → k < 256 → IsTup h T #[.int (i : Int) t, .int k u] → J i m₁ nx → OwnOff own (nx.map (·.1)) → Fr h₀ env.locals h m₁ → News h₀ env.locals h (nx ++ own) →
      wpAny (model prog w) A (assign (.Tuple elts kk pos) env (.ref T)) (fun _ s₃ => wpAny (model prog w) A (execs body env) (TPost h₀ env.locals (J (i + 1)) own { s with heap := h, toks := tk } Q) E s₃) E { s with heap := h, toks := tk })
    (done : ∀ m₁ nx h tk, J ks.length m₁ nx → Fr h₀ env.locals h m₁ → News h₀ env.locals h nx → Q .next { s with heap := h, toks := tk }) :
    wpAny (model prog w) A (call (.type "enumerate") [.bytes bs tb]) (fun xv s₁ => wpAny (model prog w) A (pyIter xv) (fun it s₂ => TurnsAt prog w A h₀ env (.Tuple elts kk pos) body Q E it s₂) E s₁) E s := by
  subst hk
  have hLs : env.locals < s.heap.objs.size := F.ns.lt
  refine call_enumerate_bytes fun h' hE hI hsz hk => ?_
  refine wpAny_pyIter_enum hE ?_
  have D := draws_bytes (prog := prog) (w := w) (A := A.in1) hh s.heap.objs.size bs tb
  refine turns_at (tk0 := s.toks) (keep := []) J (KTurns.ofWalksU (WalksT.enumerateD D (s.heap.objs.size + 1) (Nat.succ_ne_self _) (by simp) (by simp)).toU) ?_ ?_ ?_ ?_ ?_ ?_ ?_ (F.keeps hk) (N.grown hk) hj ?_ ?_
  · rintro i h ⟨⟨old, he⟩, ⟨oi, hoi, hic, _⟩⟩ b hb
    have hb' : b = s.heap.objs.size + 1 ∨ b = s.heap.objs.size := by simpa using hb
    rcases hb' with rfl | rfl
    · exact ⟨_, he⟩
    · exact ⟨_, hoi⟩
  · intro b hb
    exact .inl (by simpa using hb)
  · intro _ _ _ _ p hp
    cases hp
  · intro hI'
    have hb' : env.locals = s.heap.objs.size + 1 ∨ env.locals = s.heap.objs.size := by simpa using hI'
    rcases hb' with e | e
    · exact ktu_ne 1 hLs e
    · exact Nat.ne_of_lt hLs e
  · intro b hb
    have hb' : b = s.heap.objs.size + 1 ∨ b = s.heap.objs.size := by simpa using hb
    rcases hb' with rfl | rfl
    · exact ktu_new F (Nat.le_add_right _ _)
    · exact ktu_new F (Nat.le_refl _)
  · intro p hp hI'
    have hb' : p.1 = s.heap.objs.size + 1 ∨ p.1 = s.heap.objs.size := by simpa using hI'
    have hlp := Heap.lt_size (N p hp).1
    rcases hb' with e | e
    · exact ktu_ne 1 hlp e
    · exact Nat.ne_of_lt hlp e
  · exact ⟨⟨.none, hE⟩, hI⟩
  · rintro i v m₁ nx h tk own hi ⟨T, vals, rfl, ⟨t, x, ⟨c, u, hc, rfl⟩, rfl⟩, hT⟩ hJ ho F' N'
    have hg := ints_get hc
    have hr := ints_in (List.mem_of_getElem? hg)
    exact turn i _ T t u m₁ nx h tk own hg hr.1 hr.2 hT hJ ho F' N'
  · intro m₁ nx h tk hJ
    rw [← ints_length] at hJ
    exact done m₁ nx h tk hJ

/-- for x, y in zip(bytes, list, strict=False) -/
theorem turns_zipB {elts : List Expr} {kk : Nat} {pos : Pos} {bs : Array UInt8} {tb : Tok} {ks : List Int} {l : Addr} {lo : Obj} {vs : List Value} {nn : Nat} {m₀ : Str → Option Value} {news : List (Addr × Obj)}
    (J : Nat → (Str → Option Value) → List (Addr × Obj) → Prop)
    (hh : A.handled = none) (hk : bInts bs = ks)
    (F : Fr h₀ env.locals s.heap m₀) (N : News h₀ env.locals s.heap news) (hm : (l, lo) ∈ news) (hc : lo.cls = .type "list") (hd : lo.data = .seq vs.toArray nn)
    (hkeep : ∀ i m nx, J i m nx → (l, lo) ∈ nx) (hj : J 0 m₀ news)
    (turn : ∀ (i : Nat) k y T u m₁ nx h tk own, ks[i]? = some k → 0 ≤ k → k < 256 → vs[i]? = some y → IsTup h T #[.int k u, y] → J i m₁ nx → OwnOff own (nx.map (·.1)) → Fr h₀ env.locals h m₁ → News h₀ env.locals h (nx ++ own) →
      wpAny (model prog w) A (assign (.Tuple elts kk pos) env (.ref T)) (fun _ s₃ => wpAny (model prog w) A (execs body env) (TPost h₀ env.locals (J (i + 1)) own { s with heap := h, toks := tk } Q) E s₃) E { s with heap := h, toks := tk })
    (done : ∀ m₁ nx h tk, J (min ks.length vs.length) m₁ nx → Fr h₀ env.locals h m₁ → News h₀ env.locals h nx → Q .next { s with heap := h, toks := tk }) :
    wpAny (model prog w) A (call (.type "zip") [.bytes bs tb, .ref l] kwStrict) (fun xv s₁ => wpAny (model prog w) A (pyIter xv) (fun it s₂ => TurnsAt prog w A h₀ env (.Tuple elts kk pos) body Q E it s₂) E s₁) E s := by
  subst hk
  have hax := N _ hm
  have hl : s.heap.IsList l vs.toArray := ⟨lo, hax.1, hc, nn, hd⟩
  have hlt : l < s.heap.objs.size := Heap.lt_size hax.1
  have hLs : env.locals < s.heap.objs.size := F.ns.lt
  have D : ZbApart (s.heap.objs.size + 4) (s.heap.objs.size + 2) (s.heap.objs.size + 3) s.heap.objs.size (s.heap.objs.size + 1) l := by
    generalize s.heap.objs.size = z at hlt
    replace hlt := ltN hlt
    constructor <;> (refine neN ?_; omega)
  refine call_zip_B hl fun h' hz hTI hTO hi1 hi2 hsz hk => ?_
  refine wpAny_pyIter_zip hz ?_
  have W := (KTurns.ofWalksU (elts := elts) (k := kk) (pos := pos) (walksT_zb (prog := prog) (w := w) hh _ _ _ _ _ _ D bs tb vs.toArray).toU)
  have sub4 : ∀ b ∈ [s.heap.objs.size + 4, s.heap.objs.size + 3, s.heap.objs.size, s.heap.objs.size + 1], b ∈ [s.heap.objs.size + 4, s.heap.objs.size + 2, s.heap.objs.size + 3, s.heap.objs.size, s.heap.objs.size + 1] := by
    intro b hb
    simp only [List.mem_cons, List.not_mem_nil, or_false] at hb
    rcases hb with h | h | h | h <;> simp [h]
  refine turns_at (tk0 := s.toks) (wr := [s.heap.objs.size + 4, s.heap.objs.size + 2, s.heap.objs.size + 3, s.heap.objs.size, s.heap.objs.size + 1]) (keep := [(l, lo)]) (fp := [s.heap.objs.size + 4, s.heap.objs.size + 2, s.heap.objs.size + 3, s.heap.objs.size, s.heap.objs.size + 1, l]) J
    { sub := fun b hb => by simp at hb; rcases hb with h | h | h | h | h <;> simp [h]
      frame := W.frame
      item := fun i s Q E hi hst hQ => W.item i s Q E hi hst fun v h' tk hm hk => hQ v h' tk hm fun b o hb => hk b o fun hb' => hb (sub4 b hb')
      go := fun i v s Q E hm hQ => W.go i v s Q E hm fun h' hp hst hk => hQ h' hp hst fun b o hb => hk b o fun hb' => hb (sub4 b hb')
      done := fun s Q E hst hQ => W.done s Q E hst fun h' tk hk => hQ h' tk fun b o hb => hk b o fun hb' => hb (sub4 b hb') } ?_ ?_ ?_ ?_ ?_ ?_ ?_ (F.keeps hk) (N.grown hk) hj ?_ ?_
  · rintro i h ⟨hz, hTI, ⟨a, b, hTO⟩, ⟨o1, ho1, hc1, _⟩, ⟨o2, ho2, hc2, _⟩, _⟩ b hb
    have hb' : b = s.heap.objs.size + 4 ∨ b = s.heap.objs.size + 2 ∨ b = s.heap.objs.size + 3 ∨ b = s.heap.objs.size ∨ b = s.heap.objs.size + 1 := by simpa using hb
    rcases hb' with rfl | rfl | rfl | rfl | rfl
    · exact ⟨_, hz⟩
    · exact ⟨_, hTI⟩
    · exact ⟨_, hTO⟩
    · exact ⟨_, ho1⟩
    · exact ⟨_, ho2⟩
  · intro b hb
    have hb' : b = s.heap.objs.size + 4 ∨ b = s.heap.objs.size + 2 ∨ b = s.heap.objs.size + 3 ∨ b = s.heap.objs.size ∨ b = s.heap.objs.size + 1 ∨ b = l := by simpa using hb
    rcases hb' with rfl | rfl | rfl | rfl | rfl | rfl
    · exact .inl (by simp)
    · exact .inl (by simp)
    · exact .inl (by simp)
    · exact .inl (by simp)
    · exact .inl (by simp)
    · exact .inr ⟨lo, by simp⟩
  · intro i m nx hJ p hp
    rw [List.mem_singleton.mp hp]
    exact hkeep i m nx hJ
  · intro hI'
    have hb' : env.locals = s.heap.objs.size + 4 ∨ env.locals = s.heap.objs.size + 2 ∨ env.locals = s.heap.objs.size + 3 ∨ env.locals = s.heap.objs.size ∨ env.locals = s.heap.objs.size + 1 ∨ env.locals = l := by simpa using hI'
    rcases hb' with e | e | e | e | e | e
    · exact ktu_ne 4 hLs e
    · exact ktu_ne 2 hLs e
    · exact ktu_ne 3 hLs e
    · exact Nat.ne_of_lt hLs e
    · exact ktu_ne 1 hLs e
    · exact hax.2.1 e.symm
  · intro b hb
    have hb' : b = s.heap.objs.size + 4 ∨ b = s.heap.objs.size + 2 ∨ b = s.heap.objs.size + 3 ∨ b = s.heap.objs.size ∨ b = s.heap.objs.size + 1 := by simpa using hb
    rcases hb' with rfl | rfl | rfl | rfl | rfl
    · exact ktu_new F (Nat.le_add_right _ _)
    · exact ktu_new F (Nat.le_add_right _ _)
    · exact ktu_new F (Nat.le_add_right _ _)
    · exact ktu_new F (Nat.le_refl _)
    · exact ktu_new F (Nat.le_add_right _ _)
  · intro p hp hI'
    have hb' : p.1 = s.heap.objs.size + 4 ∨ p.1 = s.heap.objs.size + 2 ∨ p.1 = s.heap.objs.size + 3 ∨ p.1 = s.heap.objs.size ∨ p.1 = s.heap.objs.size + 1 := by simpa using hI'
    have hlp := Heap.lt_size (N p hp).1
    rcases hb' with e | e | e | e | e
    · exact ktu_ne 4 hlp e
    · exact ktu_ne 2 hlp e
    · exact ktu_ne 3 hlp e
    · exact Nat.ne_of_lt hlp e
    · exact ktu_ne 1 hlp e
  · exact ⟨hz, hTI, ⟨_, _, hTO⟩, hi1, hi2, hl.at fun o e => hk l o e⟩
  · rintro i v m₁ nx h tk own hi ⟨T, vals, rfl, ⟨c, u, y, hc, hy, rfl⟩, hT⟩ hJ ho F' N'
    have hg := ints_get hc
    have hr := ints_in (List.mem_of_getElem? hg)
    exact turn i _ y T u m₁ nx h tk own hg hr.1 hr.2 (by simpa using hy) hT hJ ho F' N'
  · intro m₁ nx h tk hJ
    rw [← ints_length, List.size_toArray] at hJ
    exact done m₁ nx h tk hJ

/-- for k, x in enumerate(list) -/
theorem turns_enumL {elts : List Expr} {kk : Nat} {pos : Pos} {l : Addr} {lo : Obj} {vs : List Value} {nn : Nat} {m₀ : Str → Option Value} {news : List (Addr × Obj)}
    (J : Nat → (Str → Option Value) → List (Addr × Obj) → Prop)
    (hh : A.handled = none)
    (F : Fr h₀ env.locals s.heap m₀) (N : News h₀ env.locals s.heap news) (hm : (l, lo) ∈ news) (hc : lo.cls = .type "list") (hd : lo.data = .seq vs.toArray nn)
    (hkeep : ∀ i m nx, J i m nx → (l, lo) ∈ nx) (hj : J 0 m₀ news)
    (turn : ∀ (i : Nat) v T t m₁ nx h tk own, vs[i]? = some v → IsTup h T #[.int (i : Int) t, v] → J i m₁ nx → OwnOff own (nx.map (·.1)) → Fr h₀ env.locals h m₁ → News h₀ env.locals h (nx ++ own) →
      wpAny (model prog w) A (assign (.Tuple elts kk pos) env (.ref T)) (fun _ s₃ => wpAny (model prog w) A (execs body env) (TPost h₀ env.locals (J (i + 1)) own { s with heap := h, toks := tk } Q) E s₃) E { s with heap := h, toks := tk })
    (done : ∀ m₁ nx h tk, J vs.length m₁ nx → Fr h₀ env.locals h m₁ → News h₀ env.locals h nx → Q .next { s with heap := h, toks := tk }) :
    wpAny (model prog w) A (call (.type "enumerate") [.ref l]) (fun xv s₁ => wpAny (model prog w) A (pyIter xv) (fun it s₂ => TurnsAt prog w A h₀ env (.Tuple elts kk pos) body Q E it s₂) E s₁) E s := by
  have hax := N _ hm
  have hl : s.heap.IsList l vs.toArray := ⟨lo, hax.1, hc, nn, hd⟩
  have hlt : l < s.heap.objs.size := Heap.lt_size hax.1
  have hLs : env.locals < s.heap.objs.size := F.ns.lt
  refine call_enumerate_list hl fun h' hE hI hsz hk => ?_
  refine wpAny_pyIter_enum hE ?_
  refine turns_at (tk0 := s.toks) (keep := [(l, lo)]) J (KTurns.ofWalksU (WalksT.enumerate hh (s.heap.objs.size + 1) s.heap.objs.size l (Nat.succ_ne_self _) (ktu_ne 1 hlt) (Nat.ne_of_lt hlt) vs.toArray).toU) ?_ ?_ ?_ ?_ ?_ ?_ ?_ (F.keeps hk) (N.grown hk) hj ?_ ?_
  · rintro i h ⟨⟨old, he⟩, ⟨oi, hoi, hic, _⟩, _⟩ b hb
    have hb' : b = s.heap.objs.size + 1 ∨ b = s.heap.objs.size := by simpa using hb
    rcases hb' with rfl | rfl
    · exact ⟨_, he⟩
    · exact ⟨_, hoi⟩
  · intro b hb
    have hb' : b = s.heap.objs.size + 1 ∨ b = s.heap.objs.size ∨ b = l := by simpa using hb
    rcases hb' with rfl | rfl | rfl
    · exact .inl (by simp)
    · exact .inl (by simp)
    · exact .inr ⟨lo, by simp⟩
  · intro i m nx hJ p hp
    rw [List.mem_singleton.mp hp]
    exact hkeep i m nx hJ
  · intro hI'
    have hb' : env.locals = s.heap.objs.size + 1 ∨ env.locals = s.heap.objs.size ∨ env.locals = l := by simpa using hI'
    rcases hb' with e | e | e
    · exact ktu_ne 1 hLs e
    · exact Nat.ne_of_lt hLs e
    · exact hax.2.1 e.symm
  · intro b hb
    have hb' : b = s.heap.objs.size + 1 ∨ b = s.heap.objs.size := by simpa using hb
    rcases hb' with rfl | rfl
    · exact ktu_new F (Nat.le_add_right _ _)
    · exact ktu_new F (Nat.le_refl _)
  · intro p hp hI'
    have hb' : p.1 = s.heap.objs.size + 1 ∨ p.1 = s.heap.objs.size := by simpa using hI'
    have hlp := Heap.lt_size (N p hp).1
    rcases hb' with e | e
    · exact ktu_ne 1 hlp e
    · exact Nat.ne_of_lt hlp e
  · exact ⟨⟨.none, hE⟩, hI, hl.at fun o e => hk l o e⟩
  · rintro i v m₁ nx h tk own hi ⟨T, vals, rfl, ⟨t, x, hx, rfl⟩, hT⟩ hJ ho F' N'
    exact turn i x T t m₁ nx h tk own (by simpa using hx) hT hJ ho F' N'
  · intro m₁ nx h tk hJ
    rw [List.size_toArray] at hJ
    exact done m₁ nx h tk hJ
end
end Mine
end
section
open PySem PySem.W PySem.Calls PyProof.Rows PySem.W.KBw
set_option maxHeartbeats 4000000
namespace Mine
def OctAt (bs : Array UInt8) (i : Nat) (v : Value) : Prop := ∃ c u, bs[i]? = some c ∧ v = .int ((c : UInt8).toNat : Int) u
theorem ints_flat0 (n : Nat) : bInts ((List.replicate n ([0] : List UInt8)).flatten).toArray = List.replicate n (0 : Int) := by
  induction n with
  | zero => rfl
  | succ n ih =>
    simp only [bInts, List.replicate_succ, List.flatten_cons, List.map_append] at ih ⊢
    rw [ih]; rfl
section
variable {prog : Program} {w : World} {A : Around} {E : Value → Shared → Prop} {s : Shared}
theorem extend_bytes {R : Result → Shared → Prop} (hh : A.handled = none) (bs : Array UInt8) (t : Tok) (S : Addr) (res : Value) (c₀ : Nat) (hS : s.heap.get? S = some { cls := .type "list", data := .seq #[] c₀ })
    (hR : ∀ h' tk acc' c', (∀ b o, b ≠ S → s.heap.get? b = some o → h'.get? b = some o) → h'.get? S = some { cls := .type "list", dict := none, data := .seq acc' c', slots := #[] } →
      ItemsOf (OctAt bs) acc' bs.size → R (.ok (.ret res)) { s with heap := h', toks := tk }) (hn : bs.size ≤ sizeLine) :
    wpAny (model prog w) A.in1 (Builtin.List.listExtendWith (.ref S) (.bytes bs t) res)
      (fun fin s' => match fin with | .done f => R (.ok f) s' | .again c' => c'.quiet = true ∧ codeAny (model prog w) A c' R s') (fun e s' => R (.error e) s') s := by
  have hSI : S ≠ s.heap.objs.size := Nat.ne_of_lt (Heap.lt_size hS)
  have hSf : S ∉ [s.heap.objs.size] := fun hm => hSI (List.mem_singleton.mp hm)
  unfold Builtin.List.listExtendWith
  refine wpAny_bind (wpAny_typeOf (T := "bytes") (v := .bytes bs t) rfl ?_)
  have h1 : Builtin.List.listSameRef (.ref S) (.bytes bs t) = false := rfl
  have h2 : (Value.type "bytes" == Value.type "list") = false := by decide
  have h3 : (Value.type "bytes" == Value.type "tuple") = false := by decide
  simp only [h1, h2, h3, Bool.or_false, Bool.false_eq_true, if_false]
  refine wpAny_bind (KBw.pyIter_bytes ?_)
  refine wpAny_bind (wpAny_holding ?_)
  unfold Builtin.List.listLengthHint
  refine wpAny_bind (wpAny_specialOf (T := "bytes") (v := .bytes bs t) rfl FB.slot_bytes_len.lookup ?_)
  wp_delta
  refine wpAny_bind (wpAny_isInstance (T := "bytes") (v := .bytes bs t) (b := true) rfl (by rw [isSubtype_type]; kernel_rfl) ?_)
  show wpAny _ _ (typeOf (Value.bytes bs t) >>= _) _ _ _
  refine wpAny_bind (wpAny_typeOf (T := "bytes") (v := .bytes bs t) rfl ?_)
  refine wpAny_pure ?_
  rw [if_neg (by decide)]
  have W := KBw.walks (prog := prog) (w := w) (A := A.in1) hh s.heap.objs.size bs t
  refine wpAny_pure ⟨plainId_quiet PySem.F.plain_extend_loop _, codeAny_extend_loopS W.toS hn _ hSf _ bs.size 0 _ _ _ rfl (Nat.zero_le _) ⟨_, Heap.get?_push_size _ rfl, rfl, rfl⟩ (Heap.get?_push_of_some _ hS) (ItemsOf.nil _) fun s' acc' c' hm hS' hacc => ?_⟩
  rw [Moved.eq_with hm]
  refine hR s'.heap s'.toks acc' c' (fun b ob hb e => hm.heap b ob (fun hmem => ?_) (Heap.get?_push_of_some _ e)) hS' hacc
  rcases List.mem_cons.mp hmem with e' | hmem
  · exact hb e'
  · exact absurd (Heap.lt_size e) (by rw [List.mem_singleton.mp hmem]; exact Nat.lt_irrefl _)

theorem list_init_bytes {R : Result → Shared → Prop} (hh : A.handled = none) (bs : Array UInt8) (t : Tok) (S : Addr) (hS : s.heap.get? S = some { cls := .type "list", data := .seq #[] })
    (hR : ∀ h' tk acc' c', (∀ b o, b ≠ S → s.heap.get? b = some o → h'.get? b = some o) → h'.get? S = some { cls := .type "list", dict := none, data := .seq acc' c', slots := #[] } →
      ItemsOf (OctAt bs) acc' bs.size → R (.ok (.ret .none)) { s with heap := h', toks := tk }) (hn : bs.size ≤ sizeLine) :
    wpAny (model prog w) A.in1 (Builtin.«list.__init__» ⟨[.ref S, .bytes bs t], []⟩)
      (fun fin s' => match fin with | .done f => R (.ok f) s' | .again c' => c'.quiet = true ∧ codeAny (model prog w) A c' R s') (fun e s' => R (.error e) s') s := by
  show wpAny _ _ (do let old ← Builtin.List.listItems (.ref S); Builtin.List.listUpdate (.ref S) (fun _ => #[]); letGo old.toList.reverse; Builtin.List.listExtendWith (.ref S) (.bytes bs t) .none) _ _ s
  refine wpAny_bind ?_
  unfold Builtin.List.listItems
  refine wpAny_bind (wpAny_seqItems hS rfl (wpAny_pure ?_))
  show wpAny _ _ (updateSeq S (fun _ => #[]) >>= fun _ => letGo (#[] : Array Value).toList.reverse >>= fun _ => Builtin.List.listExtendWith (.ref S) (.bytes bs t) .none) _ _ s
  refine wpAny_bind (wpAny_updateSeq hS rfl ?_)
  have hS₂ := Heap.get?_update_self (Obj.mapSeq (fun _ => (#[] : Array Value))) hS rfl
  have oth : ∀ b o, b ≠ S → s.heap.get? b = some o → (s.heap.update S (Obj.mapSeq (fun _ => (#[] : Array Value)))).get? b = some o :=
    fun b o hb e => (Heap.get?_update_other _ _ (Ne.symm hb)).trans e
  refine wpAny_bind (wpAny_letGo ?_)
  refine extend_bytes (hn := hn) hh bs t S .none _ hS₂ fun h' tk acc' c' hk hS' hacc => ?_
  exact hR h' tk acc' c' (fun b o hb e => hk b o hb (oth b o hb e)) hS' hacc

theorem call_list_bytes {Q : Value → Shared → Prop} (hh : A.handled = none) (bs : Array UInt8) (t : Tok)
    (hQ : ∀ h' tk acc' c', (∀ b o, s.heap.get? b = some o → h'.get? b = some o) →
      h'.get? s.heap.objs.size = some { cls := .type "list", dict := none, data := .seq acc' c', slots := #[] } → ItemsOf (OctAt bs) acc' bs.size → Q (.ref s.heap.objs.size) { s with heap := h', toks := tk }) (hn : bs.size ≤ sizeLine) :
    wpAny (model prog w) A (call (.type "list") [.bytes bs t]) Q E s := by
  refine callType_codes (Q₁ := fun obj s₁ => obj = .ref s.heap.objs.size ∧ s₁ = { s with heap := s.heap.push { cls := .type "list", data := .seq #[] } }) PySem.F.called_list (PySem.F.typeCall_list_1 _) PySem.F.entry_list_init
    (code_list_new _ ⟨rfl, rfl⟩) fun obj s₁ h₁ => ?_
  obtain ⟨rfl, rfl⟩ := h₁
  have hS : (s.heap.push { cls := .type "list", data := .seq #[] }).get? s.heap.objs.size = some { cls := .type "list", data := .seq #[] } := Heap.get?_push_size _ rfl
  refine ⟨⟨_, hS, rfl⟩, PySem.F.args_list_init_2 _ _, list_init_bytes (A := A.in1) (hn := hn) hh bs t _ hS fun h' tk acc' c' hk hS' hacc => ?_⟩
  exact ⟨rfl, hQ h' tk acc' c' (fun b o e => hk b o (Nat.ne_of_lt (Heap.lt_size e)) (Heap.get?_push_of_some _ e)) hS' hacc⟩

theorem intsAre_of_get : ∀ {vs : List Value} {ns : List Int}, vs.length = ns.length → (∀ (i : Nat) (v : Value), vs[i]? = some v → ∃ k t, ns[i]? = some k ∧ v = .int k t) → IntsAre vs ns
  | [], [], _, _ => .nil
  | [], _ :: _, h, _ => by simp at h
  | _ :: _, [], h, _ => by simp at h
  | v :: vs, n :: ns, h, g => by
    obtain ⟨k, t, hk, rfl⟩ := g 0 v rfl
    simp at hk
    subst hk
    exact .cons _ _ (intsAre_of_get (by simpa using h) fun i v hv => by simpa using g (i + 1) v (by simpa using hv))

variable {h₀ : Heap} {L : Addr} {m : Str → Option Value} {news : List (Addr × Obj)}
/-- list(bytes): a new list of its ints, upon the ledger -/
theorem list_bytes_K {bs : Array UInt8} {ks : List Int} {t : Tok} {Q : Value → Shared → Prop} (hh : A.handled = none) (F : Fr h₀ L s.heap m) (N : News h₀ L s.heap news) (hk : bInts bs = ks) (hz : ks.length ≤ sizeLine)
    (h : ∀ D h' tk vs c, IntsAre vs ks → vs.length = ks.length → Fr h₀ L h' m → News h₀ L h' ((D, W.listOf vs.toArray c) :: news) → (∀ p ∈ news, p.1 < D) → Q (.ref D) { s with heap := h', toks := tk }) :
    wpAny (model prog w) A (call (.type "list") [.bytes bs t]) Q E s := by
  subst hk
  refine call_list_bytes hh bs t (fun h' tk acc' c' hk hS hacc => ?_) (by rw [ints_length] at hz; exact hz)
  have hL : acc'.toList.length = (bInts bs).length := by rw [ints_length, Array.length_toList, hacc.1]
  refine h s.heap.objs.size h' tk acc'.toList c' (intsAre_of_get hL fun i v hv => ?_) hL (F.keeps hk) ?_ fun p hp => Heap.lt_size (N p hp).1
  · obtain ⟨c, u, hc, rfl⟩ := hacc.2 i v (by simpa using hv)
    exact ⟨_, u, ints_get hc, rfl⟩
  · intro p hp
    rcases List.mem_cons.mp hp with rfl | hp
    · refine ⟨by simpa [W.listOf] using hS, Nat.ne_of_gt F.ns.lt, next_is_new F⟩
    · exact ⟨hk _ _ (N p hp).1, (N p hp).2⟩
end
end Mine
end
section
open PySem PySem.W PySem.Calls PyProof.Rows PySem.W.KBw
set_option maxHeartbeats 4000000
namespace Mine
/-- the ways of a part meet: what it hands on is told by R, the frame and the ledger stand as before -/
def Joined {α : Type} (h₀ : Heap) (L : Addr) (m : Str → Option Value) (news : List (Addr × Obj)) (R : α → Prop) (s : Shared) (v : α) (s' : Shared) : Prop :=
  ∃ h k, s' = { s with heap := h, toks := k } ∧ Fr h₀ L h m ∧ News h₀ L h news ∧ R v
theorem joined {α : Type} {h₀ h : Heap} {k : Nat} {L : Addr} {m : Str → Option Value} {news news' : List (Addr × Obj)} {R : α → Prop} {s : Shared} {v : α} (F : Fr h₀ L h m) (N : News h₀ L h news') (hs : ∀ p ∈ news, p ∈ news') (r : R v) :
    Joined h₀ L m news R s v { s with heap := h, toks := k } := ⟨h, k, rfl, F, cb_drop N hs, r⟩
theorem wp_join {α : Type} {M : Model} {A : Around} {E : Value → Shared → Prop} {s : Shared} {h₀ : Heap} {L : Addr} {m : Str → Option Value} {news : List (Addr × Obj)} {t : Sem α} {Q : α → Shared → Prop} (_F : Fr h₀ L s.heap m) (_N : News h₀ L s.heap news) (R : α → Prop)
    (h₁ : wpAny M A t (Joined h₀ L m news R s) E s)
    (h₂ : ∀ v h k, R v → Fr h₀ L h m → News h₀ L h news → Q v { s with heap := h, toks := k }) : wpAny M A t Q E s :=
  wpAny_mono h₁ (fun v s' ⟨h, k, e, F, N, r⟩ => by subst e; exact h₂ v h k r F N) fun _ _ x => x
/-- the same with a store: the frame and the ledger are told anew -/
def JoinedF {α : Type} (h₀ : Heap) (L : Addr) (R : α → (Str → Option Value) → List (Addr × Obj) → Prop) (s : Shared) (v : α) (s' : Shared) : Prop :=
  ∃ h k m news, s' = { s with heap := h, toks := k } ∧ Fr h₀ L h m ∧ News h₀ L h news ∧ R v m news
theorem joinedF {α : Type} {h₀ h : Heap} {k : Nat} {L : Addr} {m : Str → Option Value} {news' : List (Addr × Obj)} {R : α → (Str → Option Value) → List (Addr × Obj) → Prop} {s : Shared} {v : α} (news : List (Addr × Obj)) (F : Fr h₀ L h m) (N : News h₀ L h news') (hs : ∀ p ∈ news, p ∈ news') (r : R v m news) :
    JoinedF h₀ L R s v { s with heap := h, toks := k } := ⟨h, k, m, news, rfl, F, cb_drop N hs, r⟩
theorem wp_joinF {α : Type} {M : Model} {A : Around} {E : Value → Shared → Prop} {s : Shared} {h₀ : Heap} {L : Addr} {m₀ : Str → Option Value} {t : Sem α} {Q : α → Shared → Prop} (_F : Fr h₀ L s.heap m₀) (R : α → (Str → Option Value) → List (Addr × Obj) → Prop)
    (h₁ : wpAny M A t (JoinedF h₀ L R s) E s)
    (h₂ : ∀ v h k m news, R v m news → Fr h₀ L h m → News h₀ L h news → Q v { s with heap := h, toks := k }) : wpAny M A t Q E s :=
  wpAny_mono h₁ (fun v s' ⟨h, k, m, news, e, F, N, r⟩ => by subst e; exact h₂ v h k m news r F N) fun _ _ x => x
theorem fr_pairs {h₀ h : Heap} {L : Addr} {m : Str → Option Value} {ps : List (Str × Value)} (F : Fr h₀ L h m) (hp : ∀ p ∈ ps, m p.1 = some p.2) : Fr h₀ L h (kstB m ps) := by
  have e : kstB m ps = m := funext fun z => kstB_eq hp fun _ => rfl
  rw [e]; exact F
theorem tend_next {h₀ : Heap} {L : Addr} {J : (Str → Option Value) → List (Addr × Obj) → Prop} {own : List (Addr × Obj)} {s₁ s₂ : Shared} {Q : Flow → Shared → Prop} (h : TEnd h₀ L J own s₁ s₂) : TPost h₀ L J own s₁ Q .next s₂ := h
theorem tend_intro {h₀ h' : Heap} {L : Addr} {J : (Str → Option Value) → List (Addr × Obj) → Prop} {own news' : List (Addr × Obj)} {s₁ : Shared} {tk : Nat} {m' : Str → Option Value} (nx : List (Addr × Obj))
    (F : Fr h₀ L h' m') (N : News h₀ L h' news') (hn : ∀ p ∈ nx, p ∈ news') (ho : ∀ p ∈ own, p ∈ news') (ha : ∀ p ∈ own, ∀ q ∈ nx, p.1 ≠ q.1) (hj : J m' nx) :
    TEnd h₀ L J own s₁ { s₁ with heap := h', toks := tk } := ⟨h', tk, m', news', nx, rfl, F, N, hn, ho, ha, hj⟩
theorem off_cons {own nx : List (Addr × Obj)} {a : Addr} {o : Obj} (h : ∀ p ∈ own, p.1 ≠ a) (hr : ∀ p ∈ own, ∀ q ∈ nx, p.1 ≠ q.1) : ∀ p ∈ own, ∀ q ∈ (a, o) :: nx, p.1 ≠ q.1 := by
  intro p hp q hq
  rcases List.mem_cons.mp hq with rfl | hq
  · exact h p hp
  · exact hr p hp q hq
theorem off_own {own nx : List (Addr × Obj)} (h : OwnOff own (nx.map (·.1))) : ∀ p ∈ own, ∀ q ∈ nx, p.1 ≠ q.1 := fun p hp _ hq => h p hp _ (List.mem_map.mpr ⟨_, hq, rfl⟩)
theorem off_tail {own : List (Addr × Obj)} {as : List Addr} {a : Addr} (h : OwnOff own (a :: as)) : OwnOff own as := fun p hp b hb => h p hp b (List.mem_cons_of_mem _ hb)
end Mine
end
section
open PySem PySem.W PySem.Calls PyProof.Rows PySem.W.KBw
set_option maxHeartbeats 4000000
namespace Mine
/-- how many turns range(0, len, nb + 1) has -/
def nRows (len S : Nat) : Nat := if len = 0 then 0 else (len - 1) / S + 1
theorem range_rows {len S : Nat} (hS : 0 < S) : Builtin.Range.rangeSize 0 (len : Int) (S : Int) = (nRows len S : Int) := by
  unfold Builtin.Range.rangeSize nRows
  rw [if_pos (by omega)]
  by_cases h : len = 0
  · subst h; simp
  · rw [if_pos (by omega), if_neg h]
    have : ((len : Int) - 0 - 1) = ((len - 1 : Nat) : Int) := by omega
    rw [this]; simp
theorem rows_in {len S i : Nat} (_hS : 0 < S) (hi : i < nRows len S) : i * S < len := by
  unfold nRows at hi
  by_cases h : len = 0
  · rw [if_pos h] at hi; omega
  · rw [if_neg h] at hi
    have h1 : i ≤ (len - 1) / S := by omega
    have h2 := Nat.mul_le_of_le_div S i (len - 1) h1
    omega
theorem rows_out {len S : Nat} (hS : 0 < S) : len ≤ nRows len S * S := by
  unfold nRows
  by_cases h : len = 0
  · rw [if_pos h]; omega
  · rw [if_neg h]
    have := Nat.lt_div_mul_add (a := len - 1) hS
    rw [Nat.add_mul]; omega
theorem rows_le {len S : Nat} (hS : 0 < S) : nRows len S ≤ len := by
  unfold nRows
  by_cases h : len = 0
  · rw [if_pos h]; omega
  · rw [if_neg h]
    have := Nat.div_le_self (len - 1) S
    omega
theorem fits_long {i : Int} (h0 : 0 ≤ i) (h1 : i ≤ 4000000) : Builtin.Range.rangeFitsLong i = true := by
  unfold Builtin.Range.rangeFitsLong
  simp; omega
theorem small_rows {len S : Nat} (hl : len ≤ 1000000) (hS0 : 0 < S) (hS : S ≤ 1000000) : Builtin.Range.small 0 (len : Int) (S : Int) = true := by
  have h := rows_le (len := len) hS0
  unfold Builtin.Range.small
  rw [range_rows hS0, fits_long (by omega) (by omega), fits_long (by omega) (by omega), fits_long (by omega) (by omega), fits_long (by omega) (by omega), if_pos (by omega), fits_long (by omega) (by omega)]
  simp
end Mine
namespace Mine
theorem take_min (ks : List Int) (a S : Nat) : List.take (min (a + S) ks.length - a) (List.drop a ks) = List.take S (List.drop a ks) := by
  rcases Nat.le_total (a + S) ks.length with h | h
  · rw [Nat.min_eq_left h, Nat.add_sub_cancel_left]
  · rw [Nat.min_eq_right h, List.take_of_length_le (Nat.le_of_eq List.length_drop), List.take_of_length_le]
    rw [List.length_drop]
    exact Nat.sub_le_iff_le_add'.mpr h
theorem enc_eq (ks : List Int) (nb o : Nat) (ho : o < ks.length) :
    List.take (clipAt ks.length ((o : Int) + 1 + (nb : Int)) - clipAt ks.length ((o : Int) + 1)) (List.drop (clipAt ks.length ((o : Int) + 1)) ks) = (ks.drop (o + 1)).take nb := by
  have e1 : ((o : Int) + 1 + (nb : Int)) = ((o + 1 + nb : Nat) : Int) := by omega
  have e2 : ((o : Int) + 1) = ((o + 1 : Nat) : Int) := by omega
  have e3 : min (o + 1) ks.length = o + 1 := Nat.min_eq_left ho
  rw [e1, e2, clipAt_nat, clipAt_nat, e3]
  exact take_min ks (o + 1) nb
end Mine
namespace Mine
section
variable {prog : Program} {w : World} {A : Around} {E : Value → Shared → Prop} {s : Shared} {h₀ : Heap} {L D b : Addr} {m : Str → Option Value} {news : List (Addr × Obj)}
theorem updF_at {d : Addr} {o : Obj} : ∀ {l : List (Addr × Obj)} {g : Obj → List (Addr × Obj)}, UpdF d o l g → ∀ o', Upd d o o' l (g o')
  | _, _, .head h => fun _ => .head h
  | _, _, .tail h r => fun o' => .tail h (updF_at r o')
/-- xs.extend(ys): a longer list upon the ledger -/
theorem extend_K {us vs : List Value} {nu nv : Nat} {g : Obj → List (Addr × Obj)} {Q : Value → Shared → Prop} (F : Fr h₀ L s.heap m) (N : News h₀ L s.heap news) (hb : (b, W.listOf vs.toArray nv) ∈ news)
    (U : UpdF D (W.listOf us.toArray nu) news g) (hz : us.length + vs.length ≤ 1000000)
    (h : ∀ h' c, Fr h₀ L h' m → News h₀ L h' (g (W.listOf (us ++ vs).toArray c)) → Q .none { s with heap := h' }) : wpAny (model prog w) A (call (.builtin "list.extend") [.ref D, .ref b]) Q E s := by
  have hz1 : us.toArray.toList.length ≤ sizeLine := by rw [sizeLine_eq]; simp; omega
  have hz2 : us.toArray.size + vs.toArray.size ≤ sizeLine + 1 := by rw [sizeLine_eq, List.size_toArray, List.size_toArray]; omega
  have hd : ¬(!us.toArray.isEmpty && Builtin.List.listTooLong (us.toArray.size + vs.toArray.size)) = true := by
    have : Builtin.List.listTooLong (us.toArray.size + vs.toArray.size) = false := by
      unfold Builtin.List.listTooLong
      rw [sizeLine_eq, List.size_toArray, List.size_toArray]
      simp; omega
    rw [this]; simp
  by_cases e : vs = []
  · subst e
    refine kxn_extend F N hb rfl (updF_at U _) hd hz1 hz2 fun h' F' N' => h h' nu F' ?_
    simpa using N'
  · refine kl_extend F N hb (l := us ++ vs) (by simp) (by simpa using e) (updF_at U _) hd hz1 hz2 fun h' F' N' => h h' (nu + 1) F' N'
end
end Mine
end
section
set_option maxHeartbeats 4000000
namespace Mine
def pabs (x : Int) : Int := if x < 0 then -x else x
def paeth (a b c : Int) : Int :=
  if pabs (a + b - c - a) ≤ pabs (a + b - c - b) ∧ pabs (a + b - c - a) ≤ pabs (a + b - c - c) then a
  else if pabs (a + b - c - b) ≤ pabs (a + b - c - c) then b else c
/-- what a row's kind foretells of an octet -/
def predOf (ft left up corner : Int) : Int :=
  if ft = 1 then left else if ft = 2 then up else if ft = 3 then (left + up) / 2 else if ft = 4 then paeth left up corner else 0
def stepPix (ft : Int) (bp : Nat) (above raw : List Int) (x : Int) : Int :=
  (x + predOf ft (if raw.length < bp then 0 else raw.getD (raw.length - bp) 0) (above.getD raw.length 0) (if raw.length < bp then 0 else above.getD (raw.length - bp) 0)) % 256
/-- a row told again -/
def decRow (ft : Int) (bp : Nat) (above enc : List Int) : List Int := enc.foldl (fun raw x => raw ++ [stepPix ft bp above raw x]) []
def encAt (ks : List Int) (nb o : Nat) : List Int := (ks.drop (o + 1)).take nb
/-- what is told and the last row, behind i rows -/
def pst (ks : List Int) (nb bp k : Nat) : Nat → List Int × List Int
  | 0 => ([], List.replicate k 0)
  | i + 1 => ((pst ks nb bp k i).1 ++ decRow (ks.getD (i * (nb + 1)) 0) bp (pst ks nb bp k i).2 (encAt ks nb (i * (nb + 1))), decRow (ks.getD (i * (nb + 1)) 0) bp (pst ks nb bp k i).2 (encAt ks nb (i * (nb + 1))))
theorem decRow_snoc (ft : Int) (bp : Nat) (above enc : List Int) (x : Int) : decRow ft bp above (enc ++ [x]) = decRow ft bp above enc ++ [stepPix ft bp above (decRow ft bp above enc) x] := by
  simp [decRow, List.foldl_append]
theorem foldl_len (f : List Int → Int → Int) : ∀ (enc acc : List Int), (enc.foldl (fun raw x => raw ++ [f raw x]) acc).length = acc.length + enc.length
  | [], acc => by simp
  | x :: r, acc => by rw [List.foldl_cons, foldl_len f r]; simp; omega
theorem decRow_length (ft : Int) (bp : Nat) (above enc : List Int) : (decRow ft bp above enc).length = enc.length := by
  unfold decRow; rw [foldl_len]; simp
theorem foldl_in (f : List Int → Int → Int) (hf : ∀ r x, 0 ≤ f r x ∧ f r x < 256) : ∀ (enc acc : List Int), (∀ k ∈ acc, 0 ≤ k ∧ k < 256) → ∀ k ∈ enc.foldl (fun raw x => raw ++ [f raw x]) acc, 0 ≤ k ∧ k < 256
  | [], _, h => h
  | x :: r, acc, h => by
    rw [List.foldl_cons]
    refine foldl_in f hf r _ fun k hk => ?_
    rcases List.mem_append.mp hk with hk | hk
    · exact h k hk
    · rw [List.mem_singleton.mp hk]; exact hf _ _
theorem stepPix_in (ft : Int) (bp : Nat) (above raw : List Int) (x : Int) : 0 ≤ stepPix ft bp above raw x ∧ stepPix ft bp above raw x < 256 := by
  unfold stepPix; exact ⟨Int.emod_nonneg _ (by decide), Int.emod_lt_of_pos _ (by decide)⟩
theorem decRow_in (ft : Int) (bp : Nat) (above enc : List Int) : ∀ k ∈ decRow ft bp above enc, 0 ≤ k ∧ k < 256 :=
  foldl_in _ (fun r x => stepPix_in ft bp above r x) enc [] (fun _ h => nomatch h)
theorem take_snoc {ks : List Int} {i : Nat} {k : Int} (h : ks[i]? = some k) : ks.take (i + 1) = ks.take i ++ [k] := by simp [List.take_add_one, h]
theorem decRow_zero {bp : Nat} {above enc : List Int} (h : ∀ k ∈ enc, 0 ≤ k ∧ k < 256) : decRow 0 bp above enc = enc := by
  have : ∀ n, n ≤ enc.length → decRow 0 bp above (enc.take n) = enc.take n := by
    intro n
    induction n with
    | zero => intro _; rfl
    | succ n ih =>
      intro hn
      have hx : enc[n]? = some enc[n] := List.getElem?_eq_getElem (by omega)
      rw [take_snoc hx, decRow_snoc, ih (by omega)]
      congr 2
      have := h enc[n] (List.getElem_mem _)
      unfold stepPix predOf
      simp
      omega
  have := this enc.length (Nat.le_refl _)
  rwa [List.take_length] at this
theorem pst_in (ks : List Int) (nb bp k : Nat) : ∀ i, (∀ x ∈ (pst ks nb bp k i).1, 0 ≤ x ∧ x < 256) ∧ (∀ x ∈ (pst ks nb bp k i).2, 0 ≤ x ∧ x < 256)
  | 0 => ⟨fun _ h => by simp [pst] at h, fun x h => by simp [pst] at h; omega⟩
  | i + 1 => by
    have := pst_in ks nb bp k i
    refine ⟨fun x hx => ?_, fun x hx => decRow_in _ _ _ _ x hx⟩
    rcases List.mem_append.mp hx with hx | hx
    · exact this.1 x hx
    · exact decRow_in _ _ _ _ x hx
theorem encAt_len (ks : List Int) (nb o : Nat) : (encAt ks nb o).length ≤ nb := by unfold encAt; rw [List.length_take]; exact Nat.min_le_left _ _
theorem pst_len (ks : List Int) (nb bp k : Nat) : ∀ i, (pst ks nb bp k i).1.length ≤ i * nb
  | 0 => by simp [pst]
  | i + 1 => by
    have := pst_len ks nb bp k i
    have h2 := encAt_len ks nb (i * (nb + 1))
    show ((pst ks nb bp k i).1 ++ decRow _ _ _ _).length ≤ _
    rw [List.length_append, decRow_length, Nat.succ_mul]
    omega
end Mine
namespace Mine
def GoodRow (ks : List Int) (nb bp k i : Nat) : Prop :=
  ks.getD (i * (nb + 1)) 0 = 0 ∨ (ks.getD (i * (nb + 1)) 0 = 1 ∧ 1 ≤ bp) ∨
  ((ks.getD (i * (nb + 1)) 0 = 2 ∨ (ks.getD (i * (nb + 1)) 0 = 3 ∧ 1 ≤ bp) ∨ (ks.getD (i * (nb + 1)) 0 = 4 ∧ 1 ≤ bp)) ∧ (encAt ks nb (i * (nb + 1))).length ≤ (pst ks nb bp k i).2.length)
end Mine
end
section
open PySem PySem.W PySem.Calls PyProof.Rows PySem.W.KBw
set_option maxHeartbeats 4000000
namespace Mine
section
variable {prog : Program} {w : World} {A : Around} {E : Value → Shared → Prop} {s : Shared} {h₀ : Heap} {L D b : Addr} {m : Str → Option Value} {news : List (Addr × Obj)}
theorem item_led {value slice : PySem.Expr} {l : Addr} {vs : List Value} {ns : List Int} {c : Nat} {k : Int} {u : Tok} {Q : Value → Shared → Prop} (N : News h₀ L s.heap news) (hm : (l, W.listOf vs.toArray c) ∈ news) (hi : IntsAre vs ns)
    (h0 : 0 ≤ k) (h1 : k < (vs.length : Int)) (hz : vs.length ≤ 1000000) (h : ∀ t, Q (.int (ns.getD k.toNat 0) t) s)
    (hs : subscripted slice false (.ref l) (.int k u) = operate [.ref l, .int k u] (getItem (.ref l) (.int k u)) := by with_unfolding_all rfl) :
    wpAny (model prog w) A (subscriptTail value slice (.ref l) (.int k u)) Q E s :=
  item_anyK ⟨_, (N _ hm).1, rfl, c, rfl⟩ hi h0 (by rw [← hi.length]; exact h1) (by omega) h hs
theorem append_led {us : List Value} {c : Nat} {x : Value} {g : Obj → List (Addr × Obj)} {Q : Value → Shared → Prop} (F : Fr h₀ L s.heap m) (N : News h₀ L s.heap news)
    (U : UpdF D (W.listOf us.toArray c) news g) (hz : us.length ≤ 1000000)
    (h : ∀ h', Fr h₀ L h' m → News h₀ L h' (g (W.listOf (us ++ [x]).toArray (c + 1))) → Q .none { s with heap := h' }) : wpAny (model prog w) A (call (.builtin "list.append") [.ref D, x]) Q E s :=
  append_K F N (by have := updF_at U (W.listOf (us.toArray.push x) (c + 1)); exact this) (fun h' F' N' => h h' F' (by simpa using N')) (by rw [sizeLine_eq]; simp; omega)
end
theorem ints_snoc {vs : List Value} {ns : List Int} {k : Int} {t : Tok} (h : IntsAre vs ns) : IntsAre (vs ++ [.int k t]) (ns ++ [k]) := by
  induction h with
  | nil => exact .cons _ _ .nil
  | cons i t _ ih => exact .cons i t ih
theorem ints_app2 {vs us : List Value} {ns ms : List Int} (h : IntsAre vs ns) (h' : IntsAre us ms) : IntsAre (vs ++ us) (ns ++ ms) := by
  induction h with
  | nil => exact h'
  | cons i t _ ih => exact .cons i t ih
end Mine
namespace Mine
theorem getD_sub {raw : List Int} {j bp : Nat} : (if j < bp then 0 else raw.getD (j - bp) 0) = (if (j : Int) - (bp : Int) < 0 then 0 else raw.getD ((j : Int) - (bp : Int)).toNat 0) := by
  by_cases h : j < bp
  · rw [if_pos h, if_pos (by omega)]
  · rw [if_neg h, if_neg (by omega)]
    have : ((j : Int) - (bp : Int)).toNat = j - bp := by omega
    rw [this]
theorem pix1 {bp j : Nat} {ab raw : List Int} {x : Int} (hl : raw.length = j) :
    stepPix 1 bp ab raw x = Builtin.bitAnd (x + (if (j : Int) - (bp : Int) < 0 then 0 else raw.getD ((j : Int) - (bp : Int)).toNat 0)) 255 := by
  rw [bitAnd_m8, ← getD_sub]; subst hl; simp [stepPix, predOf]
theorem pix2 {bp j : Nat} {ab raw : List Int} {x : Int} (hl : raw.length = j) :
    stepPix 2 bp ab raw x = Builtin.bitAnd (x + ab.getD j 0) 255 := by
  rw [bitAnd_m8]; subst hl; simp [stepPix, predOf]
theorem pix3 {bp j : Nat} {ab raw : List Int} {x : Int} (hl : raw.length = j) :
    stepPix 3 bp ab raw x = Builtin.bitAnd (x + ((if (j : Int) - (bp : Int) < 0 then 0 else raw.getD ((j : Int) - (bp : Int)).toNat 0) + ab.getD j 0).fdiv 2) 255 := by
  rw [bitAnd_m8, ← getD_sub, Int.fdiv_eq_ediv_of_nonneg _ (by decide)]; subst hl; simp [stepPix, predOf]
theorem pix4 {bp j : Nat} {ab raw : List Int} {x : Int} (hl : raw.length = j) :
    stepPix 4 bp ab raw x = Builtin.bitAnd (x + paeth (if (j : Int) - (bp : Int) < 0 then 0 else raw.getD ((j : Int) - (bp : Int)).toNat 0) (ab.getD j 0) (if (j : Int) - (bp : Int) < 0 then 0 else ab.getD ((j : Int) - (bp : Int)).toNat 0)) 255 := by
  rw [bitAnd_m8, ← getD_sub, ← getD_sub]; subst hl; simp [stepPix, predOf]
theorem row_snoc {f : Int} {bp j : Nat} {ab enc : List Int} {vs : List Value} {x v : Int} {t : Tok} (I : IntsAre vs (decRow f bp ab (enc.take j))) (hx : enc[j]? = some x)
    (hv : v = stepPix f bp ab (decRow f bp ab (enc.take j)) x) : IntsAre (vs ++ [.int v t]) (decRow f bp ab (enc.take (j + 1))) := by
  rw [take_snoc hx, decRow_snoc, hv]; exact ints_snoc I
theorem row_len {f : Int} {bp j : Nat} {ab enc : List Int} (h : j ≤ enc.length) : (decRow f bp ab (enc.take j)).length = j := by
  rw [decRow_length, List.length_take]; omega
end Mine
namespace Mine
def PngJ (bs : Array UInt8) (td : Tok) (ks : List Int) (nb bp k : Nat) (lb : Addr) (news : List (Addr × Obj)) (i : Nat) (m : Str → Option Value) (nx : List (Addr × Obj)) : Prop :=
  ∃ (la : Addr) (vsb vsa : List Value) (cb ca : Nat) (t1 t2 : Tok), IntsAre vsb (pst ks nb bp k i).1 ∧ IntsAre vsa (pst ks nb bp k i).2 ∧ la ≠ lb ∧ (∀ p ∈ news, p.1 ≠ la) ∧
    nx = (la, W.listOf vsa.toArray ca) :: (lb, W.listOf vsb.toArray cb) :: news ∧
    (∀ p ∈ [(Str.ofString "line_above", Value.ref la), (Str.ofString "buf", Value.ref lb), (Str.ofString "bpp", Value.int bp t1), (Str.ofString "nbytes", Value.int nb t2), (Str.ofString "data", Value.bytes bs td)], m p.1 = some p.2) ∧
    (∀ j < i, ks.getD (j * (nb + 1)) 0 < 5)
def RowJ (f : Int) (bp : Nat) (ab enc : List Int) (ra : Addr) (rest : List (Addr × Obj)) (ps : List (Str × Value)) (i : Nat) (m : Str → Option Value) (nx : List (Addr × Obj)) : Prop :=
  ∃ (vs : List Value) (c : Nat), IntsAre vs (decRow f bp ab (enc.take i)) ∧ vs.length = i ∧ nx = (ra, W.listOf vs.toArray c) :: rest ∧ ∀ p ∈ ps, m p.1 = some p.2
abbrev pngPs (ra la lb : Addr) (bp nb : Nat) (t1 t2 : Tok) (bs : Array UInt8) (td : Tok) : List (Str × Value) :=
  [(Str.ofString "raw", Value.ref ra), (Str.ofString "line_above", Value.ref la), (Str.ofString "buf", Value.ref lb), (Str.ofString "bpp", Value.int bp t1), (Str.ofString "nbytes", Value.int nb t2), (Str.ofString "data", Value.bytes bs td)]
def RowR (P : Prop) (R : List Int) (la lb : Addr) (rest : List (Addr × Obj)) (bp nb : Nat) (t1 t2 : Tok) (bs : Array UInt8) (td : Tok) (f : Flow) (m : Str → Option Value) (nx : List (Addr × Obj)) : Prop :=
  f = .next ∧ P ∧ ∃ (ra : Addr) (vs : List Value) (c : Nat), IntsAre vs R ∧ ra ≠ la ∧ ra ≠ lb ∧ (∀ p ∈ rest, p.1 ≠ ra) ∧ nx = (ra, W.listOf vs.toArray c) :: rest ∧ ∀ p ∈ pngPs ra la lb bp nb t1 t2 bs td, m p.1 = some p.2
theorem tend_rowJ {f : Int} {bp : Nat} {ab enc : List Int} {ra : Addr} {rest rest' own : List (Addr × Obj)} {ps : List (Str × Value)} {j c : Nat} {vs : List Value} {x v : Int} {t : Tok} {h₀ h' : Heap} {L : Addr} {m' : Str → Option Value} {s₁ : Shared} {tk : Nat} {Q : Flow → Shared → Prop}
    (F : Fr h₀ L h' m') (N : News h₀ L h' ((ra, W.listOf (vs ++ [Value.int v t]).toArray c) :: rest')) (hr : ∀ p ∈ rest, p ∈ rest') (ho : ∀ p ∈ own, p ∈ rest') (hoff : OwnOff own (ra :: rest.map (·.1)))
    (Iv : IntsAre vs (decRow f bp ab (enc.take j))) (hx : enc[j]? = some x) (hv : v = stepPix f bp ab (decRow f bp ab (enc.take j)) x) (hl : vs.length = j) (hp : ∀ p ∈ ps, m' p.1 = some p.2) :
    TPost h₀ L (RowJ f bp ab enc ra rest ps (j + 1)) own s₁ Q .next { s₁ with heap := h', toks := tk } := by
  refine tend_next (tend_intro ((ra, W.listOf (vs ++ [Value.int v t]).toArray c) :: rest) F N ?_ ?_ (off_own hoff) ⟨_, c, row_snoc Iv hx hv, by simp [hl], rfl, hp⟩)
  · intro p hp
    rcases List.mem_cons.mp hp with rfl | hp
    · exact List.mem_cons_self ..
    · exact List.mem_cons_of_mem _ (hr p hp)
  · exact fun p hp => List.mem_cons_of_mem _ (ho p hp)
end Mine
namespace Mine
theorem row_joined {P : Prop} {R : List Int} {la lb ra : Addr} {rest news' : List (Addr × Obj)} {bp nb c k : Nat} {t1 t2 td : Tok} {bs : Array UInt8} {vs : List Value} {h₀ h : Heap} {L : Addr} {m : Str → Option Value} {s : Shared}
    (F : Fr h₀ L h m) (N : News h₀ L h news') (hP : P) (hp : ∀ p ∈ pngPs ra la lb bp nb t1 t2 bs td, m p.1 = some p.2) (hm : (ra, W.listOf vs.toArray c) ∈ news') (hr : ∀ p ∈ rest, p ∈ news') (I : IntsAre vs R) (h1 : ra ≠ la) (h2 : ra ≠ lb) (h3 : ∀ p ∈ rest, p.1 ≠ ra) :
    JoinedF h₀ L (RowR P R la lb rest bp nb t1 t2 bs td) s Flow.next { s with heap := h, toks := k } :=
  joinedF ((ra, W.listOf vs.toArray c) :: rest) F N (fun p hp => by rcases List.mem_cons.mp hp with rfl | hp; exact hm; exact hr p hp) ⟨rfl, hP, ra, vs, c, I, h1, h2, h3, rfl, hp⟩
end Mine
namespace Mine
theorem ints_at {vs : List Value} {ns : List Int} {i : Nat} {y : Value} (h : IntsAre vs ns) (hy : vs[i]? = some y) : ∃ k t, ns[i]? = some k ∧ y = .int k t := by
  have hl := h.length
  have hi : i < ns.length := by rw [← hl]; exact (List.getElem?_eq_some_iff.mp hy).1
  obtain ⟨t, ht⟩ := h.get i ns[i] (List.getElem?_eq_getElem hi)
  rw [hy] at ht
  exact ⟨_, t, List.getElem?_eq_getElem hi, Option.some.inj ht⟩
theorem getD_of {ns : List Int} {i : Nat} {k : Int} (h : ns[i]? = some k) : ns.getD i 0 = k := by rw [List.getD_eq_getElem?_getD, h]; rfl
end Mine
namespace Mine
theorem raised_sub {base h : Heap} {l : List Env} {e t : Addr} {cls : Value} {vs : List Value} {news news' : List (Addr × Obj)} (R : RaisedK base l e cls t vs news' h) (hs : ∀ p ∈ news, p ∈ news') : RaisedK base l e cls t vs news h := by
  obtain ⟨⟨B, hB, hl, r⟩, ht⟩ := R
  exact ⟨⟨B, hB, fun q hq => hl q (hs q hq), r⟩, ht⟩
end Mine
namespace Mine
/-- the whole of the outer loop's state -/
theorem tend_pngJ {bs : Array UInt8} {td : Tok} {ks : List Int} {nb bp k : Nat} {ra lb : Addr} {news own news' : List (Addr × Obj)} {i c cb : Nat} {vsb vs : List Value} {t1 t2 : Tok} {h₀ h' : Heap} {L : Addr} {m' : Str → Option Value} {s₁ : Shared} {tk : Nat} {Q : Flow → Shared → Prop}
    (F : Fr h₀ L h' m') (N : News h₀ L h' news') (hra : (ra, W.listOf vs.toArray c) ∈ news') (hlb : (lb, W.listOf (vsb ++ vs).toArray cb) ∈ news') (hn : ∀ p ∈ news, p ∈ news') (ho : ∀ p ∈ own, p ∈ news')
    (Ib : IntsAre vsb (pst ks nb bp k i).1) (Iv : IntsAre vs (decRow (ks.getD (i * (nb + 1)) 0) bp (pst ks nb bp k i).2 (encAt ks nb (i * (nb + 1)))))
    (h1 : ra ≠ lb) (h2 : ∀ p ∈ news, p.1 ≠ ra) (hora : ∀ p ∈ own, p.1 ≠ ra) (holb : ∀ p ∈ own, p.1 ≠ lb) (hon : ∀ p ∈ own, ∀ q ∈ news, p.1 ≠ q.1)
    (hp : ∀ p ∈ [(Str.ofString "line_above", Value.ref ra), (Str.ofString "buf", Value.ref lb), (Str.ofString "bpp", Value.int bp t1), (Str.ofString "nbytes", Value.int nb t2), (Str.ofString "data", Value.bytes bs td)], m' p.1 = some p.2)
    (hft : ∀ j < i, ks.getD (j * (nb + 1)) 0 < 5) (hf : ks.getD (i * (nb + 1)) 0 < 5) :
    TPost h₀ L (PngJ bs td ks nb bp k lb news (i + 1)) own s₁ Q .next { s₁ with heap := h', toks := tk } := by
  refine tend_next (tend_intro ((ra, W.listOf vs.toArray c) :: (lb, W.listOf (vsb ++ vs).toArray cb) :: news) F N ?_ ho (off_cons hora (off_cons holb hon)) ⟨ra, _, vs, cb, c, t1, t2, ints_app2 Ib Iv, Iv, h1, h2, rfl, hp, ?_⟩)
  · intro p hp
    rcases List.mem_cons.mp hp with rfl | hp
    · exact hra
    · rcases List.mem_cons.mp hp with rfl | hp
      · exact hlb
      · exact hn p hp
  · intro j hj
    rcases Nat.lt_succ_iff_lt_or_eq.mp hj with hj | rfl
    · exact hft j hj
    · exact hf
end Mine
end
section
set_option maxHeartbeats 4000000
namespace Mine
def tiffPix (cn : Nat) (raw : List Int) (x : Int) : Int := if raw.length < cn then x else (x + raw.getD (raw.length - cn) 0) % 256
def tiffRow (cn : Nat) (enc : List Int) : List Int := enc.foldl (fun raw x => raw ++ [tiffPix cn raw x]) []
def tst (ks : List Int) (nb cn : Nat) : Nat → List Int
  | 0 => []
  | i + 1 => tst ks nb cn i ++ tiffRow cn ((ks.drop (i * nb)).take nb)
theorem tiffRow_snoc (cn : Nat) (enc : List Int) (x : Int) : tiffRow cn (enc ++ [x]) = tiffRow cn enc ++ [tiffPix cn (tiffRow cn enc) x] := by
  simp [tiffRow, List.foldl_append]
theorem tiffRow_length (cn : Nat) (enc : List Int) : (tiffRow cn enc).length = enc.length := by
  unfold tiffRow; rw [foldl_len]; simp
theorem tiffRow_in (cn : Nat) (enc : List Int) (he : ∀ k ∈ enc, 0 ≤ k ∧ k < 256) : ∀ k ∈ tiffRow cn enc, 0 ≤ k ∧ k < 256 := by
  have : ∀ n, n ≤ enc.length → ∀ k ∈ tiffRow cn (enc.take n), 0 ≤ k ∧ k < 256 := by
    intro n
    induction n with
    | zero => intro _ k hk; simp [tiffRow] at hk
    | succ n ih =>
      intro hn
      have hx : enc[n]? = some enc[n] := List.getElem?_eq_getElem (by omega)
      rw [take_snoc hx, tiffRow_snoc]
      intro k hk
      rcases List.mem_append.mp hk with hk | hk
      · exact ih (by omega) k hk
      · rw [List.mem_singleton.mp hk]
        unfold tiffPix
        split
        · exact he _ (List.getElem_mem _)
        · exact ⟨Int.emod_nonneg _ (by decide), Int.emod_lt_of_pos _ (by decide)⟩
  have := this enc.length (Nat.le_refl _)
  rwa [List.take_length] at this
theorem tst_in (ks : List Int) (nb cn : Nat) (hk : ∀ k ∈ ks, 0 ≤ k ∧ k < 256) : ∀ i, ∀ x ∈ tst ks nb cn i, 0 ≤ x ∧ x < 256
  | 0 => fun _ h => by simp [tst] at h
  | i + 1 => fun x hx => by
    rcases List.mem_append.mp hx with hx | hx
    · exact tst_in ks nb cn hk i x hx
    · exact tiffRow_in cn _ (fun k hk' => hk k (List.mem_of_mem_drop (List.mem_of_mem_take hk'))) x hx
theorem tst_len (ks : List Int) (nb cn : Nat) : ∀ i, (tst ks nb cn i).length ≤ i * nb
  | 0 => by simp [tst]
  | i + 1 => by
    have := tst_len ks nb cn i
    show ((tst ks nb cn i) ++ tiffRow _ _).length ≤ _
    rw [List.length_append, tiffRow_length, List.length_take, Nat.succ_mul]
    omega
/-- what the law's own filter makes of a row -/
def filtPix (kind : Int) (step : Nat) (row above : List Int) (j : Nat) : Int :=
  (row.getD j 0 - predOf kind (if step ≤ j then row.getD (j - step) 0 else 0) (above.getD j 0) (if step ≤ j then above.getD (j - step) 0 else 0)) % 256
def filt (kind : Int) (step : Nat) (row above : List Int) (n : Nat) : List Int := (List.range n).map (filtPix kind step row above)
theorem filt_succ (kind : Int) (step : Nat) (row above : List Int) (n : Nat) : filt kind step row above (n + 1) = filt kind step row above n ++ [filtPix kind step row above n] := by
  simp [filt, List.range_succ]
end Mine
end
section
open PySem PySem.W PySem.Calls PyProof.Rows PySem.W.KBw
set_option maxHeartbeats 4000000
namespace Mine
def TRowJ (cn : Nat) (enc : List Int) (ra : Addr) (rest : List (Addr × Obj)) (ps : List (Str × Value)) (i : Nat) (m : Str → Option Value) (nx : List (Addr × Obj)) : Prop :=
  ∃ (vs : List Value) (c : Nat), IntsAre vs (tiffRow cn (enc.take i)) ∧ vs.length = i ∧ nx = (ra, W.listOf vs.toArray c) :: rest ∧ ∀ p ∈ ps, m p.1 = some p.2
abbrev tiffPs (lb : Addr) (cn nb : Nat) (t1 t2 : Tok) (bs : Array UInt8) (td : Tok) : List (Str × Value) :=
  [(Str.ofString "buf", Value.ref lb), (Str.ofString "bpp", Value.int cn t1), (Str.ofString "nbytes", Value.int nb t2), (Str.ofString "data", Value.bytes bs td)]
def TiffJ (bs : Array UInt8) (td : Tok) (ks : List Int) (nb cn : Nat) (lb : Addr) (news : List (Addr × Obj)) (i : Nat) (m : Str → Option Value) (nx : List (Addr × Obj)) : Prop :=
  ∃ (vsb : List Value) (cb : Nat) (t1 t2 : Tok), IntsAre vsb (tst ks nb cn i) ∧ nx = (lb, W.listOf vsb.toArray cb) :: news ∧ ∀ p ∈ tiffPs lb cn nb t1 t2 bs td, m p.1 = some p.2
theorem tend_tRowJ {cn : Nat} {enc : List Int} {ra : Addr} {rest rest' own : List (Addr × Obj)} {ps : List (Str × Value)} {j c : Nat} {vs : List Value} {x v : Int} {t : Tok} {h₀ h' : Heap} {L : Addr} {m' : Str → Option Value} {s₁ : Shared} {tk : Nat} {Q : Flow → Shared → Prop}
    (F : Fr h₀ L h' m') (N : News h₀ L h' ((ra, W.listOf (vs ++ [Value.int v t]).toArray c) :: rest')) (hr : ∀ p ∈ rest, p ∈ rest') (ho : ∀ p ∈ own, p ∈ rest') (hoff : OwnOff own (ra :: rest.map (·.1)))
    (Iv : IntsAre vs (tiffRow cn (enc.take j))) (hx : enc[j]? = some x) (hv : v = tiffPix cn (tiffRow cn (enc.take j)) x) (hl : vs.length = j) (hp : ∀ p ∈ ps, m' p.1 = some p.2) :
    TPost h₀ L (TRowJ cn enc ra rest ps (j + 1)) own s₁ Q .next { s₁ with heap := h', toks := tk } := by
  refine tend_next (tend_intro ((ra, W.listOf (vs ++ [Value.int v t]).toArray c) :: rest) F N ?_ ?_ (off_own hoff) ⟨_, c, ?_, by simp [hl], rfl, hp⟩)
  · intro p hp
    rcases List.mem_cons.mp hp with rfl | hp
    · exact List.mem_cons_self ..
    · exact List.mem_cons_of_mem _ (hr p hp)
  · exact fun p hp => List.mem_cons_of_mem _ (ho p hp)
  · rw [take_snoc hx, tiffRow_snoc, hv]; exact ints_snoc Iv
theorem tend_tiffJ {bs : Array UInt8} {td : Tok} {ks : List Int} {nb cn : Nat} {lb : Addr} {news own news' : List (Addr × Obj)} {i cb : Nat} {vsb vs : List Value} {t1 t2 : Tok} {h₀ h' : Heap} {L : Addr} {m' : Str → Option Value} {s₁ : Shared} {tk : Nat} {Q : Flow → Shared → Prop}
    (F : Fr h₀ L h' m') (N : News h₀ L h' news') (hlb : (lb, W.listOf (vsb ++ vs).toArray cb) ∈ news') (hn : ∀ p ∈ news, p ∈ news') (ho : ∀ p ∈ own, p ∈ news')
    (Ib : IntsAre vsb (tst ks nb cn i)) (Iv : IntsAre vs (tiffRow cn ((ks.drop (i * nb)).take nb)))
    (hoff : OwnOff own (lb :: news.map (·.1))) (hp : ∀ p ∈ tiffPs lb cn nb t1 t2 bs td, m' p.1 = some p.2) :
    TPost h₀ L (TiffJ bs td ks nb cn lb news (i + 1)) own s₁ Q .next { s₁ with heap := h', toks := tk } := by
  refine tend_next (tend_intro ((lb, W.listOf (vsb ++ vs).toArray cb) :: news) F N ?_ ho (off_own hoff) ⟨vsb ++ vs, cb, t1, t2, ints_app2 Ib Iv, rfl, hp⟩)
  intro p hp
  rcases List.mem_cons.mp hp with rfl | hp
  · exact hlb
  · exact hn p hp
theorem tpix_lo {cn j : Nat} {raw : List Int} {x : Int} (hl : raw.length = j) (h : ¬ ((j : Int) ≥ (cn : Int))) : x = tiffPix cn raw x := by
  unfold tiffPix; rw [if_pos (by omega)]
theorem tpix_hi {cn j : Nat} {raw : List Int} {x : Int} (hl : raw.length = j) (h : (j : Int) ≥ (cn : Int)) : (x + raw.getD ((j : Int) - (cn : Int)).toNat 0).fmod 256 = tiffPix cn raw x := by
  unfold tiffPix; rw [if_neg (by omega), hl, Int.fmod_eq_emod_of_nonneg _ (by decide)]
  have : ((j : Int) - (cn : Int)).toNat = j - cn := by omega
  rw [this]
end Mine
namespace Mine
theorem range_one (n : Nat) : Builtin.Range.rangeSize 0 (n : Int) 1 = (n : Int) := by
  unfold Builtin.Range.rangeSize
  rw [if_pos (by decide)]
  by_cases h : n = 0
  · subst h; rfl
  · rw [if_pos (by omega), Int.ediv_one]; omega
theorem small_to (n : Nat) (h : n ≤ 1000000) : Builtin.Range.small 0 (n : Int) 1 = true := small_rows (S := 1) h (by decide) (by decide)
end Mine
end
section
open PySem PySem.W PySem.Calls PyProof.Rows PySem.W.KBw
set_option maxHeartbeats 4000000
namespace Mine
section
variable {prog : Program} {w : World} {A : Around} {E : Value → Shared → Prop} {s : Shared} {h₀ : Heap} {L l : Addr} {m : Str → Option Value} {news : List (Addr × Obj)}
theorem len_led {us : List Value} {c : Nat} {Q : Value → Shared → Prop} (N : News h₀ L s.heap news) (hm : (l, W.listOf us.toArray c) ∈ news) (hz : us.length ≤ 1000000)
    (h : Q (.int (us.length : Nat) (s.toks + 1)) { s with toks := s.toks + 1 + 1 }) : wpAny (model prog w) A (call (.builtin "len") [.ref l]) Q E s :=
  kst_len N hm (k := us.length) rfl (by omega) h
end
def FiltJ (kind : Int) (sn : Nat) (row ab : List Int) (tl : Addr) (news : List (Addr × Obj)) (ps : List (Str × Value)) (i : Nat) (m : Str → Option Value) (nx : List (Addr × Obj)) : Prop :=
  ∃ (vs : List Value) (c : Nat), IntsAre vs (filt kind sn row ab i) ∧ vs.length = i ∧ nx = (tl, W.listOf vs.toArray c) :: news ∧ ∀ p ∈ ps, m p.1 = some p.2
end Mine
end
section
open PySem PySem.W PySem.Calls PyProof.Rows PySem.W.KBw
set_option maxHeartbeats 4000000
namespace Mine
section
variable {prog : Program} {w : World} {A : Around} {E : Value → Shared → Prop} {s : Shared}
theorem int_lt {x y : Int} {t u : Tok} {Q : Value → Shared → Prop} (h : Q (.bool (decide (x < y))) s) : wpAny (model prog w) A (richCompare .Lt (.int x t) (.int y u)) Q E s :=
  richCompare_gives (op := .Lt) (typeIs_int s _ t) (typeIs_int s _ u) PySem.F.slot_int_lt PySem.F.entry_int_lt (PySem.F.args_int_lt_2 _ _) (gives_int_lt _ _ t u) (fun x => nomatch x) h
theorem tup_lt_tree {a b : Addr} {x y i j : Int} {tx ty ti tj : Tok} {P : Fin → Shared → Prop} (hx : IsTup s.heap a #[.int x tx, .int i ti]) (hy : IsTup s.heap b #[.int y ty, .int j tj]) (hij : i ≠ j)
    (h : P (.done (.ret (.bool (decide (x < y ∨ (x = y ∧ i < j)))))) s) :
    wpAny (model prog w) A (Builtin.«tuple.__lt__» ⟨[.ref a, .ref b], []⟩) P E s := by
  obtain ⟨oa, hoa, hca, na, hda⟩ := hx
  obtain ⟨ob, hob, hcb, nb, hdb⟩ := hy
  have hTb : s.TypeIs (.ref b) "tuple" := ⟨ob, hob, hcb⟩
  show wpAny _ _ (isInstance (.ref b) (.type "tuple") >>= _) _ _ s
  refine wpAny_bind (wpAny_isInstance hTb isSubtype_tuple_tuple ?_)
  simp only [Bool.not_true, Bool.false_eq_true, if_false]
  refine wpAny_bind (wpAny_tupleItemsOf hoa hda ?_)
  refine wpAny_bind (wpAny_tupleItemsOf hob hdb ?_)
  refine wpAny_bind ?_
  simp only [List.zip_cons_cons, List.zip_nil_right, List.forIn_cons, List.forIn_nil]
  refine wpAny_bind (wpAny_bind (wpAny_eqBool_int ?_))
  by_cases hxy : x = y
  · have e : (x == y) = true := by simp [hxy]
    simp only [e, Bool.not_true, Bool.false_eq_true, if_false]
    refine wpAny_pure ?_
    refine wpAny_bind (wpAny_bind (wpAny_eqBool_int ?_))
    have e2 : (i == j) = false := by simp [hij]
    simp only [e2, Bool.not_false, if_true]
    refine wpAny_bind (wpAny_rule ?_)
    refine wpAny_bind (int_lt ?_)
    refine wpAny_bind (wpAny_pure ?_)
    refine wpAny_pure ?_
    refine wpAny_pure ?_
    have e3 : decide (i < j) = decide (x < y ∨ (x = y ∧ i < j)) := by simp [hxy]
    rw [e3]
    exact wpAny_pure h
  · have e : (x == y) = false := by simp [hxy]
    simp only [e, Bool.not_false, if_true]
    refine wpAny_bind (wpAny_rule ?_)
    refine wpAny_bind (int_lt ?_)
    refine wpAny_bind (wpAny_pure ?_)
    refine wpAny_pure ?_
    refine wpAny_pure ?_
    have e3 : decide (x < y) = decide (x < y ∨ (x = y ∧ i < j)) := by simp [hxy]
    rw [e3]
    exact wpAny_pure h
theorem tup_lt {a b : Addr} {x y i j : Int} {tx ty ti tj : Tok} {Q : Value → Shared → Prop} (hu : A.units < cLine) (hx : IsTup s.heap a #[.int x tx, .int i ti]) (hy : IsTup s.heap b #[.int y ty, .int j tj]) (hij : i ≠ j)
    (h : Q (.bool (decide (x < y ∨ (x = y ∧ i < j)))) s) : wpAny (model prog w) A (richCompare .Lt (.ref a) (.ref b)) Q E s := by
  have hTa : s.TypeIs (.ref a) "tuple" := let ⟨o, ho, hc, _⟩ := hx; ⟨o, ho, hc⟩
  have hTb : s.TypeIs (.ref b) "tuple" := let ⟨o, ho, hc, _⟩ := hy; ⟨o, ho, hc⟩
  exact wpAny_richCompare_same_room (op := .Lt) hTa hTb PySem.F.slot_tuple_lt
    (wpAny_call_entry PySem.F.slot_tuple_lt hTa PySem.F.entry_tuple_lt (tup_lt_tree hx hy hij ⟨_, rfl, (fun e => nomatch e), h⟩) (PySem.F.args_tuple_lt_2 _ _)) hu
end
end Mine
end
section
open PySem PySem.W PySem.Calls PyProof.Rows PySem.W.KBw
set_option maxHeartbeats 4000000
namespace Mine
section
variable {prog : Program} {w : World} {A : Around} {E : Value → Shared → Prop} {s : Shared} {h₀ : Heap} {L l I S : Addr} {m : Str → Option Value} {news : List (Addr × Obj)} {vs : List Value} {R : Result → Shared → Prop} {Q : Value → Shared → Prop}
def CmpsBy (prog : Program) (w : World) (A : Around) (s : Shared) (h₀ : Heap) (L : Addr) (m : Str → Option Value) (news : List (Addr × Obj)) (vs : List Value) (kf : Nat → Int) : Prop :=
  ∀ (i j : Nat) (vi vj : Value), vs[i]? = some vi → vs[j]? = some vj → i ≠ j → ∀ (h : Heap) (tk : Nat), Fr h₀ L h m → News h₀ L h news → ∀ (Q E : Value → Shared → Prop), Q (.bool (decide (kf i < kf j))) { s with heap := h, toks := tk } →
    wpAny (model prog w) A (richCompare .Lt vi vj) Q E { s with heap := h, toks := tk }
theorem min_loop (kf : Nat → Int) (hh : A.handled = none) (hl : ∀ h, Fr h₀ L h m → News h₀ L h news → h.IsList l vs.toArray) (hlI : l ≠ I) (hSI : S ≠ I) (hnS : ∀ p ∈ news, p.1 ≠ S) (hnI : ∀ p ∈ news, p.1 ≠ I)
    (cmp : CmpsBy prog w A.in1 s h₀ L m news vs kf)
    (hR : ∀ i v h' tk', vs[i]? = some v → (∀ j, j < vs.length → kf i ≤ kf j) → Fr h₀ L h' m → News h₀ L h' news → R (.ok (.ret v)) { s with heap := h', toks := tk' }) :
    ∀ (r j i : Nat) (h : Heap) (tk : Nat) (vb : Value) (c : Nat) (oI : Obj), vs.length - (j + 1) = r → j + 1 ≤ vs.length → Fr h₀ L h m →
      News h₀ L h (news ++ [(S, seqObj "list" #[vb, vb] c), (I, oI)]) → h.IsListIter I l (j + 1) → vs[i]? = some vb → i ≤ j → (∀ j', j' ≤ j → kf i ≤ kf j') →
      codeAny (model prog w) A (.builtin "min.loop" ⟨[.ref I, .none, .ref S], []⟩) R { s with heap := h, toks := tk } := by
  have hname : (toString "min" ++ toString ".loop" : String) = "min.loop" := by decide
  have W := Walks.list (prog := prog) (w := w) (A := A.in1) hh I l hlI vs.toArray
  have hsz : vs.toArray.size = vs.length := List.size_toArray ..
  intro r
  induction r with
  | zero =>
    intro j i h tk vb c oI hr hj F N hit hvb hij hbest
    have hin : j + 1 = vs.length := by omega
    have nS := N (S, seqObj "list" #[vb, vb] c) (List.mem_append_right _ (.head _))
    have nI := N (I, oI) (List.mem_append_right _ (.tail _ (.head _)))
    have Nn : News h₀ L h news := fun p hp => N p (List.mem_append_left _ hp)
    refine codeAny_builtin PySem.F.entry_min_loop ?_
    rw [Around.under_plainId PySem.F.plain_min_loop _]
    show wpAny _ A.in1 (seqItems? (.ref S) >>= _) _ _ _
    refine wpAny_bind (wpAny_seqItems nS.1 rfl ?_)
    show wpAny _ A.in1 (tryCatch (pyNext (.ref I)) _ >>= _) _ _ _
    refine wpAny_bind (wpAny_tryCatch (W.done _ _ _ ⟨by rw [hsz, ← hin]; exact hit, hl h F Nn⟩ fun h' tk' hk' => ?_))
    have F1 := kmb_fr F hk' nI.2.1 nI.2.2
    have N1 := kmb_news Nn hk' hnI
    have hS' := hk' S _ (by simpa using hSI) nS.1
    have s1 := Heap.SameBut.update h' S (Obj.mapSeq fun _ => (#[] : Array Value))
    show wpAny _ A.in1 (updateSeq S (fun _ => #[]) >>= _) _ _ _
    refine wpAny_bind ?_
    refine wpAny_updateSeq hS' rfl (wpAny_bind (wpAny_letGo (wpAny_pure ?_)))
    exact hR i vb _ _ hvb (fun j' hj' => hbest j' (by omega)) (ksk_fr F1 s1 nS.2.1 nS.2.2) (ksk_news N1 s1 hnS)
  | succ r ih =>
    intro j i h tk vb c oI hr hj F N hit hvb hij hbest
    have hlt : j + 1 < vs.length := by omega
    have nS := N (S, seqObj "list" #[vb, vb] c) (List.mem_append_right _ (.head _))
    have nI := N (I, oI) (List.mem_append_right _ (.tail _ (.head _)))
    have Nn : News h₀ L h news := fun p hp => N p (List.mem_append_left _ hp)
    refine codeAny_builtin PySem.F.entry_min_loop ?_
    rw [Around.under_plainId PySem.F.plain_min_loop _]
    show wpAny _ A.in1 (seqItems? (.ref S) >>= _) _ _ _
    refine wpAny_bind (wpAny_seqItems nS.1 rfl ?_)
    show wpAny _ A.in1 (tryCatch (pyNext (.ref I)) _ >>= _) _ _ _
    refine wpAny_bind (wpAny_tryCatch (W.item (j + 1) _ _ _ (by rw [hsz]; exact hlt) ⟨hit, hl h F Nn⟩ fun v h' tk' hP hst' hk' => ?_))
    have hv : vs[j + 1]? = some v := by simpa using hP
    obtain ⟨oI', hoI', hoc, hod⟩ := id hst'.1
    have F2 := kmb_fr F hk' nI.2.1 nI.2.2
    have N2 : News h₀ L h' (news ++ [(S, seqObj "list" #[vb, vb] c), (I, oI')]) := fun p hp => by
      rcases List.mem_append.mp hp with hp | hp
      · exact kmb_news Nn hk' hnI p hp
      · rcases List.mem_cons.mp hp with rfl | hp
        · exact ⟨hk' S _ (by simpa using hSI) nS.1, nS.2⟩
        · rw [List.mem_singleton.mp hp]
          exact ⟨hoI', nI.2⟩
    have nS2 := N2 (S, seqObj "list" #[vb, vb] c) (List.mem_append_right _ (.head _))
    have nI2 := N2 (I, oI') (List.mem_append_right _ (.tail _ (.head _)))
    have hit2 : h'.IsListIter I l (j + 1 + 1) := ⟨oI', nI2.1, hoc, hod⟩
    refine wpAny_bind (wpAny_pure ?_)
    show wpAny _ A.in1 (tryCatch (holding [v, v] (richCompare .Lt v vb >>= _)) _ >>= _) _ _ _
    refine wpAny_bind (wpAny_tryCatch (wpAny_holding (wpAny_bind (cmp (j + 1) i v vb hv hvb (by omega) h' tk' F2 (kmb_news Nn hk' hnI) _ _ ?_))))
    refine wpAny_bind (wpAny_holding (wpAny_truthy_bool ?_))
    refine wpAny_bind (wpAny_letGo (wpAny_pure ?_))
    by_cases hb' : kf (j + 1) < kf i
    · have s1 := Heap.SameBut.update h' S (Obj.mapSeq fun _ => #[v, v])
      obtain ⟨c2, hc2⟩ : ∃ c2, (h'.update S (Obj.mapSeq fun _ => #[v, v])).get? S = some (seqObj "list" #[v, v] c2) := ⟨_, get?_update_seq nS2.1 fun _ => #[v, v]⟩
      simp only [hb', decide_true, if_true]
      refine wpAny_bind ?_
      refine wpAny_updateSeq nS2.1 rfl (wpAny_bind (wpAny_letGo ?_))
      rw [hname]
      refine wpAny_pure ⟨plainId_quiet PySem.F.plain_min_loop _, ih (j + 1) (j + 1) _ _ v c2 oI' (by omega) hlt (ksk_fr F2 s1 nS2.2.1 nS2.2.2) (fun p hp => ?_) ⟨oI', (s1.2 I hSI.symm).trans nI2.1, hoc, hod⟩ hv (Nat.le_refl _) fun j' hj' => ?_⟩
      · rcases List.mem_append.mp hp with hp | hp
        · exact ksk_news (fun p hp => N2 p (List.mem_append_left _ hp)) s1 hnS p hp
        · rcases List.mem_cons.mp hp with rfl | hp
          · exact ⟨hc2, nS2.2⟩
          · rw [List.mem_singleton.mp hp]
            exact ⟨(s1.2 I hSI.symm).trans nI2.1, nI2.2⟩
      · by_cases e : j' = j + 1
        · subst e; omega
        · have hb1 := hbest j' (by omega)
          omega
    · simp only [hb', decide_false, Bool.false_eq_true, if_false]
      refine wpAny_bind (wpAny_letGo ?_)
      rw [hname]
      refine wpAny_pure ⟨plainId_quiet PySem.F.plain_min_loop _, ih (j + 1) i _ _ vb c oI' (by omega) hlt F2 N2 hit2 hvb (by omega) fun j' hj' => ?_⟩
      by_cases e : j' = j + 1
      · subst e; omega
      · exact hbest j' (by omega)

theorem min_by (kf : Nat → Int) (hh : A.handled = none) (F : Fr h₀ L s.heap m) (N : News h₀ L s.heap news) (hl : ∀ h, Fr h₀ L h m → News h₀ L h news → h.IsList l vs.toArray) (hne : 0 < vs.length)
    (cmp : CmpsBy prog w A.in1 s h₀ L m news vs kf)
    (hQ : ∀ i v h' tk', vs[i]? = some v → (∀ j, j < vs.length → kf i ≤ kf j) → Fr h₀ L h' m → News h₀ L h' news → Q v { s with heap := h', toks := tk' }) :
    wpAny (model prog w) A (call (.builtin "min") [.ref l]) Q E s := by
  have hname : (toString "min" ++ toString ".loop" : String) = "min.loop" := by decide
  have hls := hl _ F N
  obtain ⟨ol, hol, _⟩ := id hls
  have hll : l < s.heap.objs.size := Heap.lt_size hol
  have hL : L < s.heap.objs.size := F.ns.lt
  refine kmb_tree PySem.F.kind_min PySem.F.plain_min PySem.F.entry_min (PySem.F.args_min1 _) ?_
  show wpAny _ A.in1 (Builtin.Builtins.bindParams "min" ["key", "default"] 0 ⟨[], []⟩ >>= _) _ _ s
  refine wpAny_bind (wpAny_of_eq (show Builtin.Builtins.bindParams "min" ["key", "default"] 0 ⟨[], []⟩ = pure [none, none] from rfl) ?_)
  refine wpAny_bind (wpAny_pure ?_)
  refine wpAny_bind (wpAny_pyIter_list hls ?_)
  refine wpAny_bind (wpAny_newList ?_ (Nat.zero_le _))
  rw [hname]
  have hS : (s.heap.push { cls := .type "list_iterator", data := .fields #[.ref l, .int 0 0] }).objs.size = s.heap.objs.size + 1 := size_push' ..
  have hlI : l ≠ s.heap.objs.size := Nat.ne_of_lt hll
  have hSI : (s.heap.push { cls := .type "list_iterator", data := .fields #[.ref l, .int 0 0] }).objs.size ≠ s.heap.objs.size := by rw [hS]; exact Nat.ne_of_gt (Nat.lt_succ_self _)
  have hnI : ∀ p ∈ news, p.1 ≠ s.heap.objs.size := fun p hp => Nat.ne_of_lt (Heap.lt_size (N p hp).1)
  have hnS : ∀ p ∈ news, p.1 ≠ (s.heap.push { cls := .type "list_iterator", data := .fields #[.ref l, .int 0 0] }).objs.size := fun p hp => by rw [hS]; exact Nat.ne_of_lt (Nat.lt_succ_of_lt (Heap.lt_size (N p hp).1))
  refine wpAny_pure ⟨plainId_quiet PySem.F.plain_min_loop _, ?_⟩
  have fresh : ∀ b, L < b → h₀.get? b = none := fun b hb => Heap.get?_none_of_le (Nat.le_trans F.above (Nat.le_of_lt hb))
  have FH : Fr h₀ L ((s.heap.push { cls := .type "list_iterator", data := .fields #[.ref l, .int 0 0] }).push (seqObj "list" #[] 0)) m := (F.push _).push _
  have NH : News h₀ L ((s.heap.push { cls := .type "list_iterator", data := .fields #[.ref l, .int 0 0] }).push (seqObj "list" #[] 0)) news := N.grown fun b x e => Heap.get?_push_of_some _ (Heap.get?_push_of_some _ e)
  have gI : ((s.heap.push { cls := .type "list_iterator", data := .fields #[.ref l, .int 0 0] }).push (seqObj "list" #[] 0)).get? s.heap.objs.size = some { cls := .type "list_iterator", data := .fields #[.ref l, .int 0 0] } :=
    Heap.get?_push_of_some _ (Heap.get?_push_size _ rfl)
  have gS : ((s.heap.push { cls := .type "list_iterator", data := .fields #[.ref l, .int 0 0] }).push (seqObj "list" #[] 0)).get? (s.heap.push { cls := .type "list_iterator", data := .fields #[.ref l, .int 0 0] }).objs.size = some (seqObj "list" #[] 0) := Heap.get?_push_size _ rfl
  have aI : s.heap.objs.size ≠ L := Nat.ne_of_gt hL
  have aS : (s.heap.push { cls := .type "list_iterator", data := .fields #[.ref l, .int 0 0] }).objs.size ≠ L := by rw [hS]; exact Nat.ne_of_gt (Nat.lt_succ_of_lt hL)
  have zS : h₀.get? (s.heap.push { cls := .type "list_iterator", data := .fields #[.ref l, .int 0 0] }).objs.size = none := fresh _ (by rw [hS]; exact Nat.lt_succ_of_lt hL)
  have W := Walks.list (prog := prog) (w := w) (A := A.in1) hh s.heap.objs.size l hlI vs.toArray
  have hsz : vs.toArray.size = vs.length := List.size_toArray ..
  refine codeAny_builtin PySem.F.entry_min_loop ?_
  rw [Around.under_plainId PySem.F.plain_min_loop _]
  show wpAny _ A.in1 (seqItems? (.ref _) >>= _) _ _ _
  refine wpAny_bind (wpAny_seqItems gS rfl ?_)
  show wpAny _ A.in1 (tryCatch (pyNext (.ref s.heap.objs.size)) _ >>= _) _ _ _
  refine wpAny_bind (wpAny_tryCatch (W.item 0 _ _ _ (by rw [hsz]; exact hne) ⟨⟨_, gI, rfl, rfl⟩, hl _ FH NH⟩ fun v h' tk' hP hst' hk' => ?_))
  have hv : vs[0]? = some v := by simpa using hP
  obtain ⟨oI', hoI', hoc, hod⟩ := id hst'.1
  have F2 := kmb_fr FH hk' aI (fresh _ hL)
  have nS2 : h'.get? (s.heap.push { cls := .type "list_iterator", data := .fields #[.ref l, .int 0 0] }).objs.size = some (seqObj "list" #[] 0) := hk' _ _ (by simpa using hSI) gS
  refine wpAny_bind (wpAny_pure ?_)
  have s1 := Heap.SameBut.update h' (s.heap.push { cls := .type "list_iterator", data := .fields #[.ref l, .int 0 0] }).objs.size (Obj.mapSeq fun _ => #[v, v])
  obtain ⟨c2, hc2⟩ : ∃ c2, (h'.update (s.heap.push { cls := .type "list_iterator", data := .fields #[.ref l, .int 0 0] }).objs.size (Obj.mapSeq fun _ => #[v, v])).get? (s.heap.push { cls := .type "list_iterator", data := .fields #[.ref l, .int 0 0] }).objs.size = some (seqObj "list" #[v, v] c2) := ⟨_, get?_update_seq nS2 fun _ => #[v, v]⟩
  show wpAny _ A.in1 (updateSeq (s.heap.push { cls := .type "list_iterator", data := .fields #[.ref l, .int 0 0] }).objs.size (fun _ => #[v, v]) >>= _) _ _ _
  refine wpAny_bind ?_
  refine wpAny_updateSeq nS2 rfl ?_
  rw [hname]
  refine wpAny_pure ⟨plainId_quiet PySem.F.plain_min_loop _, min_loop kf hh hl hlI hSI hnS hnI cmp hQ _ 0 0 _ _ v c2 oI' rfl hne (ksk_fr F2 s1 aS zS) (fun p hp => ?_) ⟨oI', (s1.2 _ hSI.symm).trans hoI', hoc, hod⟩ hv (Nat.le_refl _) fun j' hj' => ?_⟩
  · rcases List.mem_append.mp hp with hp | hp
    · exact ksk_news (kmb_news NH hk' hnI) s1 hnS p hp
    · rcases List.mem_cons.mp hp with rfl | hp
      · exact ⟨hc2, aS, zS⟩
      · rw [List.mem_singleton.mp hp]
        exact ⟨(s1.2 _ hSI.symm).trans hoI', aI, fresh _ hL⟩
  · have e : j' = 0 := by omega
    subst e
    omega
end
end Mine
end
section
open PySem PySem.W PySem.Calls PyProof.Rows PySem.W.KBw
set_option maxHeartbeats 4000000
namespace Mine
theorem dec3 {x y : Int} {i j : Nat} (hi : i < 3) (hj : j < 3) : (x < y ∨ (x = y ∧ (i : Int) < (j : Int))) ↔ 3 * x + (i : Int) < 3 * y + (j : Int) := by omega
section
variable {prog : Program} {w : World} {A : Around} {E : Value → Shared → Prop} {s : Shared} {h₀ : Heap} {L l : Addr} {m : Str → Option Value} {news : List (Addr × Obj)} {Q : Value → Shared → Prop}
theorem min_pairs {t0 t1 t2 : Addr} {o0 o1 o2 : Obj} {n n0 n1 n2 : Nat} {a b c : Int} {ta tb tc u0 u1 u2 : Tok} (hh : A.handled = none) (hu : A.in1.units < cLine) (F : Fr h₀ L s.heap m) (N : News h₀ L s.heap news)
    (hm : (l, W.listOf #[.ref t0, .ref t1, .ref t2] n) ∈ news)
    (m0 : (t0, o0) ∈ news) (c0 : o0.cls = .type "tuple") (d0 : o0.data = .seq #[.int a ta, .int 0 u0] n0)
    (m1 : (t1, o1) ∈ news) (c1 : o1.cls = .type "tuple") (d1 : o1.data = .seq #[.int b tb, .int 1 u1] n1)
    (m2 : (t2, o2) ∈ news) (c2 : o2.cls = .type "tuple") (d2 : o2.data = .seq #[.int c tc, .int 2 u2] n2)
    (q0 : a ≤ b → a ≤ c → ∀ h' tk', Fr h₀ L h' m → News h₀ L h' news → Q (.ref t0) { s with heap := h', toks := tk' })
    (q1 : ¬ a ≤ b → b ≤ c → ∀ h' tk', Fr h₀ L h' m → News h₀ L h' news → Q (.ref t1) { s with heap := h', toks := tk' })
    (q2 : (¬ a ≤ b ∨ ¬ a ≤ c) → ¬ b ≤ c → ∀ h' tk', Fr h₀ L h' m → News h₀ L h' news → Q (.ref t2) { s with heap := h', toks := tk' }) :
    wpAny (model prog w) A (call (.builtin "min") [.ref l]) Q E s := by
  have tup : ∀ (h : Heap), News h₀ L h news → IsTup h t0 #[.int a ta, .int 0 u0] ∧ IsTup h t1 #[.int b tb, .int 1 u1] ∧ IsTup h t2 #[.int c tc, .int 2 u2] := fun h N' =>
    ⟨⟨o0, (N' _ m0).1, c0, n0, d0⟩, ⟨o1, (N' _ m1).1, c1, n1, d1⟩, ⟨o2, (N' _ m2).1, c2, n2, d2⟩⟩
  refine min_by (vs := [.ref t0, .ref t1, .ref t2]) (fun i => 3 * (if i = 0 then a else if i = 1 then b else c) + (i : Int)) hh F N (fun h _ N' => ⟨_, (N' _ hm).1, rfl, n, rfl⟩) (by simp) ?_ ?_
  · intro i j vi vj hi hj hij h tk F' N' Q' E' hQ'
    obtain ⟨x0, x1, x2⟩ := tup h N'
    have hi3 : i < 3 := (List.getElem?_eq_some_iff.mp hi).1
    have hj3 : j < 3 := (List.getElem?_eq_some_iff.mp hj).1
    have key : ∀ {ti tj : Addr} {x y : Int} {p q : Int} {tx ty tp tq : Tok}, IsTup h ti #[.int x tx, .int p tp] → IsTup h tj #[.int y ty, .int q tq] → vi = .ref ti → vj = .ref tj → p = (i : Int) → q = (j : Int) →
        x = (if i = 0 then a else if i = 1 then b else c) → y = (if j = 0 then a else if j = 1 then b else c) → wpAny (model prog w) A.in1 (richCompare .Lt vi vj) Q' E' { s with heap := h, toks := tk } := by
      intro ti tj x y p q tx ty tp tq hx hy e1 e2 e3 e4 e5 e6
      subst e1 e2
      refine tup_lt (s := { s with heap := h, toks := tk }) hu hx hy (by omega) ?_
      subst e3 e4
      have : decide (x < y ∨ (x = y ∧ (i : Int) < (j : Int))) = decide (3 * (if i = 0 then a else if i = 1 then b else c) + (i : Int) < 3 * (if j = 0 then a else if j = 1 then b else c) + (j : Int)) := by
        rw [← e5, ← e6]
        exact decide_eq_decide.mpr (dec3 hi3 hj3)
      rw [this]
      exact hQ'
    have pick : ∀ k, k < 3 → k = 0 ∨ k = 1 ∨ k = 2 := fun k hk => by omega
    rcases pick i hi3 with rfl | rfl | rfl <;> rcases pick j hj3 with rfl | rfl | rfl <;> simp at hi hj <;> first
      | exact absurd rfl hij
      | exact key x0 x1 hi.symm hj.symm rfl rfl rfl rfl
      | exact key x0 x2 hi.symm hj.symm rfl rfl rfl rfl
      | exact key x1 x0 hi.symm hj.symm rfl rfl rfl rfl
      | exact key x1 x2 hi.symm hj.symm rfl rfl rfl rfl
      | exact key x2 x0 hi.symm hj.symm rfl rfl rfl rfl
      | exact key x2 x1 hi.symm hj.symm rfl rfl rfl rfl
  · intro i v h' tk' hv hbest F' N'
    have hi3 : i < 3 := (List.getElem?_eq_some_iff.mp hv).1
    have b0 := hbest 0 (by simp)
    have b1 := hbest 1 (by simp)
    have b2 := hbest 2 (by simp)
    have pick : ∀ k, k < 3 → k = 0 ∨ k = 1 ∨ k = 2 := fun k hk => by omega
    rcases pick i hi3 with rfl | rfl | rfl <;> simp at hv b0 b1 b2 <;> subst hv
    · exact q0 (by omega) (by omega) h' tk' F' N'
    · exact q1 (by omega) (by omega) h' tk' F' N'
    · exact q2 (by omega) (by omega) h' tk' F' N'
end
end Mine
namespace Mine
theorem pred0 (a b c : Int) : (0 : Int) = predOf 0 a b c := by simp [predOf]
theorem pred1 (a b c : Int) : a = predOf 1 a b c := by simp [predOf]
theorem pred2 (a b c : Int) : b = predOf 2 a b c := by simp [predOf]
theorem pred3 (a b c : Int) : (a + b).fdiv 2 = predOf 3 a b c := by simp [predOf, Int.fdiv_eq_ediv_of_nonneg]
theorem pred4a {a b c : Int} (h1 : pabs (a + b - c - a) ≤ pabs (a + b - c - b)) (h2 : pabs (a + b - c - a) ≤ pabs (a + b - c - c)) : a = predOf 4 a b c := by
  simp only [predOf, show (4 : Int) = 1 ↔ False by decide, show (4 : Int) = 2 ↔ False by decide, show (4 : Int) = 3 ↔ False by decide, if_false, if_true]
  unfold paeth; rw [if_pos ⟨h1, h2⟩]
theorem pred4b {a b c : Int} (h1 : ¬ pabs (a + b - c - a) ≤ pabs (a + b - c - b)) (h2 : pabs (a + b - c - b) ≤ pabs (a + b - c - c)) : b = predOf 4 a b c := by
  simp only [predOf, show (4 : Int) = 1 ↔ False by decide, show (4 : Int) = 2 ↔ False by decide, show (4 : Int) = 3 ↔ False by decide, if_false, if_true]
  unfold paeth; rw [if_neg (fun h => h1 h.1), if_pos h2]
theorem pred4c {a b c : Int} (h1 : ¬ pabs (a + b - c - a) ≤ pabs (a + b - c - b) ∨ ¬ pabs (a + b - c - a) ≤ pabs (a + b - c - c)) (h2 : ¬ pabs (a + b - c - b) ≤ pabs (a + b - c - c)) : c = predOf 4 a b c := by
  simp only [predOf, show (4 : Int) = 1 ↔ False by decide, show (4 : Int) = 2 ↔ False by decide, show (4 : Int) = 3 ↔ False by decide, if_false, if_true]
  unfold paeth; rw [if_neg (fun h => h1.elim (fun x => x h.1) fun x => x h.2), if_neg h2]
end Mine
namespace Mine
theorem tend_filtM {kind : Int} {sn : Nat} {row ab : List Int} {tl : Addr} {rest news' own : List (Addr × Obj)} {ps : List (Str × Value)} {j c : Nat} {vs : List Value} {v : Int} {t : Tok} {h₀ h' : Heap} {L : Addr} {m' : Str → Option Value} {s₁ : Shared} {tk : Nat} {Q : Flow → Shared → Prop}
    (F : Fr h₀ L h' m') (N : News h₀ L h' news') (hm : (tl, W.listOf (vs ++ [Value.int v t]).toArray c) ∈ news') (hr : ∀ p ∈ rest, p ∈ news') (ho : ∀ p ∈ own, p ∈ news') (hoff : OwnOff own (tl :: rest.map (·.1)))
    (Iv : IntsAre vs (filt kind sn row ab j)) (hv : v = filtPix kind sn row ab j) (hl : vs.length = j) (hp : ∀ p ∈ ps, m' p.1 = some p.2) :
    TPost h₀ L (FiltJ kind sn row ab tl rest ps (j + 1)) own s₁ Q .next { s₁ with heap := h', toks := tk } := by
  refine tend_next (tend_intro ((tl, W.listOf (vs ++ [Value.int v t]).toArray c) :: rest) F N ?_ ho (off_own hoff) ⟨_, c, ?_, by simp [hl], rfl, hp⟩)
  · intro p hp
    rcases List.mem_cons.mp hp with rfl | hp
    · exact hm
    · exact hr p hp
  · rw [filt_succ, hv]; exact ints_snoc Iv
end Mine
namespace Mine
theorem pred4x {a b c : Int} (h1 : (if a + b - c - a < 0 then -(a + b - c - a) else a + b - c - a) ≤ (if a + b - c - b < 0 then -(a + b - c - b) else a + b - c - b)) (h2 : (if a + b - c - a < 0 then -(a + b - c - a) else a + b - c - a) ≤ (if a + b - c - c < 0 then -(a + b - c - c) else a + b - c - c)) : a = predOf 4 a b c := pred4a h1 h2
theorem pred4y {a b c : Int} (h1 : ¬ (if a + b - c - a < 0 then -(a + b - c - a) else a + b - c - a) ≤ (if a + b - c - b < 0 then -(a + b - c - b) else a + b - c - b)) (h2 : (if a + b - c - b < 0 then -(a + b - c - b) else a + b - c - b) ≤ (if a + b - c - c < 0 then -(a + b - c - c) else a + b - c - c)) : b = predOf 4 a b c := pred4b h1 h2
theorem pred4z {a b c : Int} (h1 : ¬ (if a + b - c - a < 0 then -(a + b - c - a) else a + b - c - a) ≤ (if a + b - c - b < 0 then -(a + b - c - b) else a + b - c - b) ∨ ¬ (if a + b - c - a < 0 then -(a + b - c - a) else a + b - c - a) ≤ (if a + b - c - c < 0 then -(a + b - c - c) else a + b - c - c)) (h2 : ¬ (if a + b - c - b < 0 then -(a + b - c - b) else a + b - c - b) ≤ (if a + b - c - c < 0 then -(a + b - c - c) else a + b - c - c)) : c = predOf 4 a b c := pred4c h1 h2
end Mine
namespace Mine
section
variable {M : Model} {A : Around} {E : Value → Shared → Prop} {s : Shared} {h₀ : Heap} {L : Addr} {m : Str → Option Value} {news : List (Addr × Obj)}
/-- an int whose ways meet: only what it is stands on -/
theorem join_int {t : Sem Value} {Q : Value → Shared → Prop} (F : Fr h₀ L s.heap m) (N : News h₀ L s.heap news) (n : Int)
    (h₁ : wpAny M A t (Joined h₀ L m news (fun v => ∃ tk, v = Value.int n tk) s) E s)
    (h₂ : ∀ tk h k, Fr h₀ L h m → News h₀ L h news → Q (.int n tk) { s with heap := h, toks := k }) : wpAny M A t Q E s :=
  wp_join F N _ h₁ fun v h k ⟨tk, e⟩ F' N' => by subst e; exact h₂ tk h k F' N'
end
end Mine
end
section
open PySem PySem.W PySem.Calls PySem.Spec PyProof.Rows PySem.W.KBw
set_option maxHeartbeats 4000000
namespace Mine
/-- what a comprehension's range with a step has to hand over -/
def SrcStep (prog : Program) (w : World) (A : Around) (h₀ : Heap) (L : Addr) (m : Str → Option Value) (env : Env) (elt : Expr) (x : Str) (scope : Scope) (cl : List (Str × Addr)) (Fin : Shared → List Value → List (Addr × Obj) → Prop) (xv : Value) (s₁ : Shared) : Prop :=
  ∃ r a b c t u v n news, xv = .ref r ∧ A.handled = none ∧ Fr h₀ L s₁.heap m ∧ News h₀ L s₁.heap news ∧ IsRange s₁.heap r a b c t u v ∧ Builtin.Range.small a b c = true ∧ Builtin.Range.rangeSize a b c = ((n : Nat) : Int) ∧ n ≤ sizeLine ∧
    ∀ s₂ : Shared, (∃ h, s₂ = { s₁ with heap := h }) → LCg.CompRest prog w A h₀ L m env elt x scope cl s₂ (fun _ => True) (fun i v => ∃ t, v = .int (a + (i : Int) * c) t) (Fin s₂) n 0 [] news
section
variable {prog : Program} {w : World} {A : Around} {E : Value → Shared → Prop} {s : Shared} {h₀ : Heap} {L : Addr} {m : Str → Option Value} {env : Env}
theorem step_st {I : Addr} {a c : Int} {n : Nat} : ∀ i (h h' : Heap) (o : Obj) (nw : List (Addr × Obj)), IsRangeIter h I (a + (i : Nat) * c) ((n : Int) - (i : Nat)) c → h.get? I = some o → h'.get? I = some o → (∀ b o, h₀.get? b = some o → h'.get? b = some o) → News h₀ L h' nw → True → IsRangeIter h' I (a + (i : Nat) * c) ((n : Int) - (i : Nat)) c := by
  intro i h h' o nw st e e' _ _ _
  have st' : h.get? I = some _ := st
  show h'.get? I = some _
  rw [e', ← e]; exact st'
/-- y = [elt for x in range(a, b, c)] -/
theorem Assign_comp_step {elt iter : Expr} {x y : Str} {px py : Pos} {scope : Scope} {cl : List (Str × Addr)} {pos spos : Pos} {Q : Flow → Shared → Prop} (_F₀ : Fr h₀ L s.heap m) (hLe : env.locals = L)
    (hsw : swapsWith (.ListComp elt [⟨.Name x px, iter, [], 0⟩] scope pos) (some (.Name y py)) spos.line env = pure true)
    (hclos : closureFor scope env = pure cl) (hcell : ∀ z ∈ scope.names, z.2 ≠ .cell) (hkind : scope.kind = .function)
    (hnames : ∀ z ∈ scope.names, z.2 = .local → scope.names.lookup z.1 = some .local) (hx : scope.names.lookup x = some .local)
    (hy : env.kindOf y = some .local) (hp : (env.scope.kind == .class || (env.scope.kind == .module && env.locals != env.globals)) = false)
    (h : wpAny (model prog w) A (eval iter env) (SrcStep prog w A h₀ L m env elt x scope cl (fun s₂ => LCg.FinA h₀ L m s₂ y Q)) E s)
    (hs : ∀ x, foldedSetIterable iter env x = pure x := by intro _; rfl) :
    wpAny (model prog w) A (exec (.Assign [.Name y py] (.ListComp elt [⟨.Name x px, iter, [], 0⟩] scope pos) spos) env) Q E s := by
  subst hLe
  rw [exec_Assign_Name_used _ _ _ _ hsw]
  refine wpAny_bind (wpAny_standAt (wpAny_bind ?_))
  show wpAny _ A (do let _ ← comprehension (.ListComp elt [⟨.Name x px, iter, [], 0⟩] scope pos) scope env _ (newList []) false (eval iter env) (some (assign (.Name y py) env))) _ _ s
  refine wpAny_bind (wpAny_mono (wpAny_comprehension_free (use := some (assign (.Name y py) env)) (Q := fun _ s' => Q .next s') rfl hs hclos hkind hnames
    (wpAny_mono h (fun xv s₁ h₁ => ?_) fun _ _ e => e)) (fun _ s' hq => wpAny_pure (wpAny_pure hq)) fun _ _ e => e)
  obtain ⟨r, a, b, c, t, u, v, n, news, rfl, hh, F, N, hr, hsm, hn, hsz, R⟩ := h₁
  refine wpAny_pyIter_range hr hsm ?_
  refine LCg.block_U (Walks.range hh s₁.heap.objs.size a c n) hsz (fun i h st => ⟨_, st⟩) step_st hcell hkind hx (by show IsRangeIter _ _ _ _ _; rw [hn]; simpa using Heap.get?_push_size _ rfl) (fun b hb => ?_)
    (F.push _) (fun p hp => ⟨Heap.get?_push_of_some _ (N p hp).1, (N p hp).2⟩) (Nat.ne_of_lt F.ns.lt) (next_is_new F) (fun p hp => Nat.ne_of_lt (Heap.lt_size (N p hp).1)) trivial (R _ ⟨_, rfl⟩) ?_
  · rw [List.mem_singleton.mp hb]
    show s₁.heap.objs.size < (s₁.heap.push _).objs.size
    rw [Heap.size_push]; exact Nat.lt_succ_self _
  · intro D C h' tk m' ys news' F' N' o1 hn hC₀ hD₀ hCL hDL hCD offC fin
    show wpAny _ A (assign (.Name y py) env (.ref D)) _ _ _
    refine wpAny_assign_Name (wpAny_storeName_local hy F'.ns (fun h₂ hn₂ hs₂ => ?_) hp)
    have hL₀ : h₀.get? env.locals = none := Heap.get?_none_of_le F'.above
    have F₂ : Fr h₀ env.locals h₂ (fun z => if z = y then some (.ref D) else m z) := ⟨hn₂, fun b o e => hs₂.extBut b o (fun q => by rw [q, hL₀] at e; cases e) (F'.keep b o e), F'.above⟩
    refine ⟨m', hn.sameBut hs₂ hCL, fun h'' hs'' => fin D h'' _ (F₂.change hs'' hCL hC₀) (fun p hp => ?_) o1⟩
    have z : h₂.get? p.1 = some p.2 := hs₂.extBut _ _ (N' p hp).2.1 (N' p hp).1
    refine ⟨hs''.extBut _ _ ?_ z, (N' p hp).2⟩
    rcases List.mem_cons.mp hp with rfl | hp
    · exact Ne.symm hCD
    · exact offC p hp
/-- the turns of a comprehension, by an invariant -/
theorem rest_by {elt : Expr} {x : Str} {scope : Scope} {cl : List (Str × Addr)} {S : List (Addr × Obj) → Prop} {P : Nat → Value → Prop} {Fin : List Value → List (Addr × Obj) → Prop} {n : Nat}
    (J : Nat → List Value → List (Addr × Obj) → Prop)
    (turn : ∀ i ys news, i < n → J i ys news → ∀ v I oI C oC D m₂ h tk (E' : Value → Shared → Prop), P i v → LCg.NsObj oC m₂ → m₂ x = some v → Fr h₀ L h m → News h₀ L h ((I, oI) :: (C, oC) :: (D, LCg.lst ys) :: news) → LCg.Off3 I C D news → ((@Ne Nat I C) ∧ (@Ne Nat I D) ∧ (@Ne Nat C D)) →
      wpAny (model prog w) A (eval elt (compEnvC scope cl C env)) (LCg.CompEnd h₀ L m { s with heap := h, toks := tk } I oI C oC D (LCg.lst ys) S (fun y news' => J (i + 1) (ys ++ [y]) news')) E' { s with heap := h, toks := tk })
    (fin : ∀ ys news, J n ys news → Fin ys news) : ∀ k i ys news, i + k = n → J i ys news → LCg.CompRest prog w A h₀ L m env elt x scope cl s S P Fin k i ys news
  | 0, i, ys, news, e, hj => by
    obtain rfl : i = n := by omega
    exact LCg.CompRest.zero (fin ys news hj)
  | k + 1, i, ys, news, e, hj => LCg.CompRest.succ fun v I oI C oC D m₂ h tk E' hP hC hx F N off ne =>
    wpAny_mono (turn i ys news (by omega) hj v I oI C oC D m₂ h tk E' hP hC hx F N off ne) (fun y s' hs' => by
      obtain ⟨h', tk', news', e', F', N', off', hS, r⟩ := hs'
      exact ⟨h', tk', news', e', F', N', off', hS, rest_by J turn fin k (i + 1) _ _ (by omega) r⟩) fun _ _ e => e
end
/-- the rows of a list of ints -/
def rowAt (ks : List Int) (S j : Nat) : List Int := (ks.drop (j * S)).take S
def RowsIn (ks : List Int) (S n : Nat) (rs : List Value) (news : List (Addr × Obj)) : Prop :=
  rs.length = n ∧ ∀ j, j < n → ∃ a vs c, rs[j]? = some (.ref a) ∧ (a, W.listOf vs.toArray c) ∈ news ∧ IntsAre vs (rowAt ks S j)
def RowsJ (ks : List Int) (S : Nat) (base : List (Addr × Obj)) (i : Nat) (rs : List Value) (news : List (Addr × Obj)) : Prop :=
  ∃ RB, news = base ++ RB ∧ RowsIn ks S i rs RB
theorem rows_zero {ks : List Int} {S : Nat} {base : List (Addr × Obj)} : RowsJ ks S base 0 [] base :=
  ⟨[], (List.append_nil _).symm, rfl, fun j hj => absurd hj (Nat.not_lt_zero _)⟩
theorem rows_snoc {ks : List Int} {S i : Nat} {base RB : List (Addr × Obj)} {rs : List Value} {a : Addr} {vs : List Value} {c : Nat} (h : RowsIn ks S i rs RB) (I : IntsAre vs (rowAt ks S i)) :
    RowsJ ks S base (i + 1) (rs ++ [.ref a]) (base ++ ((a, W.listOf vs.toArray c) :: RB)) := by
  refine ⟨(a, W.listOf vs.toArray c) :: RB, rfl, by simp [h.1], fun j hj => ?_⟩
  by_cases e : j = i
  · subst e
    exact ⟨a, vs, c, by simp [h.1], by simp, I⟩
  · obtain ⟨a', vs', c', h1, h2, h3⟩ := h.2 j (by omega)
    exact ⟨a', vs', c', by rw [List.getElem?_append_left (by rw [h.1]; omega)]; exact h1, List.mem_cons_of_mem _ h2, h3⟩
theorem range_small {len S : Nat} (hl : len ≤ 200) (hS0 : 0 < S) (hS : S ≤ 100) : Builtin.Range.small 0 (len : Int) (S : Int) = true := small_rows (by omega) hS0 (by omega)
theorem slice_row (ks : List Int) (S i : Nat) : List.take (min (((i * S : Nat) : Int) + (S : Int)).toNat ks.length - (((i * S : Nat) : Int)).toNat) (List.drop (((i * S : Nat) : Int)).toNat ks) = rowAt ks S i := by
  have e1 : (((i * S : Nat) : Int) + (S : Int)).toNat = i * S + S := by omega
  have e2 : (((i * S : Nat) : Int)).toNat = i * S := by omega
  rw [e1, e2]
  exact take_min ks (i * S) S
theorem rows_turn {h₀ h' : Heap} {L I C D a : Addr} {m : Str → Option Value} {s : Shared} {tk S i c : Nat} {ks : List Int} {oI oC : Obj} {base RB : List (Addr × Obj)} {rs vs : List Value} {Z : Prop}
    (hRB : RowsIn ks S i rs RB) (off : LCg.Off3 I C D (base ++ RB)) (F : Fr h₀ L h' m) (N : News h₀ L h' ((a, W.listOf vs.toArray c) :: (I, oI) :: (C, oC) :: (D, LCg.lst rs) :: (base ++ RB))) (l : I < a ∧ C < a ∧ D < a ∧ Z)
    (IS : IntsAre vs (List.take (min (((i * S : Nat) : Int) + (S : Int)).toNat ks.length - (((i * S : Nat) : Int)).toNat) (List.drop (((i * S : Nat) : Int)).toNat ks))) :
    LCg.CompEnd h₀ L m s I oI C oC D (LCg.lst rs) (fun _ => True) (fun y news' => RowsJ ks S base (i + 1) (rs ++ [y]) news') (.ref a) { s with heap := h', toks := tk } := by
  rw [slice_row] at IS
  refine LCg.CompEnd.intro F N (base ++ ((a, W.listOf vs.toArray c) :: RB)) ?_ ?_ trivial (rows_snoc hRB IS)
  · intro p hp
    simp only [List.mem_cons, List.mem_append] at hp ⊢
    rcases hp with h | h | h | h | h | h <;> simp [h]
  · refine LCg.Off3.of fun p hp => ?_
    have ho := off.mem
    rcases List.mem_append.mp hp with h | h
    · exact ho p (List.mem_append_left _ h)
    · rcases List.mem_cons.mp h with rfl | h
      · exact ⟨Ne.symm (Nat.ne_of_lt l.1), Ne.symm (Nat.ne_of_lt l.2.1), Ne.symm (Nat.ne_of_lt l.2.2.1)⟩
      · exact ho p (List.mem_append_right _ h)
end Mine
end
section
open PySem PySem.W PySem.Calls PySem.Spec PyProof.Rows PySem.W.KBw
set_option maxHeartbeats 4000000
namespace Mine
/-- the law's own words: a row's kind, the row above, what the rows so far are filtered to -/
def kindL (ns : List Int) (b : Int) (cn j : Nat) : Int :=
  if b = 1 then ((ns.getD (ns.length - 1 - j) 0).fmod 5).fmod 2 * 2 else if j = 0 ∧ 1 < cn then ((ns.getD (ns.length - 1 - j) 0).fmod 5).fmod 2 else (ns.getD (ns.length - 1 - j) 0).fmod 5
def abv (ks : List Int) (ln j : Nat) : List Int := if j = 0 then List.replicate ln 0 else rowAt ks ln (j - 1)
def dataL (kd : Nat → Int) (ks : List Int) (sn ln : Nat) : Nat → List Int
  | 0 => []
  | j + 1 => dataL kd ks sn ln j ++ (kd j :: filt (kd j) sn (rowAt ks ln j) (abv ks ln j) (rowAt ks ln j).length)
def startsL (kd : Nat → Int) (ks : List Int) (sn ln j : Nat) : List Int := (List.range j).map fun i => ((dataL kd ks sn ln i).length : Int)
def LawJ (kd : Nat → Int) (ks : List Int) (sn ln : Nat) (stA : Addr) (rest : List (Addr × Obj)) (ps : List (Str × Value)) (i : Nat) (m : Str → Option Value) (nx : List (Addr × Obj)) : Prop :=
  ∃ Dd vd cd al va ca vst cst, IntsAre vd (dataL kd ks sn ln i) ∧ IntsAre va (abv ks ln i) ∧ IntsAre vst (startsL kd ks sn ln i) ∧ nx = (Dd, W.listOf vd.toArray cd) :: (stA, W.listOf vst.toArray cst) :: (al, W.listOf va.toArray ca) :: rest ∧
    Dd ≠ stA ∧ al ≠ stA ∧ m (Str.ofString "data") = some (.ref Dd) ∧ m (Str.ofString "above") = some (.ref al) ∧ ∀ p ∈ ps, m p.1 = some p.2
theorem kind_in {ns : List Int} {b : Int} {cn j : Nat} : kindL ns b cn j = 0 ∨ kindL ns b cn j = 1 ∨ kindL ns b cn j = 2 ∨ kindL ns b cn j = 3 ∨ kindL ns b cn j = 4 := by
  unfold kindL
  generalize ns.getD (ns.length - 1 - j) 0 = x
  have h1 := Int.fmod_nonneg_of_pos x (show (0 : Int) < 5 by decide)
  have h2 := Int.fmod_lt_of_pos x (show (0 : Int) < 5 by decide)
  have h3 := Int.fmod_nonneg_of_pos (x.fmod 5) (show (0 : Int) < 2 by decide)
  have h4 := Int.fmod_lt_of_pos (x.fmod 5) (show (0 : Int) < 2 by decide)
  split
  · omega
  · split <;> omega
theorem abv_zero (ks : List Int) (ln : Nat) : (List.replicate ((ln : Int)).toNat [(0 : Int)]).flatten = abv ks ln 0 := by
  unfold abv; simp
theorem led_loop {h₀ h : Heap} {L a b c d : Addr} {o1 o2 o3 o4 : Obj} {rest : List (Addr × Obj)} (N : News h₀ L h ((a, o1) :: (b, o2) :: (c, o3) :: (d, o4) :: rest)) :
    ∃ r, r = rest ∧ News h₀ L h ((d, o4) :: (c, o3) :: (a, o1) :: r) := by
  refine ⟨rest, rfl, fun p hp => N p ?_⟩
  simp only [List.mem_cons] at hp ⊢
  rcases hp with h | h | h | h <;> simp [h]
theorem news_dup {h₀ h : Heap} {L : Addr} {p : Addr × Obj} {news : List (Addr × Obj)} (hm : p ∈ news) (N : News h₀ L h news) : News h₀ L h (p :: news) := fun q hq => by
  rcases List.mem_cons.mp hq with rfl | hq
  · exact N _ hm
  · exact N q hq
theorem law_keep {kd : Nat → Int} {ks : List Int} {sn ln : Nat} {stA : Addr} {rest : List (Addr × Obj)} {ps : List (Str × Value)} {p : Addr × Obj} (hp : p ∈ rest) : ∀ i m nx, LawJ kd ks sn ln stA rest ps i m nx → p ∈ nx := by
  rintro i m nx ⟨_, _, _, _, _, _, _, _, _, _, _, rfl, _⟩
  exact List.mem_cons_of_mem _ (List.mem_cons_of_mem _ (List.mem_cons_of_mem _ hp))
theorem law_start {kd : Nat → Int} {ks : List Int} {sn ln : Nat} {dA stA abA : Addr} {rest : List (Addr × Obj)} {ps : List (Str × Value)} {m : Str → Option Value} {va : List Value} {cd cst ca : Nat} (Ia : IntsAre va (abv ks ln 0)) (h1 : dA < stA) (h2 : stA < abA)
    (hd : m (Str.ofString "data") = some (.ref dA)) (ha : m (Str.ofString "above") = some (.ref abA)) (hp : ∀ p ∈ ps, m p.1 = some p.2) :
    LawJ kd ks sn ln stA rest ps 0 m ((dA, W.listOf [].toArray cd) :: (stA, W.listOf [].toArray cst) :: (abA, W.listOf va.toArray ca) :: rest) :=
  ⟨dA, [], cd, abA, va, ca, [], cst, .nil, Ia, .nil, rfl, Nat.ne_of_lt h1, (Nat.ne_of_lt h2).symm, hd, ha, hp⟩
theorem tok_gen {h₀ h : Heap} {L : Addr} {nm : Str} {n : Int} {t : Tok} {g : Str → Option Value} (F : Fr h₀ L h (fun y => if y = nm then some (Value.int n t) else g y)) : ∃ tk, Fr h₀ L h (fun y => if y = nm then some (Value.int n tk) else g y) := ⟨t, F⟩
section
variable {prog : Program} {w : World} {A : Around} {E : Value → Shared → Prop} {s : Shared}
/-- the item from the end of a list of ints -/
theorem item_neg {value slice : PySem.Expr} {l : Addr} {vs : List Value} {ns : List Int} {i : Nat} {u : Tok} {Q : Value → Shared → Prop} (hl : s.heap.IsList l vs.toArray) (hi : IntsAre vs ns)
    (h1 : i < ns.length) (hfit : ns.length ≤ 1000000) (h : ∀ t, Q (.int (ns.getD (ns.length - 1 - i) 0) t) s)
    (hs : subscripted slice false (.ref l) (.int (-1 - (i : Int)) u) = operate [.ref l, .int (-1 - (i : Int)) u] (getItem (.ref l) (.int (-1 - (i : Int)) u)) := by with_unfolding_all rfl) :
    wpAny (model prog w) A (subscriptTail value slice (.ref l) (.int (-1 - (i : Int)) u)) Q E s := by
  have hlen := hi.length
  have hj : (-1 - (i : Int) + (vs.toArray.size : Int)).toNat = ns.length - 1 - i := by rw [List.size_toArray]; omega
  obtain ⟨t, ht⟩ : ∃ t, vs[ns.length - 1 - i]? = some (.int (ns.getD (ns.length - 1 - i) 0) t) := by
    have hlt : ns.length - 1 - i < ns.length := by omega
    generalize ns.length - 1 - i = j at hlt
    clear h hs hj hl h1 hfit hlen
    induction hi generalizing j with
    | nil => exact absurd hlt (Nat.not_lt_zero _)
    | cons k t _ ih =>
      cases j with
      | zero => exact ⟨t, rfl⟩
      | succ j => exact ih j (by simpa using hlt)
  refine tail_any hl.typeIs slot_list_getitem.lookup (wpAny_getItem_list_neg hl (by omega) (by rw [List.size_toArray]; omega) (by omega) (x := .int (ns.getD (ns.length - 1 - i) 0) t) ?_ (h t)) hs
  rw [hj]; simpa using ht
end
section
variable {M : Model} {A : Around} {E : Value → Shared → Prop} {s : Shared} {h₀ : Heap} {L : Addr} {m₀ : Str → Option Value} {news : List (Addr × Obj)}
/-- ways that meet after a statement: of the frame only the pairs stand on -/
theorem wp_joinK {t : Sem Flow} {Q : Flow → Shared → Prop} (F : Fr h₀ L s.heap m₀) (_N : News h₀ L s.heap news) (ps : Nat → List (Str × Value))
    (h₁ : wpAny M A t (JoinedF h₀ L (fun v m nw => v = Flow.next ∧ nw = news ∧ ∃ tk, ∀ p ∈ ps tk, m p.1 = some p.2) s) E s)
    (h₂ : ∀ h k m tk, Fr h₀ L h (kstB m (ps tk)) → News h₀ L h news → Q .next { s with heap := h, toks := k }) : wpAny M A t Q E s :=
  wp_joinF F _ h₁ fun v h k m nw ⟨e1, e2, tk, hp⟩ F' N' => by subst e1 e2; exact h₂ h k m tk (fr_pairs F' hp) N'
theorem joinedK {h : Heap} {k : Nat} {tk : Tok} {nm : Str} {n : Int} {m : Str → Option Value} {qs : List (Str × Value)} (F : Fr h₀ L h m) (N : News h₀ L h news) (hk : m nm = some (.int n tk)) (hp : ∀ p ∈ qs, m p.1 = some p.2) :
    JoinedF h₀ L (fun v m nw => v = Flow.next ∧ nw = news ∧ ∃ tk, ∀ p ∈ (fun tk : Nat => (nm, Value.int n tk) :: qs) tk, m p.1 = some p.2) s Flow.next { s with heap := h, toks := k } :=
  ⟨h, k, m, news, rfl, F, N, rfl, rfl, tk, fun p hp' => by
    rcases List.mem_cons.mp hp' with rfl | hp'
    · exact hk
    · exact hp p hp'⟩
end
theorem kind_a {ns : List Int} {b : Int} {cn j : Nat} (hb : b = 1) : ((ns.getD (ns.length - 1 - j) 0).fmod 5).fmod 2 * 2 = kindL ns b cn j := by unfold kindL; rw [if_pos hb]
theorem kind_b {ns : List Int} {b : Int} {cn j : Nat} (hb : ¬ b = 1) (hj : j = 0) (hc : 1 < cn) : ((ns.getD (ns.length - 1 - j) 0).fmod 5).fmod 2 = kindL ns b cn j := by unfold kindL; rw [if_neg hb, if_pos ⟨hj, hc⟩]
theorem kind_c {ns : List Int} {b : Int} {cn j : Nat} (hb : ¬ b = 1) (hj : ¬ (j = 0 ∧ 1 < cn)) : (ns.getD (ns.length - 1 - j) 0).fmod 5 = kindL ns b cn j := by unfold kindL; rw [if_neg hb, if_neg hj]
theorem allLt_mem {d : Nat} : ∀ {l : List (Addr × Obj)}, AllLt d l → ∀ p ∈ l, @LT.lt Nat _ p.1 d
  | [], _, _, hp => nomatch hp
  | _ :: _, h, p, hp => by
    rcases List.mem_cons.mp hp with rfl | hp
    · exact h.1
    · exact allLt_mem h.2 p hp
end Mine
end
section
set_option maxHeartbeats 4000000
namespace Mine
theorem rowAt_len (ks : List Int) (S j : Nat) : (rowAt ks S j).length = min S (ks.length - j * S) := by
  unfold rowAt; rw [List.length_take, List.length_drop]
theorem rowAt_le (ks : List Int) (S j : Nat) : (rowAt ks S j).length ≤ S := by rw [rowAt_len]; exact Nat.min_le_left _ _
theorem rowAt_full {ks : List Int} {S j : Nat} (h : j + 1 < nRows ks.length S) (hS : 0 < S) : (rowAt ks S j).length = S := by
  have := rows_in hS h
  rw [rowAt_len]
  rw [Nat.add_mul] at this
  omega
theorem rowAt_in {ks : List Int} (h : ∀ x ∈ ks, 0 ≤ x ∧ x < 256) (S j : Nat) : ∀ x ∈ rowAt ks S j, 0 ≤ x ∧ x < 256 :=
  fun x hx => h x (List.mem_of_mem_drop (List.mem_of_mem_take hx))
theorem filt_len (kind : Int) (sn : Nat) (row ab : List Int) (n : Nat) : (filt kind sn row ab n).length = n := by simp [filt]
theorem abv_len {ks : List Int} {ln j : Nat} (h : j < nRows ks.length ln) (hS : 0 < ln) : (abv ks ln j).length = ln := by
  unfold abv
  split
  · simp
  · rename_i hj
    exact rowAt_full (by omega) hS
theorem dataL_le (kd : Nat → Int) (ks : List Int) (sn ln : Nat) : ∀ j, (dataL kd ks sn ln j).length ≤ j * (ln + 1)
  | 0 => by simp [dataL]
  | j + 1 => by
    have h1 := dataL_le kd ks sn ln j
    have h2 := rowAt_le ks ln j
    simp only [dataL, List.length_append, List.length_cons, filt_len, Nat.succ_mul]
    omega
theorem dataL_len (kd : Nat → Int) (ks : List Int) (sn ln : Nat) : ∀ j, (dataL kd ks sn ln j).length = j + min (j * ln) ks.length
  | 0 => by simp [dataL]
  | j + 1 => by
    have h1 := dataL_len kd ks sn ln j
    have h2 := rowAt_len ks ln j
    simp only [dataL, List.length_append, List.length_cons, filt_len, Nat.succ_mul]
    omega
theorem dataL_at {kd : Nat → Int} {ks : List Int} {sn ln j : Nat} (hS : 0 < ln) (h : j < nRows ks.length ln) : (dataL kd ks sn ln j).length = j * (ln + 1) := by
  have := rows_in hS h
  rw [dataL_len, Nat.min_eq_left (Nat.le_of_lt this), Nat.mul_add]; omega
theorem dataL_all {kd : Nat → Int} {ks : List Int} {sn ln : Nat} (hS : 0 < ln) : (dataL kd ks sn ln (nRows ks.length ln)).length = nRows ks.length ln + ks.length := by
  rw [dataL_len, Nat.min_eq_right (rows_out hS)]
theorem dataL_rows {kd : Nat → Int} {ks : List Int} {sn ln : Nat} (hS : 0 < ln) : nRows (dataL kd ks sn ln (nRows ks.length ln)).length (ln + 1) = nRows ks.length ln := by
  rw [dataL_all hS]
  generalize hn : nRows ks.length ln = n
  by_cases h : ks.length = 0
  · have : n = 0 := by rw [← hn]; unfold nRows; rw [if_pos h]
    rw [h, this]; rfl
  · have h1 : n = (ks.length - 1) / ln + 1 := by rw [← hn]; unfold nRows; rw [if_neg h]
    unfold nRows
    rw [if_neg (by omega)]
    generalize hq : (ks.length - 1) / ln = q at h1
    have h2 : q * ln ≤ ks.length - 1 := by rw [← hq]; exact Nat.div_mul_le_self _ _
    have h3 : ks.length - 1 < (q + 1) * ln := by
      have := Nat.lt_div_mul_add (a := ks.length - 1) hS
      rw [hq] at this
      rw [Nat.add_mul]; omega
    have e1 : (q + 1) * (ln + 1) = (q + 1) * ln + q + 1 := by rw [Nat.mul_add]; omega
    have e2 : q * (ln + 1) = q * ln + q := by rw [Nat.mul_add]; omega
    have : (n + ks.length - 1) / (ln + 1) = q := by
      apply Nat.div_eq_of_lt_le
      · omega
      · show _ < (q + 1) * (ln + 1); omega
    omega
theorem dataL_split (kd : Nat → Int) (ks : List Int) (sn ln i : Nat) : ∀ d, ∃ tail, dataL kd ks sn ln (i + 1 + d) = dataL kd ks sn ln (i + 1) ++ tail ∧ (d = 0 → tail = [])
  | 0 => ⟨[], by simp, fun _ => rfl⟩
  | d + 1 => by
    obtain ⟨t, h, _⟩ := dataL_split kd ks sn ln i d
    have e : dataL kd ks sn ln (i + 1 + (d + 1)) = dataL kd ks sn ln (i + 1 + d) ++ (kd (i + 1 + d) :: filt (kd (i + 1 + d)) sn (rowAt ks ln (i + 1 + d)) (abv ks ln (i + 1 + d)) (rowAt ks ln (i + 1 + d)).length) := rfl
    rw [h, List.append_assoc] at e
    exact ⟨_, e, fun h => absurd h (Nat.succ_ne_zero d)⟩
theorem dataL_drop {kd : Nat → Int} {ks : List Int} {sn ln i : Nat} (hS : 0 < ln) (hi : i < nRows ks.length ln) :
    ∃ tail, (dataL kd ks sn ln (nRows ks.length ln)).drop (i * (ln + 1)) = (kd i :: filt (kd i) sn (rowAt ks ln i) (abv ks ln i) (rowAt ks ln i).length) ++ tail ∧ (i + 1 = nRows ks.length ln → tail = []) := by
  obtain ⟨t, h, ht⟩ := dataL_split kd ks sn ln i (nRows ks.length ln - (i + 1))
  rw [show i + 1 + (nRows ks.length ln - (i + 1)) = nRows ks.length ln by omega] at h
  refine ⟨t, ?_, fun e => ht (by omega)⟩
  have hl := dataL_at (kd := kd) (sn := sn) hS hi
  rw [h, ← hl]
  show (dataL kd ks sn ln i ++ _ ++ t).drop _ = _
  rw [List.append_assoc, List.drop_left]
theorem dataL_kind {kd : Nat → Int} {ks : List Int} {sn ln i : Nat} (hS : 0 < ln) (hi : i < nRows ks.length ln) : (dataL kd ks sn ln (nRows ks.length ln)).getD (i * (ln + 1)) 0 = kd i := by
  obtain ⟨t, h, _⟩ := dataL_drop (kd := kd) (sn := sn) hS hi
  have : (dataL kd ks sn ln (nRows ks.length ln))[i * (ln + 1)]? = some (kd i) := by
    have h2 := congrArg (fun l => l[0]?) h
    simpa [List.getElem?_drop] using h2
  rw [List.getD_eq_getElem?_getD, this]; rfl
theorem dataL_enc {kd : Nat → Int} {ks : List Int} {sn ln i : Nat} (hS : 0 < ln) (hi : i < nRows ks.length ln) : encAt (dataL kd ks sn ln (nRows ks.length ln)) ln (i * (ln + 1)) = filt (kd i) sn (rowAt ks ln i) (abv ks ln i) (rowAt ks ln i).length := by
  obtain ⟨t, h, ht⟩ := dataL_drop (kd := kd) (sn := sn) hS hi
  unfold encAt
  rw [← List.drop_drop, h]
  show List.take ln (filt _ _ _ _ _ ++ t) = _
  by_cases e : i + 1 = nRows ks.length ln
  · rw [ht e, List.append_nil, List.take_of_length_le]
    rw [filt_len]; exact rowAt_le _ _ _
  · have hf := rowAt_full (ks := ks) (S := ln) (j := i) (by omega) hS
    rw [List.take_left' (by rw [filt_len, hf])]
/-- a filtered row told again is the row -/
def Agrees (kind : Int) (bp sn : Nat) (ab' ab : List Int) (n : Nat) : Prop :=
  kind = 0 ∨ (kind = 1 ∧ bp = sn ∧ 1 ≤ sn) ∨ (kind = 2 ∧ ∀ j < n, ab'.getD j 0 = ab.getD j 0) ∨ (bp = sn ∧ 1 ≤ sn ∧ ∀ j < n, ab'.getD j 0 = ab.getD j 0)
theorem getD_take {l : List Int} {n j : Nat} (h : j < n) : (l.take n).getD j 0 = l.getD j 0 := by
  rw [List.getD_eq_getElem?_getD, List.getD_eq_getElem?_getD, List.getElem?_take_of_lt h]
theorem pred_agrees {kind : Int} {bp sn : Nat} {ab' ab row : List Int} {n : Nat} (hn : n < row.length) (h : Agrees kind bp sn ab' ab row.length) :
    predOf kind (if n < bp then 0 else (row.take n).getD (n - bp) 0) (ab'.getD n 0) (if n < bp then 0 else ab'.getD (n - bp) 0) =
    predOf kind (if sn ≤ n then row.getD (n - sn) 0 else 0) (ab.getD n 0) (if sn ≤ n then ab.getD (n - sn) 0 else 0) := by
  have hleft : bp = sn → 1 ≤ sn → (if n < bp then 0 else (row.take n).getD (n - bp) 0) = (if sn ≤ n then row.getD (n - sn) 0 else 0) := by
    rintro rfl h1
    by_cases hb : n < bp
    · rw [if_pos hb, if_neg (by omega)]
    · rw [if_neg hb, if_pos (by omega), getD_take (by omega)]
  rcases h with rfl | ⟨rfl, h1, h2⟩ | ⟨rfl, h1⟩ | ⟨h1, h2, h3⟩
  · simp [predOf]
  · rw [hleft h1 h2]; simp [predOf]
  · simp [predOf]; simpa [List.getD_eq_getElem?_getD] using h1 n hn
  · rw [hleft h1 h2, h3 n hn]
    subst h1
    congr 1
    by_cases hb : n < bp
    · rw [if_pos hb, if_neg (by omega)]
    · rw [if_neg hb, if_pos (by omega), h3 _ (by omega)]
theorem decRow_filt {kind : Int} {bp sn : Nat} {ab' ab row : List Int} (hr : ∀ x ∈ row, 0 ≤ x ∧ x < 256) (h : Agrees kind bp sn ab' ab row.length) :
    decRow kind bp ab' (filt kind sn row ab row.length) = row := by
  have : ∀ n, n ≤ row.length → decRow kind bp ab' (filt kind sn row ab n) = row.take n := by
    intro n
    induction n with
    | zero => intro _; simp [filt, decRow]
    | succ n ih =>
      intro hn
      have hx : row[n]? = some row[n] := List.getElem?_eq_getElem (by omega)
      rw [filt_succ, decRow_snoc, ih (by omega), take_snoc hx]
      congr 2
      have hl : (row.take n).length = n := by rw [List.length_take]; omega
      unfold stepPix filtPix
      rw [hl, pred_agrees (by omega) h]
      have hg : row.getD n 0 = row[n] := by rw [List.getD_eq_getElem?_getD, hx]; rfl
      rw [hg]
      generalize predOf _ _ _ _ = p
      have := hr row[n] (List.getElem_mem _)
      omega
  have := this row.length (Nat.le_refl _)
  rwa [List.take_length] at this
/-- what the law's own words keep to -/
def KindOk (kd : Nat → Int) (ln bp sn kn n : Nat) : Prop :=
  ∀ i < n, kd i = 0 ∨ (kd i = 1 ∧ bp = sn) ∨ (kd i = 2 ∧ (i = 0 → ln ≤ kn)) ∨ ((kd i = 3 ∨ kd i = 4) ∧ bp = sn ∧ (i = 0 → ln ≤ kn))
theorem zeros_getD (n j : Nat) : (List.replicate n (0 : Int)).getD j 0 = 0 := by
  rw [List.getD_eq_getElem?_getD, List.getElem?_replicate]; split <;> rfl
theorem row_agrees {kd : Nat → Int} {ks : List Int} {ln bp sn kn i n : Nat} (hs : 1 ≤ sn) (hk : KindOk kd ln bp sn kn n) (hi : i < n) (m : Nat) :
    Agrees (kd i) bp sn (if i = 0 then List.replicate kn 0 else rowAt ks ln (i - 1)) (abv ks ln i) m := by
  have ha : ∀ j < m, (if i = 0 then List.replicate kn 0 else rowAt ks ln (i - 1)).getD j 0 = (abv ks ln i).getD j 0 := by
    intro j _
    unfold abv
    split
    · rw [zeros_getD, zeros_getD]
    · rfl
  rcases hk i hi with h | h | h | h
  · exact .inl h
  · exact .inr (.inl ⟨h.1, h.2, hs⟩)
  · exact .inr (.inr (.inl ⟨h.1, ha⟩))
  · exact .inr (.inr (.inr ⟨h.2.1, hs, ha⟩))
theorem pst_dataL {kd : Nat → Int} {ks : List Int} {ln bp sn kn : Nat} (hS : 0 < ln) (hs : 1 ≤ sn) (hb : ∀ x ∈ ks, 0 ≤ x ∧ x < 256) (hk : KindOk kd ln bp sn kn (nRows ks.length ln)) :
    ∀ i, i ≤ nRows ks.length ln → pst (dataL kd ks sn ln (nRows ks.length ln)) ln bp kn i = (ks.take (i * ln), if i = 0 then List.replicate kn 0 else rowAt ks ln (i - 1))
  | 0, _ => by simp [pst]
  | i + 1, h => by
    have ih := pst_dataL hS hs hb hk i (by omega)
    have hd : decRow (kd i) bp (if i = 0 then List.replicate kn 0 else rowAt ks ln (i - 1)) (filt (kd i) sn (rowAt ks ln i) (abv ks ln i) (rowAt ks ln i).length) = rowAt ks ln i :=
      decRow_filt (rowAt_in hb ln i) (row_agrees hs hk (by omega) _)
    unfold pst
    rw [ih, dataL_kind hS (by omega), dataL_enc hS (by omega)]
    simp only [hd, if_neg (Nat.succ_ne_zero i), Nat.add_sub_cancel]
    congr 1
    unfold rowAt
    rw [Nat.succ_mul, ← List.take_add]
theorem pst_all {kd : Nat → Int} {ks : List Int} {ln bp sn kn : Nat} (hS : 0 < ln) (hs : 1 ≤ sn) (hb : ∀ x ∈ ks, 0 ≤ x ∧ x < 256) (hk : KindOk kd ln bp sn kn (nRows ks.length ln)) :
    (pst (dataL kd ks sn ln (nRows ks.length ln)) ln bp kn (nRows ks.length ln)).1 = ks := by
  rw [pst_dataL hS hs hb hk _ (Nat.le_refl _)]
  exact List.take_of_length_le (rows_out hS)
theorem good_dataL {kd : Nat → Int} {ks : List Int} {ln bp sn kn : Nat} (hS : 0 < ln) (hs : 1 ≤ sn) (hb : ∀ x ∈ ks, 0 ≤ x ∧ x < 256) (hk : KindOk kd ln bp sn kn (nRows ks.length ln)) :
    ∀ i < nRows ks.length ln, GoodRow (dataL kd ks sn ln (nRows ks.length ln)) ln bp kn i := by
  intro i hi
  have hl : (i = 0 → ln ≤ kn) → (encAt (dataL kd ks sn ln (nRows ks.length ln)) ln (i * (ln + 1))).length ≤ (pst (dataL kd ks sn ln (nRows ks.length ln)) ln bp kn i).2.length := by
    intro h0
    rw [dataL_enc hS hi, filt_len, pst_dataL hS hs hb hk i (by omega)]
    have h1 := rowAt_le ks ln i
    by_cases e : i = 0
    · simp only [if_pos e, List.length_replicate]; have := h0 e; omega
    · simp only [if_neg e]; rw [rowAt_full (j := i - 1) (by omega) hS]; exact h1
  unfold GoodRow
  rw [dataL_kind hS hi]
  rcases hk i hi with h | h | h | h
  · exact .inl h
  · exact .inr (.inl ⟨h.1, by omega⟩)
  · exact .inr (.inr ⟨.inl h.1, hl h.2⟩)
  · refine .inr (.inr ⟨?_, hl h.2.2⟩)
    rcases h.1 with h1 | h1
    · exact .inr (.inl ⟨h1, by omega⟩)
    · exact .inr (.inr ⟨h1, by omega⟩)
theorem pst2_len (ds : List Int) (nb bp k i : Nat) : (pst ds nb bp k i).2.length = if i = 0 then k else min nb (ds.length - ((i - 1) * (nb + 1) + 1)) := by
  cases i with
  | zero => simp [pst]
  | succ i => simp only [pst, decRow_length, encAt, List.length_take, List.length_drop, if_neg (Nat.succ_ne_zero i), Nat.add_sub_cancel]
theorem good_same {ds ds' : List Int} {nb bp k i : Nat} (hl : ds'.length = ds.length) (hg : ds'.getD (i * (nb + 1)) 0 = ds.getD (i * (nb + 1)) 0) (h : GoodRow ds nb bp k i) : GoodRow ds' nb bp k i := by
  unfold GoodRow at *
  rw [hg]
  simp only [pst2_len, encAt, List.length_take, List.length_drop, hl] at *
  exact h
theorem spoilt_rows {ds : List Int} {nb bp k n i0 : Nat} {v : Int} (hv : 5 ≤ v) (hi : i0 < n) (hin : i0 * (nb + 1) < ds.length) (hg : ∀ i < n, GoodRow ds nb bp k i) :
    (∀ i < n, GoodRow (ds.set (i0 * (nb + 1)) v) nb bp k i ∨ 5 ≤ (ds.set (i0 * (nb + 1)) v).getD (i * (nb + 1)) 0) ∧ ∃ i < n, 5 ≤ (ds.set (i0 * (nb + 1)) v).getD (i * (nb + 1)) 0 := by
  have h0 : 5 ≤ (ds.set (i0 * (nb + 1)) v).getD (i0 * (nb + 1)) 0 := by
    rw [List.getD_eq_getElem?_getD, List.getElem?_set_self hin]; exact hv
  refine ⟨fun i hi' => ?_, i0, hi, h0⟩
  by_cases e : i = i0
  · subst e; exact .inr h0
  · refine .inl (good_same (by simp) ?_ (hg i hi'))
    have : i0 * (nb + 1) ≠ i * (nb + 1) := fun h => e (Nat.eq_of_mul_eq_mul_right (Nat.succ_pos nb) h).symm
    rw [List.getD_eq_getElem?_getD, List.getElem?_set_ne this, List.getD_eq_getElem?_getD]
/-- the kinds that the law's own words pick -/
theorem kinds_ok {ns : List Int} {b : Int} {cn kn ln sn bp n : Nat} (hc1 : 1 ≤ cn) (hc4 : cn ≤ 4) (hkn : b = 1 ∧ (kn = 8 ∨ kn = 16) ∨ b = 8 ∧ 1 ≤ kn ∧ kn ≤ 6)
    (hln : ((cn : Int) * (kn : Int) * b).fdiv 8 = (ln : Int)) (hl8 : b = 8 → ln = cn * kn) (hs8 : b = 8 → sn = cn) (hbp : ((cn : Int) * b).fdiv 8 = (bp : Int)) : KindOk (kindL ns b cn) ln bp sn kn n := by
  intro i _
  rw [Int.fdiv_eq_ediv_of_nonneg _ (by decide)] at hbp hln
  rcases hkn with ⟨rfl, hk⟩ | ⟨rfl, hk1, hk2⟩
  · have hl : ln ≤ kn := by
      rcases hk with rfl | rfl <;> omega
    have : kindL ns 1 cn i = 0 ∨ kindL ns 1 cn i = 2 := by
      unfold kindL
      rw [if_pos rfl]
      have h3 := Int.fmod_nonneg_of_pos ((ns.getD (ns.length - 1 - i) 0).fmod 5) (show (0 : Int) < 2 by decide)
      have h4 := Int.fmod_lt_of_pos ((ns.getD (ns.length - 1 - i) 0).fmod 5) (show (0 : Int) < 2 by decide)
      omega
    rcases this with h | h
    · exact .inl h
    · exact .inr (.inr (.inl ⟨h, fun _ => hl⟩))
  · have hbp' : bp = sn := by rw [hs8 rfl]; omega
    by_cases h0 : i = 0 ∧ 1 < cn
    · have : kindL ns 8 cn i = 0 ∨ kindL ns 8 cn i = 1 := by
        unfold kindL
        rw [if_neg (by decide), if_pos h0]
        have h3 := Int.fmod_nonneg_of_pos ((ns.getD (ns.length - 1 - i) 0).fmod 5) (show (0 : Int) < 2 by decide)
        have h4 := Int.fmod_lt_of_pos ((ns.getD (ns.length - 1 - i) 0).fmod 5) (show (0 : Int) < 2 by decide)
        omega
      rcases this with h | h
      · exact .inl h
      · exact .inr (.inl ⟨h, hbp'⟩)
    · have hl : i = 0 → ln ≤ kn := by
        intro e
        have : cn = 1 := by omega
        subst this
        rw [hl8 rfl]; omega
      rcases kind_in (ns := ns) (b := 8) (cn := cn) (j := i) with h | h | h | h | h
      · exact .inl h
      · exact .inr (.inl ⟨h, hbp'⟩)
      · exact .inr (.inr (.inl ⟨h, hl⟩))
      · exact .inr (.inr (.inr ⟨.inl h, hbp', hl⟩))
      · exact .inr (.inr (.inr ⟨.inr h, hbp', hl⟩))
/-- TIFF's predictor 2, as the law writes it -/
def flatPix (ws : List Int) (cn S k : Nat) : Int := (ws.getD k 0 - (if cn ≤ k % S then ws.getD (k - cn) 0 else 0)) % 256
def flatL (ws : List Int) (cn S n : Nat) : List Int := (List.range n).map (flatPix ws cn S)
theorem flatL_succ (ws : List Int) (cn S n : Nat) : flatL ws cn S (n + 1) = flatL ws cn S n ++ [flatPix ws cn S n] := by simp [flatL, List.range_succ]
theorem flatL_len (ws : List Int) (cn S n : Nat) : (flatL ws cn S n).length = n := by simp [flatL]
theorem flatL_in (ws : List Int) (cn S n : Nat) : ∀ x ∈ flatL ws cn S n, 0 ≤ x ∧ x < 256 := by
  intro x hx
  obtain ⟨k, _, rfl⟩ := List.mem_map.mp hx
  unfold flatPix
  exact ⟨Int.emod_nonneg _ (by decide), Int.emod_lt_of_pos _ (by decide)⟩
theorem flatL_get {ws : List Int} {cn S n k : Nat} (h : k < n) : (flatL ws cn S n)[k]? = some (flatPix ws cn S k) := by
  unfold flatL
  rw [List.getElem?_map, List.getElem?_range h]; rfl
theorem tiff_row {ws : List Int} {cn S i : Nat} (hb : ∀ x ∈ ws, 0 ≤ x ∧ x < 256) (hc : 1 ≤ cn) (hS : 0 < S) : ∀ n, n ≤ S → i * S + n ≤ ws.length → tiffRow cn (((flatL ws cn S ws.length).drop (i * S)).take n) = (ws.drop (i * S)).take n
  | 0, _, _ => by simp [tiffRow]
  | n + 1, h1, h2 => by
    have ih := tiff_row (i := i) hb hc hS n (by omega) (by omega)
    have hx : ((flatL ws cn S ws.length).drop (i * S))[n]? = some (flatPix ws cn S (i * S + n)) := by
      rw [List.getElem?_drop, flatL_get (by omega)]
    have hw : ws[i * S + n]? = some ws[i * S + n] := List.getElem?_eq_getElem (by omega)
    have hy : (ws.drop (i * S))[n]? = some ws[i * S + n] := by rw [List.getElem?_drop, hw]
    rw [take_snoc hx, tiffRow_snoc, ih, take_snoc hy]
    congr 2
    have hl : ((ws.drop (i * S)).take n).length = n := by rw [List.length_take, List.length_drop]; omega
    have hm : (i * S + n) % S = n := by rw [Nat.add_comm, Nat.add_mul_mod_self_right]; exact Nat.mod_eq_of_lt (by omega)
    have hg : ws.getD (i * S + n) 0 = ws[i * S + n] := by rw [List.getD_eq_getElem?_getD, hw]; rfl
    have hv := hb ws[i * S + n] (List.getElem_mem _)
    unfold tiffPix flatPix
    rw [hl, hm, hg]
    by_cases e : n < cn
    · rw [if_pos e, if_neg (by omega)]; omega
    · rw [if_neg e, if_pos (by omega)]
      have : ((ws.drop (i * S)).take n).getD (n - cn) 0 = ws.getD (i * S + n - cn) 0 := by
        rw [getD_take (by omega), List.getD_eq_getElem?_getD, List.getElem?_drop, List.getD_eq_getElem?_getD, show i * S + (n - cn) = i * S + n - cn by omega]
      rw [this]
      omega
theorem nRows_whole {W S q : Nat} (hS : 0 < S) (hW : W = q * S) : nRows W S = q := by
  unfold nRows
  by_cases h : W = 0
  · rw [if_pos h]
    subst hW
    rcases Nat.mul_eq_zero.mp h with h | h <;> omega
  · rw [if_neg h]
    have hq : 0 < q := by
      rcases Nat.eq_zero_or_pos q with e | e
      · subst e; omega
      · exact e
    have : (W - 1) / S = q - 1 := by
      have e1 : q * S = (q - 1) * S + S := by rw [← Nat.succ_mul]; congr 1; omega
      apply Nat.div_eq_of_lt_le
      · omega
      · show _ < (q - 1 + 1) * S; rw [Nat.succ_mul]; omega
    omega
theorem tst_flat {ws : List Int} {cn S q : Nat} (hb : ∀ x ∈ ws, 0 ≤ x ∧ x < 256) (hc : 1 ≤ cn) (hS : 0 < S) (hW : ws.length = q * S) : tst (flatL ws cn S ws.length) S cn q = ws := by
  have : ∀ i, i ≤ q → tst (flatL ws cn S ws.length) S cn i = ws.take (i * S) := by
    intro i
    induction i with
    | zero => intro _; simp [tst]
    | succ i ih =>
      intro hi
      have h1 : i * S + S ≤ ws.length := by rw [hW, ← Nat.succ_mul]; exact Nat.mul_le_mul_right _ hi
      unfold tst
      rw [ih (by omega), tiff_row hb hc hS S (Nat.le_refl _) h1, Nat.succ_mul, ← List.take_add]
  rw [this q (Nat.le_refl _), ← hW, List.take_length]
end Mine
end
section
open PySem PySem.W PySem.Calls PySem.Spec PyProof.Rows PySem.W.KBw
set_option maxHeartbeats 4000000
namespace Mine
abbrev rowD (ns : List Int) : PyData := .list (ns.map PyData.int)
theorem rows_read {h : Heap} : ∀ {rs : List Value}, (∀ v ∈ rs, ∃ (a : Addr) (vs : List Value) (ns : List Int), v = .ref a ∧ h.IsList a vs.toArray ∧ IntsAre vs ns) → ∃ (ds : List (List Int)) (la : List Addr), ReadsAll h rs (ds.map rowD) la ∧ ds.length = rs.length
  | [], _ => ⟨[], [], .nil, rfl⟩
  | v :: r, hv => by
    obtain ⟨a, vs, ns, rfl, hl, hi⟩ := hv v (List.mem_cons_self ..)
    obtain ⟨ds, la, hr, he⟩ := rows_read (rs := r) fun v hv' => hv v (List.mem_cons_of_mem _ hv')
    exact ⟨ns :: ds, _, .cons (reads_of_ints hl hi) hr, by simp [he]⟩
theorem canLay_rows : ∀ ds : List (List Int), PyData.canLayAll0 (ds.map rowD) = true
  | [] => by simp [PyData.canLayAll0]
  | n :: r => by
    have := canLay_rows r
    simp only [List.map_cons, PyData.canLayAll0, PyData.canLay0, this, PySem.W.canLayAll0_ints, Bool.and_true]
theorem depth_rows : ∀ ds : List (List Int), PyData.depthAll (ds.map rowD) ≤ 3
  | [] => by simp [PyData.depthAll]
  | n :: r => by
    have h1 := depth_rows r
    have h2 := PySem.W.depthAll_ints n
    simp only [List.map_cons, PyData.depthAll, PyData.depth]
    omega
theorem shaped_rows (ds : List (List Int)) : SeqAt.shaped (.list (ds.map rowD)) = true := by
  have h1 := depth_rows ds
  have h2 : PyData.depth (.list (ds.map rowD)) ≤ 64 := by simp only [PyData.depth]; omega
  show (PyData.canLay0 (.list (ds.map rowD)) && decide (PyData.depth (.list (ds.map rowD)) ≤ 64)) = true
  rw [Bool.and_eq_true]
  exact ⟨by simp only [PyData.canLay0]; exact canLay_rows ds, decide_eq_true h2⟩
theorem noMix_nil (xs : List PyData) : SeqAt.noMixAll xs [] = true := by cases xs <;> simp [SeqAt.noMixAll]
theorem same_nil (xs : List PyData) : PySem.Spec.sameAll xs [] = decide (xs.length = 0) := by cases xs <;> simp [PySem.Spec.sameAll]
section
variable {prog : Program} {w : World} {A : Around} {E : Value → Shared → Prop} {s : Shared} {h₀ : Heap} {L a b : Addr} {m : Str → Option Value} {news : List (Addr × Obj)} {Q : Value → Shared → Prop}
/-- rows != [] -/
theorem ne_nil_rows {ks : List Int} {S n c : Nat} {rs : List Value} {RB : List (Addr × Obj)} (N : News h₀ L s.heap news) (hm : (a, LCg.lst rs) ∈ news) (hR : RowsIn ks S n rs RB) (hs : ∀ p ∈ RB, p ∈ news)
    (he : (b, W.listOf ([] : List Value).toArray c) ∈ news) (hu : A.units + 64 < cLine) (h : Q (.bool (decide (n ≠ 0))) s) : wpAny (model prog w) A (compareOp .NotEq (.ref a) (.ref b)) Q E s := by
  have hv : ∀ v ∈ rs, ∃ (a : Addr) (vs : List Value) (ns : List Int), v = .ref a ∧ s.heap.IsList a vs.toArray ∧ IntsAre vs ns := by
    intro v hv
    obtain ⟨i, hi, rfl⟩ := List.mem_iff_getElem.mp hv
    obtain ⟨a', vs, c', h1, h2, h3⟩ := hR.2 i (by rw [← hR.1]; exact hi)
    rw [List.getElem?_eq_getElem hi] at h1
    exact ⟨a', vs, _, Option.some.inj h1, ⟨_, (N _ (hs _ h2)).1, rfl, c', rfl⟩, h3⟩
  obtain ⟨ds, la, hr, hl⟩ := rows_read hv
  have r1 : Reads s.heap (.ref a) (.list (ds.map rowD)) (a :: la) := Reads.list (N _ hm).1 rfl rfl (by simpa using hr)
  have r2 : Reads s.heap (.ref b) (.list []) (b :: []) := Reads.list (N _ he).1 rfl rfl .nil
  refine ne_dataH_same r1 r2 (shaped_rows ds) rfl hu (by simp only [SeqAt.noMix]; exact noMix_nil _) ?_
  simp only [PySem.Spec.same, same_nil, List.length_map, hl, hR.1]
  have e : (!decide (n = 0)) = decide (n ≠ 0) := by by_cases hn : n = 0 <;> simp [hn]
  rw [e]; exact h
end
end Mine
end
section
open PySem PySem.W PySem.Calls PySem.Spec PyProof.Rows PySem.W.KBw
set_option maxHeartbeats 4000000
namespace Mine
section
variable {prog : Program} {w : World} {A : Around} {E : Value → Shared → Prop} {s : Shared} {h₀ : Heap} {L D : Addr} {m : Str → Option Value} {news : List (Addr × Obj)}
/-- bytes(list) upon the ledger -/
theorem bytes_led {vs : List Value} {ns : List Int} {c : Nat} {Q : Value → Shared → Prop} (F : Fr h₀ L s.heap m) (N : News h₀ L s.heap news) (hh : A.handled = none) (hm : (D, W.listOf vs.toArray c) ∈ news) (hi : IntsAre vs ns)
    (hr : ∀ x ∈ ns, 0 ≤ x ∧ x < 256) (hz : ns.length ≤ 1000000) (h : ∀ bs t h' k, bInts bs = ns → Fr h₀ L h' m → News h₀ L h' news → Q (.bytes bs t) { s with heap := h', toks := k }) : wpAny (model prog w) A (call (.type "bytes") [.ref D]) Q E s :=
  KBa.make_K F N hh ⟨_, (N _ hm).1, rfl, c, rfl⟩ hi hr (by omega) fun h' t' k F' N' _ => h _ t' h' k (KBa.ints_make hr) F' N'
/-- starts[k]: where a row starts -/
theorem item_starts {value slice : PySem.Expr} {kd : Nat → Int} {ks : List Int} {sn ln : Nat} {vs : List Value} {c : Nat} {k : Int} {u : Tok} {Q : Value → Shared → Prop} (N : News h₀ L s.heap news) (hm : (D, W.listOf vs.toArray c) ∈ news) (hS : 0 < ln)
    (hi : IntsAre vs (startsL kd ks sn ln (nRows ks.length ln))) (h0 : 0 ≤ k) (h1 : k < (vs.length : Int)) (hz : vs.length ≤ 1000000)
    (h : ∀ i t, i < nRows ks.length ln → i * (ln + 1) < nRows ks.length ln + ks.length → Q (.int ((i * (ln + 1) : Nat) : Int) t) s)
    (hs : subscripted slice false (.ref D) (.int k u) = operate [.ref D, .int k u] (getItem (.ref D) (.int k u)) := by with_unfolding_all rfl) :
    wpAny (model prog w) A (subscriptTail value slice (.ref D) (.int k u)) Q E s := by
  refine item_led N hm hi h0 h1 hz (fun t => ?_) hs
  have hl : vs.length = nRows ks.length ln := by rw [hi.length]; simp [startsL]
  have hk : k.toNat < nRows ks.length ln := by omega
  have e : (startsL kd ks sn ln (nRows ks.length ln)).getD k.toNat 0 = ((k.toNat * (ln + 1) : Nat) : Int) := by
    rw [← dataL_at (kd := kd) (sn := sn) hS hk, List.getD_eq_getElem?_getD]
    unfold startsL
    rw [List.getElem?_map, List.getElem?_range hk]; rfl
  rw [e]
  refine h k.toNat t hk ?_
  have := rows_in hS hk
  rw [Nat.mul_add]; omega
end
section
variable {prog : Program} {w : World} {A₀ : Around} {E : Value → Shared → Prop} {s' : Shared} {h₀ h : Heap} {outer : List Env} {L a e t C : Addr} {m mg mb : Str → Option Value} {name : Str} {scope : Scope} {cd : Value} {cl : List (Str × Addr)}
  {vs : List Value} {b₀ : Stmt} {suite : List Stmt} {pos np : Pos} {rest : List ExceptHandler} {Q : Flow → Shared → Prop} {news : List (Addr × Obj)} {KF : Frag} {bmB : List Value} {newId : String}
  {p : Program} {loose : List Str} {mean : ExcName → Option Value} {x : Str}
/-- except C: in a frame with cells -/
theorem caught_X0 (K : Below A₀ h₀ outer h₀) (F : Fr h₀ L h m) (hsm : h.UpToSlots s'.heap) (R : RaisedK h₀ (envX name scope L a cd cl :: outer) e (.ref C) t vs news s'.heap)
    (X : KF.In h₀) (T : TopRead p loose mg mb h₀) (ex : nsIn KF mainGlobals x = some (some (.ref C))) (q : excIn KF C bmB newId = true) (hbase : bmB.contains (.type "BaseException") = true)
    (k : ∀ h', Fr h₀ L h' m → News h₀ L h' news →
      wpAny (model prog w) ((A₀.deeper (envX name scope L a cd cl)).mark (some (.ref e))) (execs (b₀ :: suite) (envX name scope L a cd cl)) Q E { s' with heap := h' })
    (hk : scope.kind = .function := by rfl) (hx : (envX name scope L a cd cl).kindOf x = some .globalImplicit := by rfl) (hd : (x == ("__debug__" : Str)) = false := by decide)
    (hE : PassesOwnAt (model prog w) ((A₀.deeper (envX name scope L a cd cl)).mark (some (.ref e))) (A₀.deeper (envX name scope L a cd cl)) (envX name scope L a cd cl) E := by passes_own) :
    wpAny (model prog w) (A₀.deeper (envX name scope L a cd cl)) (noteFrame (.ref e) (envX name scope L a cd cl))
      (fun _ s₂ => wpAny (model prog w) (A₀.deeper (envX name scope L a cd cl)) (setFlight (.ref e) none) (fun _ s₃ =>
        wpAny (model prog w) (A₀.deeper (envX name scope L a cd cl)) (handleBy (.ref e) (envX name scope L a cd cl) (.ExceptHandler (some (.Name x np)) none (b₀ :: suite) pos :: rest)) Q E s₃) E s₂) E s' := by
  obtain ⟨⟨B, hB, hl, hfl, -⟩, -⟩ := R
  have hL : B.get? L = none := by
    obtain ⟨_, ⟨L', _, hf, hn', _⟩, _⟩ := hfl.2.2.1
    obtain rfl : L = L' := Option.some.inj hf
    exact hn'
  refine wpAny_looks_onW (Around.frames_deeper K.stack) rfl hfl fun h₁ held₁ up₁ => ?_
  refine wpAny_landsW held₁ fun h₂ held₂ up₂ => ?_
  have G := F.of_stays (flyingW_base hB held₂).1 (hsm.trans (up₁.trans up₂))
  obtain ⟨ob, hob, hobc⟩ := (flyingW_base hB held₂).there
  refine wpAny_handleBy_cons (codeAny_handlers_test (nameX_K G X T ex ?_ hk hx hd)) (by intro q; cases q)
  obtain ⟨_, _, _, _, _, _, _, _, _, _, _, _, _, _, _, _, _, hC, _, _, TL⟩ := ((own_of_in X T ex q).keeps G.keep).obj
  refine wpAny_excMatches_sub_self hC hob hobc (TL.hasType hbase) (codeAny_handlers_suite ?_)
  refine lands_againW held₂ fun h₃ held₃ up₃ => ?_
  have G' := F.of_stays (flyingW_base hB held₃).1 ((hsm.trans (up₁.trans up₂)).trans up₃)
  exact wpAny_passesOwnAt hE (k h₃ G' fun q hq => ⟨held₃.1 _ _ (hl q hq).1, (fun z => by have := (hl q hq).1; rw [z, hL] at this; cases this), (hl q hq).2⟩)
end
theorem dataL_in {kd : Nat → Int} (hk : ∀ j, 0 ≤ kd j ∧ kd j < 256) (ks : List Int) (sn ln : Nat) : ∀ j, ∀ x ∈ dataL kd ks sn ln j, 0 ≤ x ∧ x < 256
  | 0 => fun _ h => by simp [dataL] at h
  | j + 1 => fun x hx => by
    rcases List.mem_append.mp hx with hx | hx
    · exact dataL_in hk ks sn ln j x hx
    · rcases List.mem_cons.mp hx with rfl | hx
      · exact hk j
      · obtain ⟨i, _, rfl⟩ := List.mem_map.mp hx
        unfold filtPix
        exact ⟨Int.emod_nonneg _ (by decide), Int.emod_lt_of_pos _ (by decide)⟩
theorem kindL_in (ns : List Int) (b : Int) (cn j : Nat) : 0 ≤ kindL ns b cn j ∧ kindL ns b cn j < 256 := by
  have := kind_in (ns := ns) (b := b) (cn := cn) (j := j)
  omega
theorem set_in {l : List Int} {j : Nat} {v : Int} (h : ∀ x ∈ l, 0 ≤ x ∧ x < 256) (hv : 0 ≤ v ∧ v < 256) : ∀ x ∈ l.set j v, 0 ≤ x ∧ x < 256 := by
  intro x hx
  rcases List.mem_or_eq_of_mem_set hx with hx | rfl
  · exact h x hx
  · exact hv
end Mine
end
section
open PySem PySem.W PySem.Calls PySem.Spec PyProof.Rows PySem.W.KBw
set_option maxHeartbeats 4000000
namespace Mine
theorem bInts_inj {b c : Array UInt8} (h : bInts b = bInts c) : b.toList = c.toList := by
  unfold bInts at h
  exact (List.map_inj_right fun x y e => UInt8.toNat_inj.mp (Int.ofNat.inj e)).mp h
section
variable {prog : Program} {w : World} {A : Around} {E : Value → Shared → Prop} {s : Shared}
theorem ne_bytes_same {b c : Array UInt8} {t u : Tok} {ks : List Int} {Q : Value → Shared → Prop} (hb : bInts b = ks) (hc : bInts c = ks) (h : Q (.bool false) s) : wpAny (model prog w) A (compareOp .NotEq (.bytes b t) (.bytes c u)) Q E s := by
  refine ne_bytes ?_
  have e : (b.toList != c.toList) = false := by rw [bInts_inj (hb.trans hc.symm)]; simp
  rw [e]; exact h
theorem eq_bytes_same {b c : Array UInt8} {t u : Tok} {ks : List Int} {Q : Value → Shared → Prop} (hb : bInts b = ks) (hc : bInts c = ks) (h : Q (.bool true) s) : wpAny (model prog w) A (compareOp .Eq (.bytes b t) (.bytes c u)) Q E s := by
  refine eq_bytes ?_
  have e : (b.toList == c.toList) = true := by rw [bInts_inj (hb.trans hc.symm)]; simp
  rw [e]; exact h
end
section
variable {M : Model} {A : Around} {E : Value → Shared → Prop} {s : Shared} {h₀ : Heap} {L : Addr} {m₀ : Str → Option Value} {news : List (Addr × Obj)}
/-- ways that meet after a statement that tells an int anew -/
theorem wp_joinI {t : Sem Flow} {Q : Flow → Shared → Prop} (F : Fr h₀ L s.heap m₀) (_N : News h₀ L s.heap news) (P : Int → Prop) (ps : Int → Nat → List (Str × Value))
    (h₁ : wpAny M A t (JoinedF h₀ L (fun v m nw => v = Flow.next ∧ nw = news ∧ ∃ n tk, P n ∧ ∀ p ∈ ps n tk, m p.1 = some p.2) s) E s)
    (h₂ : ∀ h k m n tk, P n → Fr h₀ L h (kstB m (ps n tk)) → News h₀ L h news → Q .next { s with heap := h, toks := k }) : wpAny M A t Q E s :=
  wp_joinF F _ h₁ fun v h k m nw ⟨e1, e2, n, tk, hP, hp⟩ F' N' => by subst e1 e2; exact h₂ h k m n tk hP (fr_pairs F' hp) N'
theorem joinedI {news' : List (Addr × Obj)} {h : Heap} {k : Nat} {tk : Tok} {nm : Str} {n : Int} {m : Str → Option Value} {qs : List (Str × Value)} {P : Int → Prop} (F : Fr h₀ L h m) (N : News h₀ L h news') (hs : ∀ p ∈ news, p ∈ news') (hP : P n) (hk : m nm = some (.int n tk)) (hp : ∀ p ∈ qs, m p.1 = some p.2) :
    JoinedF h₀ L (fun v m nw => v = Flow.next ∧ nw = news ∧ ∃ n tk, P n ∧ ∀ p ∈ (fun (n : Int) (tk : Nat) => (nm, Value.int n tk) :: qs) n tk, m p.1 = some p.2) s Flow.next { s with heap := h, toks := k } :=
  ⟨h, k, m, news, rfl, F, cb_drop N hs, rfl, rfl, n, tk, hP, fun p hp' => by
    rcases List.mem_cons.mp hp' with rfl | hp'
    · exact hk
    · exact hp p hp'⟩
end
section
variable {prog : Program} {w : World} {A : Around} {E : Value → Shared → Prop} {s : Shared} {h₀ : Heap} {L : Addr}
/-- x in (a, b) -/
theorem in_pair {t : Addr} {o : Obj} {rest : List (Addr × Obj)} {a b x : Int} {ta tb u : Tok} {n : Nat} {Q : Value → Shared → Prop} (N : News h₀ L s.heap ((t, o) :: rest)) (hc : o.cls = .type "tuple") (hd : o.data = .seq #[.int a ta, .int b tb] n)
    (h1 : x = a ∨ x = b → Q (.bool true) s) (h0 : x ≠ a → x ≠ b → Q (.bool false) s) : wpAny (model prog w) A (compareOp .In (.int x u) (.ref t)) Q E s := by
  refine in_tuple_ints (ns := [a, b]) ⟨o, (N _ (List.mem_cons_self ..)).1, hc, n, hd⟩ (.cons a ta (.cons b tb .nil)) ?_
  by_cases e : x = a ∨ x = b
  · have : [a, b].any (· == x) = true := by rcases e with rfl | rfl <;> simp
    rw [this]; exact h1 e
  · have e1 : x ≠ a := fun h => e (.inl h)
    have e2 : x ≠ b := fun h => e (.inr h)
    have : [a, b].any (· == x) = false := by simp [Ne.symm e1, Ne.symm e2]
    rw [this]; exact h0 e1 e2
end
theorem led_one {h₀ h : Heap} {L : Addr} {p : Addr × Obj} {r : List (Addr × Obj)} (N : News h₀ L h (p :: r)) : ∃ r', r' = r ∧ News h₀ L h (p :: r') := ⟨r, rfl, N⟩
/-- the flat list so far -/
def FlatJ (ws : List Int) (cn S : Nat) (tl : Addr) (rest : List (Addr × Obj)) (ps : List (Str × Value)) (i : Nat) (m : Str → Option Value) (nx : List (Addr × Obj)) : Prop :=
  ∃ (vs : List Value) (c : Nat), IntsAre vs (flatL ws cn S i) ∧ vs.length = i ∧ nx = (tl, W.listOf vs.toArray c) :: rest ∧ ∀ p ∈ ps, m p.1 = some p.2
theorem tend_flat {ws : List Int} {cn S : Nat} {tl : Addr} {rest news' own : List (Addr × Obj)} {ps : List (Str × Value)} {j c : Nat} {vs : List Value} {v : Int} {t : Tok} {h₀ h' : Heap} {L : Addr} {m' : Str → Option Value} {s₁ : Shared} {tk : Nat} {Q : Flow → Shared → Prop}
    (F : Fr h₀ L h' m') (N : News h₀ L h' news') (hm : (tl, W.listOf (vs ++ [Value.int v t]).toArray c) ∈ news') (hr : ∀ p ∈ rest, p ∈ news') (ho : ∀ p ∈ own, p ∈ news') (hoff : OwnOff own (tl :: rest.map (·.1)))
    (Iv : IntsAre vs (flatL ws cn S j)) (hv : v = flatPix ws cn S j) (hl : vs.length = j) (hp : ∀ p ∈ ps, m' p.1 = some p.2) :
    TPost h₀ L (FlatJ ws cn S tl rest ps (j + 1)) own s₁ Q .next { s₁ with heap := h', toks := tk } := by
  refine tend_next (tend_intro ((tl, W.listOf (vs ++ [Value.int v t]).toArray c) :: rest) F N ?_ ho (off_own hoff) ⟨_, c, ?_, by simp [hl], rfl, hp⟩)
  · intro p hp
    rcases List.mem_cons.mp hp with rfl | hp
    · exact hm
    · exact hr p hp
  · rw [flatL_succ, hv]; exact ints_snoc Iv
theorem fmod_nat (j S : Nat) : ((j : Int)).fmod (S : Int) = ((j % S : Nat) : Int) := by
  rw [Int.fmod_eq_emod_of_nonneg _ (Int.natCast_nonneg S)]; rfl
theorem fmod_le_nat (j S : Nat) : 0 ≤ ((j : Int)).fmod (S : Int) ∧ ((j : Int)).fmod (S : Int) ≤ (j : Int) := by
  rw [fmod_nat]
  have := Nat.mod_le j S
  omega
theorem iz_hi {ws : List Int} {cn S j : Nat} (h : (cn : Int) ≤ ((j : Int)).fmod (S : Int)) : ws.getD ((j : Int) - (cn : Int)).toNat 0 = if (cn : Int) ≤ ((j : Int)).fmod (S : Int) then ws.getD (j - cn) 0 else 0 := by
  have e : ((j : Int) - (cn : Int)).toNat = j - cn := by omega
  rw [if_pos h, e]
theorem iz_lo {ws : List Int} {cn S j : Nat} (h : ¬ (cn : Int) ≤ ((j : Int)).fmod (S : Int)) : (0 : Int) = if (cn : Int) ≤ ((j : Int)).fmod (S : Int) then ws.getD (j - cn) 0 else 0 := by rw [if_neg h]
theorem iz_pix (ws : List Int) (cn S j : Nat) : (ws.getD ((j : Int)).toNat 0 - (if (cn : Int) ≤ ((j : Int)).fmod (S : Int) then ws.getD (j - cn) 0 else 0)).fmod 256 = flatPix ws cn S j := by
  rw [Int.fmod_eq_emod_of_nonneg _ (by decide), Int.toNat_natCast, fmod_nat]
  unfold flatPix
  by_cases h : cn ≤ j % S
  · rw [if_pos (by omega), if_pos h]
  · rw [if_neg (by omega), if_neg h]
/-- of the ledger behind the loops: the cells and the octets -/
theorem led_end {h₀ h : Heap} {L : Addr} {p1 p2 p3 p4 p5 p6 p7 p8 : Addr × Obj} {RB : List (Addr × Obj)} (N : News h₀ L h (p1 :: p2 :: p3 :: p4 :: p5 :: p6 :: p7 :: p8 :: RB)) : News h₀ L h [p7, p8, p5] := fun p hp => N p (by
  simp only [List.mem_cons, List.not_mem_nil, or_false] at hp ⊢
  rcases hp with h | h | h <;> simp [h])
/-- the whole rows of the octets -/
theorem whole_len {ks : List Int} {S q : Nat} (hq : q = ks.length / S) : (ks.take (q * S)).length = q * S := by
  rw [List.length_take]
  have := Nat.div_mul_le_self ks.length S
  subst hq
  omega
end Mine
end
section
open PySem PySem.W PySem.Calls PySem.Spec PyProof.Rows PySem.W.KBw
set_option maxHeartbeats 4000000
namespace Mine
theorem octs_60 {f : Int → Int} {ns : List Int} : (List.map f (List.take (min 62 ns.length - 2) (List.drop 2 ns))).length ≤ 60 := by
  rw [List.length_map, List.length_take]
  exact Nat.le_trans (Nat.min_le_left _ _) (by omega)
theorem octs_two {f : Int → Int} {ns : List Int} : (List.map f (List.take (min 62 ns.length - 2) (List.drop 2 ns))).length + 2 ≤ ns.length ∨ (List.map f (List.take (min 62 ns.length - 2) (List.drop 2 ns))).length = 0 := by
  rw [List.length_map, List.length_take, List.length_drop]
  omega
theorem kn_16 {b : Int} {kn : Nat} (h : b = 1 ∧ (kn = 8 ∨ kn = 16) ∨ b = 8 ∧ 1 ≤ kn ∧ kn ≤ 6) : 1 ≤ kn ∧ kn ≤ 16 := by omega
theorem take_60 {ks : List Int} {n : Nat} (h : ks.length ≤ 60) : (ks.take n).length ≤ 60 := by
  rw [List.length_take]; exact Nat.le_trans (Nat.min_le_right _ _) h
theorem turn_in {L N i n : Nat} (hi : i < n) (hr : n ≤ L) (hk : L + 2 ≤ N ∨ L = 0) : i + 2 < N := by omega
theorem turn_len {l i ln n L : Nat} (h : l = i * (ln + 1)) (hi : i < n) (hr : n ≤ L) (hL : L ≤ 60) (hl : ln ≤ 24) : l ≤ 1000000 := by
  have h2 : i * (ln + 1) ≤ 60 * 25 := Nat.mul_le_mul (by omega) (by omega)
  omega
theorem bp_nat {cn : Nat} {b : Int} (hb : b = 1 ∨ b = 8) : ∃ bp : Nat, ((cn : Int) * b).fdiv 8 = (bp : Int) := by
  rcases hb with rfl | rfl
  · exact ⟨_, (Int.toNat_of_nonneg (Int.fdiv_nonneg (by omega) (by decide))).symm⟩
  · exact ⟨_, (Int.toNat_of_nonneg (Int.fdiv_nonneg (by omega) (by decide))).symm⟩
end Mine
namespace Mine
theorem kind_lt (ns : List Int) (b : Int) (cn i : Nat) : kindL ns b cn i < 5 := by
  have := kind_in (ns := ns) (b := b) (cn := cn) (j := i)
  omega
theorem five_le {x : Int} (h : 0 ≤ x) : 5 ≤ 5 + x := by omega
theorem small_of {a n L : Nat} (h : a = n + L) (hn : n ≤ L) (hL : L ≤ 60) : a ≤ 1000000 := by omega
theorem small_60 {L : Nat} (hL : L ≤ 60) : L ≤ 1000000 := by omega
theorem small_eq {a L : Nat} (h : a = L) (hL : L ≤ 60) : a ≤ 1000000 := by omega
theorem small_lt {a j L : Nat} (h : a = j) (hj : j < L) (hL : L ≤ 60) : a ≤ 1000000 := by omega
theorem cast_lt {a j L : Nat} (h : a = L) (hj : j < L) : (j : Int) < (a : Int) := by omega
theorem small_lt' {a i n L : Nat} (h : a = i) (hi : i < n) (hn : n ≤ L) (hL : L ≤ 60) : a ≤ 1000000 := by omega
end Mine
namespace Mine
/-- facts with ways, kept out of the arithmetic's sight -/
def B18 (b : Int) : Prop := b = 1 ∨ b = 8
def BK (b : Int) (kn : Nat) : Prop := b = 1 ∧ (kn = 8 ∨ kn = 16) ∨ b = 8 ∧ 1 ≤ kn ∧ kn ≤ 6
def B8 (b : Int) (P : Prop) : Prop := b = 8 → P
def KLw (L N : Nat) : Prop := L + 2 ≤ N ∨ L = 0
end Mine
namespace Mine
theorem b_in {b : Int} (h : B18 b) : 1 ≤ b ∧ b ≤ 8 := by
  rcases h with rfl | rfl <;> decide
end Mine
end
section
open PySem PySem.W PySem.Calls PyProof.Rows PySem.W.KBw
set_option maxHeartbeats 8000000
namespace Mine
open_top hd for PySem.Challenge.rw_lc0008_01
end Mine
end
section
open PySem PySem.W PySem.Calls PySem.Spec PyProof.Rows
set_option maxHeartbeats 4000000
namespace Mine
/-- the law's end: True -/
theorem law_good {s₁ s' : Shared} {L : Addr} {m : Str → Option Value} {cl : Str → Option Addr} {mean : ExcName → Option Value} {args : List WData} (F : Fr s₁.heap L s'.heap m) (hg : s'.gens = #[]) (hos : s'.os = s₁.os) :
    GoodW PySem.Challenge.rw_lc0008_01.row.claim cl mean args s₁ (.ok (.ret (.bool true))) s' := by
  refine goodW_bool F hg (raisesW_false ?_) ?_ hos
  · wrow_none_raised
  · kc_post
end Mine
end
section
open PySem PySem.W PySem.Calls PyProof.Rows PySem.W.KBw
set_option maxHeartbeats 8000000
namespace Mine
theorem paeth_tells (w : World) (mean : ExcName → Option Value) (mg mb : Str → Option Value) (news : List (Addr × Obj)) (a b c : Int) (ta tb tc : Tok) :
    CbClaim PySem.Challenge.rw_lc0008_01.row.prog w (hd.heap_39 w.params) hd.view_39 (looseW hd.view_39 [Str.ofString "PDFValueError"]) mean mg mb 58 news [] True [.int a ta, .int b tb, .int c tc] (fun t => .int (paeth a b c) t) := by
  w_top off
  k_fill
  dsimp only [CbClaim, CbLists, CbRet]
  intros
  rename_i hret
  refine wpAny_call ?_
  k_dflt cell_enter
  k_steps
  all_goals
    refine cb_retI hret ?_ (by assumption) (by assumption)
    unfold paeth pabs
    first
      | rw [if_pos ⟨by assumption, by assumption⟩]
      | (rw [if_neg (fun h => absurd h.1 (by assumption))]; first | rw [if_pos (by assumption)] | rw [if_neg (by assumption)])
      | (rw [if_neg (fun h => absurd h.2 (by assumption))]; first | rw [if_pos (by assumption)] | rw [if_neg (by assumption)])
      | ((repeat' split at *) <;> omega)
      | grind
theorem paeth_use {w : World} {mean : ExcName → Option Value} {mg mb : Str → Option Value} {news : List (Addr × Obj)} {x y z : Int} {tx ty tz : Tok} {dp un : Nat} {gd : Option (List Code)} {cn : Str} {cs : Scope} {a : Addr} {ccd : Value} {cl : List (Str × Addr)} {outer : List Env} {A₀ : Around} {base h₀ : Heap} {L : Addr} {m : Str → Option Value} {s : Shared} {Q E : Value → Shared → Prop}
    (B : Below A₀ base outer h₀) (F : Fr h₀ L s.heap m) (X : (hd.heap_39 w.params).In h₀) (N : News h₀ L s.heap news) (T : Top hd.view_39 (looseW hd.view_39 [Str.ofString "PDFValueError"]) mean mg mb h₀) (hks : cs.kind = .function) (hd1 : dp + 1 < recursionLimit) (hu : un + 8 < cLine)
    (hR : ∀ (t : Tok) (h' : Heap) (tk' : Nat), Fr h₀ L h' m → News h₀ L h' news → Q (.int (paeth x y z) t) { s with heap := h', toks := tk' }) :
    wpAny (model PySem.Challenge.rw_lc0008_01.row.prog w) (ktrTop dp un gd cn cs L a ccd cl outer) (call (.ref 58) [.int x tx, .int y ty, .int z tz]) Q E s :=
  paeth_tells w mean mg mb news x y z tx ty tz _ _ _ _ _ _ _ _ _ _ _ _ _ _ _ _ _ B F X N T hks trivial hd1 hu hR
local macro_rules | `(tactic| walk_at "exec For Name Call cons nil") => `(tactic| (k_here; (rename Fr _ _ _ _ => lF'); (with_unfolding_all refine' For_turns lF' ?_); k_whole))
local macro_rules | `(tactic| walk_at "exec For Tuple Call cons nil") => `(tactic| (k_here; (rename Fr _ _ _ _ => lF'); (with_unfolding_all refine' For_turns lF' ?_); k_whole))
local macro_rules | `(tactic| walk_at "call type:list") => `(tactic| (k_here; (with_reducible show wpAny _ _ (call (Value.type _) [Value.bytes _ _]) _ _ _); k_dflt (refine' list_bytes_K ?hh ?F ?N ?k ?z ?_; (case hh => rfl); (case F => k_asm); (case N => k_asm); (case k => first | assumption | (exact ints_flat0 _)); (case z => first | omega | (simp only [List.length_replicate, sizeLine_eq]; omega))); intro D' h' tk' vs' c' I' e' F' N' l'; k_lt l'))

local macro_rules | `(tactic| walk_at "exec Raise some none") => `(tactic| (k_here; (with_reducible show wpAny _ _ (exec (Stmt.Raise (some (Expr.Call (Expr.Name _ _) (_ :: _) [] _)) none _) _) _ _ _); k_dflt (refine' Raise_own2 ?F ?g ?O PySem.F.excBase_Exception ?n PySem.F.excBase_ValueError ?h ?_ ?a ?b ?c ?d ?e; (case F => k_asm); (case g => exact TopRead.g (by k_asm)); (case O => exact own_of_in (by k_asm) (by k_asm) (by k_is) (by k_exc)); (case n => decide +kernel); (case h => first | rfl | assumption); (case a => rfl); (case b => rfl); (case c => rfl); (case d => rfl); (case e => decide); k_whole)))
local macro_rules | `(tactic| walk_at "call builtin:list.append") => `(tactic| (k_here; (with_reducible show wpAny _ _ (call (Value.builtin _) [Value.ref _, Value.int _ _]) _ _ _); k_dflt (refine' append_led ?F ?N ?U ?z ?_; (case F => k_asm); (case N => k_asm); (case U => k_updF); (case z => first | (with_reducible assumption) | omega | (simp only [List.length_append, List.length_cons, List.length_nil]; omega)); k_whole); intro h' F' N'; (try k_sweep)))
local macro_rules | `(tactic| walk_at "subscriptTail") => `(tactic| (k_here; (with_reducible show wpAny _ _ (subscriptTail _ _ (Value.ref _) (Value.int _ _)) _ _ _); (with_unfolding_all refine' item_led ?N ?m ?i ?a ?b ?z ?_ ?s; (case N => k_asm); (case m => first | k_memK | kst_mem); (case i => assumption); (case a => first | (with_reducible assumption) | exact Int.natCast_nonneg _ | omega); (case b => first | (with_reducible assumption) | omega); (case z => first | (with_reducible assumption) | omega); (case s => with_unfolding_all rfl); k_whole); intro _))
local macro_rules | `(tactic| walk_at "callWith type:zip") => `(tactic| (k_here; with_unfolding_all refine callWith_type_kw ?_))

theorem tiff_tells (w : World) (mean : ExcName → Option Value) (mg mb : Str → Option Value) (news : List (Addr × Obj)) (c k : Int) (tc tk tb : Tok) (bs : Array UInt8) (td : Tok) (ks : List Int) (nb cn : Nat)
    (hk : bInts bs = ks) (hlen : ks.length ≤ 200) (hc : c = (cn : Int)) (hc0 : 1 ≤ cn) (hc1 : cn ≤ 4) (hk0 : 1 ≤ k) (hk1 : k ≤ 16) (hnb : k * c = (nb : Int)) (hnb0 : 1 ≤ nb) (hnb1 : nb ≤ 64) (hwhole : nRows ks.length nb * nb = ks.length)
    (dp un : Nat) (gd : Option (List Code)) (cname : Str) (cs : Scope) (a : Addr) (ccd : Value) (cl : List (Str × Addr)) (outer : List Env) (A₀ : Around) (base h₀ : Heap) (L : Addr) (m : Str → Option Value) (s : Shared) (Q E : Value → Shared → Prop)
    (B : Below A₀ base outer h₀) (F : Fr h₀ L s.heap m) (X : (hd.heap_39 w.params).In h₀) (N : News h₀ L s.heap news) (T : Top hd.view_39 (looseW hd.view_39 [Str.ofString "PDFValueError"]) mean mg mb h₀) (hks : cs.kind = .function)
    (hd1 : dp + 2 < recursionLimit) (hu : un + 16 < cLine)
    (hret : ∀ (bs' : Array UInt8) (t' : Tok) (h' : Heap) (tk' : Nat), bInts bs' = tst ks nb cn (nRows ks.length nb) → Fr h₀ L h' m → News h₀ L h' news → Q (.bytes bs' t') { s with heap := h', toks := tk' }) :
    wpAny (model PySem.Challenge.rw_lc0008_01.row.prog w) (ktrTop dp un gd cname cs L a ccd cl outer) (call (.ref 65) [.int c tc, .int k tk, .int 8 tb, .bytes bs td]) Q E s := by
  w_top off
  revert X; k_fill; intro X
  refine wpAny_call ?_
  k_dflt cell_enter
  subst hc
  k_steps
  have e8 : Int.fdiv 8 8 = 1 := by decide
  rename Fr _ _ _ _ => F1
  rename News _ _ _ _ => N1
  simp only [e8, Int.mul_one, hnb] at F1 ⊢
  rename_i lb _ l1 _
  have kMark := kstMark
  refine range3_rows F1 N1 (by omega) ?_
  intro h1 tk1 t1 u1 v1 hR F' N' _
  clear F1 N1
  with_unfolding_all refine turns_range (n := nRows ks.length nb) (TiffJ bs td ks nb cn lb news) (by rfl) hR (small_rows (by omega) (by omega) (by omega)) (range_rows (by omega)) F' N' ?hj ?turn ?done
  case hj =>
    refine ⟨[], 0, ?_, ?_, .nil, rfl, ?_⟩
    rotate_left 2
    · kst_all
  case turn =>
    rintro i t m₁ nx h tk own hi ⟨vsb, cb, t3, t4, Ib, rfl, hp⟩ ho F N
    replace F := fr_pairs F hp
    clear F' N' hp hR
    (try dsimp only [kstB] at F)
    have ho1 := ho
    simp only [List.map_cons, List.cons_append] at ho N
    have e1 : ((0 : Int) + (i : Int) * (nb : Int)) = ((i * nb : Nat) : Int) := by
      rw [Int.natCast_mul]; omega
    rw [e1]
    have hio : i * nb + nb ≤ ks.length := by
      rw [← hwhole, ← Nat.succ_mul]; exact Nat.mul_le_mul_right _ hi
    generalize hoi : i * nb = o at *
    k_steps
    rename IsRange _ _ _ _ _ _ _ _ => hR
    rename Fr _ _ _ _ => F1
    rename News _ _ _ _ => N1
    rename _ < _ ∧ AllLt _ _ => lI
    rename_i raw0 _ _ _ _ _ _ _ _ _ _
    have hel : ((ks.drop o).take nb).length = nb := by rw [List.length_take, List.length_drop]; omega
    with_unfolding_all refine turns_range (n := nb) (TRowJ cn ((ks.drop o).take nb) raw0 ((lb, W.listOf vsb.toArray cb) :: (news ++ own)) ((Str.ofString "raw", Value.ref raw0) :: (Str.ofString "scanline_i", Value.int (o : Int) t) :: tiffPs lb cn nb t3 t4 bs td)) (by rfl) hR (small_to _ (by omega)) (range_one _) F1 N1 ?hj2 ?turn2 ?done2
    case hj2 => exact ⟨[], 0, .nil, rfl, rfl, by kst_all⟩
    case turn2 =>
      rintro j u m₂ nx h tk own2 hj ⟨vs, c, Iv, hvl, rfl, hp⟩ ho2 F N
      replace F := fr_pairs F hp
      clear F1 N1 hp hR
      (try dsimp only [kstB] at F)
      have ho3 := ho2
      simp only [List.map_cons, List.map_append, List.cons_append, List.append_assoc] at ho2 N
      have e2 : ((0 : Int) + (j : Int) * 1) = (j : Int) := by omega
      rw [e2]
      have hx : ((ks.drop o).take nb)[j]? = some (ks.getD (o + j) 0) := by
        rw [List.getElem?_take_of_lt hj, List.getElem?_drop, List.getElem?_eq_getElem (by omega), List.getD_eq_getElem?_getD, List.getElem?_eq_getElem (by omega)]; rfl
      have e3 : ((o : Int) + (j : Int)).toNat = o + j := by omega
      have hrl : (tiffRow cn (((ks.drop o).take nb).take j)).length = j := by rw [tiffRow_length, List.length_take]; omega
      k_steps
      all_goals
        rename Fr _ _ _ _ => Fn
        rename News _ _ _ _ => Nn
        rw [e3] at Nn
        with_unfolding_all refine tend_tRowJ Fn Nn ?_ ?_ ho3 Iv hx ?_ hvl ?_
        · kst_inAny
        · kst_anyIn
        · first | exact tpix_hi hrl (by assumption) | exact tpix_lo hrl (by assumption)
        · kst_all
    case done2 =>
      rintro m₂ nx h tk ⟨vs, c, Iv, hvl, rfl, hp⟩ F N
      replace F := fr_pairs F hp
      clear F1 N1 hp hR
      (try dsimp only [kstB] at F)
      dsimp only
      k_steps
      have hpl := tst_len ks nb cn i
      have e2 := Ib.length
      have hra : raw0 ≠ lb := Nat.ne_of_gt lI.1
      refine extend_K (us := vsb) (vs := vs) (by k_asm) (by k_asm) (by k_mem) (by k_updF) (by omega) ?_
      intro h' c' F' N'
      (try dsimp only at N')
      (try k_sweep)
      k_steps
      rename Fr _ _ _ _ => Fn
      rename News _ _ _ _ => Nn
      rw [List.take_of_length_le (by omega)] at Iv
      subst hoi
      with_unfolding_all refine tend_tiffJ Fn Nn (vs := vs) (vsb := vsb) (t1 := t3) (t2 := t4) (by k_memK) ?_ ?_ Ib Iv ho1 ?_
      · kst_anyIn
      · kst_anyIn
      · kst_all
  case done =>
    rintro m₁ nx h tk ⟨vsb, cb, t3, t4, Ib, rfl, hp⟩ F N
    replace F := fr_pairs F hp
    clear F' N' hp hR
    (try dsimp only [kstB] at F)
    dsimp only
    k_steps
    have hpl := tst_len ks nb cn (nRows ks.length nb)
    have hin := tst_in ks nb cn (fun x hx => ints_in (by rw [hk]; exact hx)) (nRows ks.length nb)
    refine KBa.make_K (by k_asm) (by k_asm) (by rfl) ⟨_, (N (lb, W.listOf vsb.toArray cb) (by k_memK)).1, rfl, cb, rfl⟩ Ib hin (by omega) ?_
    intro h' t' k' F' N' _
    k_steps
    rename News _ _ _ _ => Nz
    exact hret _ _ _ _ (KBa.ints_make hin) (by assumption) (cb_drop Nz (by kst_anyIn))

local macro_rules | `(tactic| walk_at "call builtin:len") => `(tactic| (k_here; (with_reducible show wpAny _ _ (call (Value.builtin "len") [Value.ref _]) _ _ _); k_dflt (refine' len_led ?N ?m ?z ?_; (case N => k_asm); (case m => first | k_memK | kst_mem); (case z => first | (with_reducible assumption) | omega); k_whole)))

theorem png_refuse (w : World) (mean : ExcName → Option Value) (mg mb : Str → Option Value) (news : List (Addr × Obj)) (pred c k b : Int) (tp tc tk tb : Tok) (bs : Array UInt8) (td : Tok) (hb8 : b ≠ 8) (hb1 : b ≠ 1) (hbl : -100 ≤ b) (hbh : b ≤ 100)
    (dp un : Nat) (gd : Option (List Code)) (cname : Str) (cs : Scope) (a : Addr) (ccd : Value) (cl : List (Str × Addr)) (outer : List Env) (A₀ : Around) (base h₀ : Heap) (L : Addr) (m : Str → Option Value) (s : Shared) (Q E : Value → Shared → Prop)
    (B : Below A₀ base outer h₀) (F : Fr h₀ L s.heap m) (X : (hd.heap_39 w.params).In h₀) (N : News h₀ L s.heap news) (T : Top hd.view_39 (looseW hd.view_39 [Str.ofString "PDFValueError"]) mean mg mb h₀) (hks : cs.kind = .function)
    (hd1 : dp + 2 < recursionLimit) (hu : un + 16 < cLine)
    (hraise : ∀ (g : Heap) (e t : Addr) (vs : List Value) (h' : Heap) (tk' : Nat), Fr h₀ L g m → RaisedK base (envX cname cs L a ccd cl :: outer) e (.ref 49) t vs news h' → g.UpToSlots h' → E (.ref e) { s with heap := h', toks := tk' }) :
    wpAny (model PySem.Challenge.rw_lc0008_01.row.prog w) (ktrTop dp un gd cname cs L a ccd cl outer) (call (.ref 72) [.int pred tp, .int c tc, .int k tk, .int b tb, .bytes bs td]) Q E s := by
  w_top off
  revert X; k_fill; intro X
  refine wpAny_call ?_
  k_dflt cell_enter
  k_steps
  all_goals first
    | (exfalso; omega)
    | (exfalso; (rename List.any _ _ = true => hany); simp at hany; omega)
    | (rename RaisedK _ _ _ _ _ _ _ _ => R'
       exact hraise _ _ _ _ _ _ (by assumption) (raised_sub R' (by first | exact fun p hp => hp | kst_anyIn)) (by assumption))


theorem tiff_refuse (w : World) (mean : ExcName → Option Value) (mg mb : Str → Option Value) (news : List (Addr × Obj)) (c k b : Int) (tc tk tb : Tok) (bs : Array UInt8) (td : Tok) (hb8 : b ≠ 8) (hbl : -100 ≤ b) (hbh : b ≤ 100)
    (dp un : Nat) (gd : Option (List Code)) (cname : Str) (cs : Scope) (a : Addr) (ccd : Value) (cl : List (Str × Addr)) (outer : List Env) (A₀ : Around) (base h₀ : Heap) (L : Addr) (m : Str → Option Value) (s : Shared) (Q E : Value → Shared → Prop)
    (B : Below A₀ base outer h₀) (F : Fr h₀ L s.heap m) (X : (hd.heap_39 w.params).In h₀) (N : News h₀ L s.heap news) (T : Top hd.view_39 (looseW hd.view_39 [Str.ofString "PDFValueError"]) mean mg mb h₀) (hks : cs.kind = .function)
    (hd1 : dp + 2 < recursionLimit) (hu : un + 16 < cLine)
    (hraise : ∀ (g : Heap) (e t : Addr) (vs : List Value) (h' : Heap) (tk' : Nat), Fr h₀ L g m → RaisedK base (envX cname cs L a ccd cl :: outer) e (.ref 49) t vs news h' → g.UpToSlots h' → E (.ref e) { s with heap := h', toks := tk' }) :
    wpAny (model PySem.Challenge.rw_lc0008_01.row.prog w) (ktrTop dp un gd cname cs L a ccd cl outer) (call (.ref 65) [.int c tc, .int k tk, .int b tb, .bytes bs td]) Q E s := by
  w_top off
  revert X; k_fill; intro X
  refine wpAny_call ?_
  k_dflt cell_enter
  k_steps
  all_goals first
    | (exfalso; omega)
    | (exfalso; (rename List.any _ _ = true => hany); simp at hany; omega)
    | (rename RaisedK _ _ _ _ _ _ _ _ => R'
       exact hraise _ _ _ _ _ _ (by assumption) (raised_sub R' (by first | exact fun p hp => hp | kst_anyIn)) (by assumption))



theorem jz_hi {l : List Int} {sn j : Nat} (h : (sn : Int) ≤ (j : Int)) : l.getD ((j : Int) - (sn : Int)).toNat 0 = if sn ≤ j then l.getD (j - sn) 0 else 0 := by
  have e : ((j : Int) - (sn : Int)).toNat = j - sn := by omega
  rw [if_pos (by omega), e]
theorem jz_lo {l : List Int} {sn j : Nat} (h : ¬ (sn : Int) ≤ (j : Int)) : (0 : Int) = if sn ≤ j then l.getD (j - sn) 0 else 0 := by rw [if_neg (by omega)]
theorem jz_pix {kind g left corner : Int} {sn j : Nat} {row ab : List Int} (hg : g = predOf kind left (ab.getD ((j : Int)).toNat 0) corner) (h1 : (if sn ≤ j then row.getD (j - sn) 0 else 0) = left) (h2 : (if sn ≤ j then ab.getD (j - sn) 0 else 0) = corner) :
    (row.getD ((j : Int)).toNat 0 - g).fmod 256 = filtPix kind sn row ab j := by
  rw [Int.fmod_eq_emod_of_nonneg _ (by decide), hg, ← h1, ← h2]
  rfl
theorem filt_tells (w : World) (mean : ExcName → Option Value) (mg mb : Str → Option Value) (news : List (Addr × Obj)) (kind : Int) (tkk ts : Tok) (rl al : Addr) (row ab : List Int) (vr va : List Value) (cr ca : Nat) (sn : Nat)
    (hkind : kind = 0 ∨ kind = 1 ∨ kind = 2 ∨ kind = 3 ∨ kind = 4) (hr : (rl, W.listOf vr.toArray cr) ∈ news) (ha : (al, W.listOf va.toArray ca) ∈ news) (Ir : IntsAre vr row) (Ia : IntsAre va ab) (hrl : row.length ≤ 200) (hra : row.length ≤ ab.length) (hal : ab.length ≤ 200) (hsn : 1 ≤ sn)
    (dp un : Nat) (gd : Option (List Code)) (cname : Str) (cs : Scope) (a : Addr) (ccd : Value) (cl : List (Str × Addr)) (outer : List Env) (A₀ : Around) (base h₀ : Heap) (L : Addr) (m : Str → Option Value) (s : Shared) (Q E : Value → Shared → Prop)
    (B : Below A₀ base outer h₀) (F : Fr h₀ L s.heap m) (X : (hd.heap_39 w.params).In h₀) (N : News h₀ L s.heap news) (T : Top hd.view_39 (looseW hd.view_39 [Str.ofString "PDFValueError"]) mean mg mb h₀) (hks : cs.kind = .function)
    (hd1 : dp + 2 < recursionLimit) (hu : un + 16 < cLine)
    (hret : ∀ (D : Addr) (vs : List Value) (c : Nat) (h' : Heap) (tk' : Nat), IntsAre vs (filt kind sn row ab row.length) → vs.length = row.length → (∀ p ∈ news, p.1 ≠ D) → Fr h₀ L h' m → News h₀ L h' ((D, W.listOf vs.toArray c) :: news) → Q (.ref D) { s with heap := h', toks := tk' }) :
    wpAny (model PySem.Challenge.rw_lc0008_01.row.prog w) (ktrTop dp un gd cname cs L a ccd cl outer) (call (.ref 79) [.int kind tkk, .ref rl, .ref al, .int sn ts]) Q E s := by
  w_top off
  revert X; k_fill; intro X
  have hvr := Ir.length
  have hva := Ia.length
  refine wpAny_call ?_
  k_dflt cell_enter
  k_steps
  rename IsRange _ _ _ _ _ _ _ _ => hR
  rename Fr _ _ _ _ => F1
  rename News _ _ _ _ => N1
  rename ∀ p ∈ news, _ => lI
  rename_i tl _ _ _ _ _ _ _ _ _ _
  have kMark := kstMark
  rw [hvr] at hR
  with_unfolding_all refine turns_range (n := row.length) (FiltJ kind sn row ab tl news [(Str.ofString "told", Value.ref tl), (Str.ofString "kind", Value.int kind tkk), (Str.ofString "row", Value.ref rl), (Str.ofString "above", Value.ref al), (Str.ofString "step", Value.int (sn : Int) ts)]) (by rfl) hR (small_to _ (by omega)) (range_one _) F1 N1 ?hj ?turn ?done
  case hj => exact ⟨[], 0, .nil, rfl, rfl, by kst_all⟩
  case turn =>
    rintro j t m₁ nx h tk own hj ⟨vs, c, Iv, hvl, rfl, hp⟩ ho F N
    replace F := fr_pairs F hp
    clear F1 N1 hp hR
    (try dsimp only [kstB] at F)
    have ho1 := ho
    simp only [List.map_cons, List.cons_append] at ho N
    have e2 : ((0 : Int) + (j : Int) * 1) = (j : Int) := by omega
    rw [e2]
    (repeat' (first | ((fail_if_success (with_reducible show wpAny _ _ (eval (Expr.IfExp _ _ _ _) _) _ _ _)); walk1) | ((fail_if_success (with_reducible show wpAny _ _ (eval (Expr.IfExp _ _ _ _) _) _ _ _)); dsimp only; walk1) | fail "no step"))
    rename Fr _ _ _ _ => Fa
    rename News _ _ _ _ => Na
    refine join_int Fa Na (if sn ≤ j then row.getD (j - sn) 0 else 0) ?_ ?_
    · k_steps
      all_goals rename Fr _ _ _ _ => F2
      all_goals rename News _ _ _ _ => N2
      all_goals refine joined F2 N2 (fun p hp => hp) ?_
      all_goals first | exact ⟨_, congrArg (Value.int · _) (jz_hi (by omega))⟩ | exact ⟨_, congrArg (Value.int · _) (jz_lo (by omega))⟩
    generalize hleft : (if sn ≤ j then row.getD (j - sn) 0 else 0) = left
    intro tkA hA kA FA NA
    clear Fa Na
    (repeat' (first | ((fail_if_success (with_reducible show wpAny _ _ (eval (Expr.IfExp _ _ _ _) _) _ _ _)); walk1) | ((fail_if_success (with_reducible show wpAny _ _ (eval (Expr.IfExp _ _ _ _) _) _ _ _)); dsimp only; walk1) | fail "no step"))
    rename Fr _ _ _ _ => Fa
    rename News _ _ _ _ => Na
    refine join_int Fa Na (if sn ≤ j then ab.getD (j - sn) 0 else 0) ?_ ?_
    · k_steps
      all_goals rename Fr _ _ _ _ => F2
      all_goals rename News _ _ _ _ => N2
      all_goals refine joined F2 N2 (fun p hp => hp) ?_
      all_goals first | exact ⟨_, congrArg (Value.int · _) (jz_hi (by omega))⟩ | exact ⟨_, congrArg (Value.int · _) (jz_lo (by omega))⟩
    generalize hcorner : (if sn ≤ j then ab.getD (j - sn) 0 else 0) = corner
    intro tkB hB kB FB NB
    clear Fa Na
    (repeat' (first | ((fail_if_success (with_reducible show wpAny _ _ (exec (Stmt.If _ _ _ _) _) _ _ _)); walk1) | ((fail_if_success (with_reducible show wpAny _ _ (exec (Stmt.If _ _ _ _) _) _ _ _)); dsimp only; walk1) | fail "no step"))
    rename Fr _ _ _ _ => Fa
    rename News _ _ _ _ => Na
    with_unfolding_all refine wp_joinI Fa Na (fun n => n = predOf kind left (ab.getD ((j : Int)).toNat 0) corner) (fun n tk => (Str.ofString "guess", Value.int n tk) :: [(Str.ofString "j", Value.int (j : Int) t), (Str.ofString "told", Value.ref tl), (Str.ofString "kind", Value.int kind tkk), (Str.ofString "row", Value.ref rl), (Str.ofString "above", Value.ref al), (Str.ofString "step", Value.int (sn : Int) ts)]) ?_ ?_
    · rcases hkind with rfl | rfl | rfl | rfl | rfl
      all_goals (repeat' (first | (k_here; (with_reducible show wpAny _ _ (call (Value.builtin "min") [Value.ref _]) _ _ _); k_dflt (refine min_pairs (by rfl) (by ktr_units) (by k_asm) (by k_asm) (by k_memK) (by k_memK) (by rfl) (by rfl) (by k_memK) (by rfl) (by rfl) (by k_memK) (by rfl) (by rfl) (fun q1 q2 h' tk' F' N' => ?_) (fun q1 q2 h' tk' F' N' => ?_) (fun q1 q2 h' tk' F' N' => ?_))) | walk1 | (dsimp only; walk1) | fail "no step"))
      all_goals
        rename Fr _ _ _ _ => Fn
        rename News _ _ _ _ => Nn
        with_unfolding_all refine' joinedI Fn Nn ?ia ?ib ?ic ?id
        (case ic => rfl)
        (case ia => first | exact fun _ h => h | kst_anyIn)
        (case ib => first | exact pred0 _ _ _ | exact pred1 _ _ _ | exact pred2 _ _ _ | exact pred3 _ _ _ | (with_reducible first | exact pred4x (by with_reducible assumption) (by with_reducible assumption) | exact pred4y (by with_reducible assumption) (by with_reducible assumption) | exact pred4z (by with_reducible assumption) (by with_reducible assumption)))
        (case id => kst_all)
    intro hG kG mG gs tkG hgs FG NG
    clear Fa Na
    dsimp only [kstB] at FG
    k_steps
    rename Fr _ _ _ _ => Fn
    rename News _ _ _ _ => Nn
    with_unfolding_all refine' tend_filtM Fn Nn ?ka ?kb ?kc ho1 Iv ?kd hvl ?ke
    (case ka => k_memK)
    (case kb => kst_anyIn)
    (case kc => kst_anyIn)
    (case kd => exact jz_pix hgs hleft hcorner)
    (case ke => kst_all)
  case done =>
    rintro m₁ nx h tk ⟨vs, c, Iv, hvl, rfl, hp⟩ F N
    replace F := fr_pairs F hp
    clear F1 N1 hp hR
    (try dsimp only [kstB] at F)
    dsimp only
    k_steps
    rename News _ _ _ _ => Nz
    exact hret _ _ _ _ _ Iv hvl (fun p hp => Nat.ne_of_lt (lI p hp)) (by assumption) Nz

local macro_rules | `(tactic| walk_at "call ref") => `(tactic| (k_here; k_dflt (refine' paeth_use ?k1 ?k2 ?k3 ?k4 ?k5 ?kK ?kd ?ku ?_; (case k1 => k_asm); (case k2 => k_asm); (case k3 => k_asm); (case k4 => k_asm); (case k5 => k_asm); (case kK => first | exact rfl | assumption); (case kd => ktr_room); (case ku => ktr_units)); intro t9 h9 tk9 F9 N9; (try dsimp only)))
section
variable {M : Model} {A : Around} {E : Value → Shared → Prop} {s : Shared} {h₀ : Heap} {L : Addr} {m₀ : Str → Option Value} {news : List (Addr × Obj)}
/-- ways that meet after a statement that tells two ints -/
theorem wp_joinK2 {t : Sem Flow} {Q : Flow → Shared → Prop} (F : Fr h₀ L s.heap m₀) (_N : News h₀ L s.heap news) (ps : Nat → Nat → List (Str × Value))
    (h₁ : wpAny M A t (JoinedF h₀ L (fun v m nw => v = Flow.next ∧ nw = news ∧ ∃ ta tb, ∀ p ∈ ps ta tb, m p.1 = some p.2) s) E s)
    (h₂ : ∀ h k m ta tb, Fr h₀ L h (kstB m (ps ta tb)) → News h₀ L h news → Q .next { s with heap := h, toks := k }) : wpAny M A t Q E s :=
  wp_joinF F _ h₁ fun v h k m nw ⟨e1, e2, ta, tb, hp⟩ F' N' => by subst e1 e2; exact h₂ h k m ta tb (fr_pairs F' hp) N'
theorem joinedK2 {h : Heap} {k : Nat} {ta tb : Tok} {n1 n2 : Str} {x y : Int} {m : Str → Option Value} {qs : List (Str × Value)} (F : Fr h₀ L h m) (N : News h₀ L h news) (h1 : m n1 = some (.int x ta)) (h2 : m n2 = some (.int y tb)) (hp : ∀ p ∈ qs, m p.1 = some p.2) :
    JoinedF h₀ L (fun v m nw => v = Flow.next ∧ nw = news ∧ ∃ ta tb, ∀ p ∈ (fun ta tb : Nat => (n1, Value.int x ta) :: (n2, Value.int y tb) :: qs) ta tb, m p.1 = some p.2) s Flow.next { s with heap := h, toks := k } :=
  ⟨h, k, m, news, rfl, F, N, rfl, rfl, ta, tb, fun p hp' => by
    rcases List.mem_cons.mp hp' with rfl | hp'
    · exact h1
    · rcases List.mem_cons.mp hp' with rfl | hp'
      · exact h2
      · exact hp p hp'⟩
end
theorem png_tells (w : World) (mean : ExcName → Option Value) (mg mb : Str → Option Value) (news : List (Addr × Obj)) (pred c k b : Int) (tp tc tk tb : Tok) (bs : Array UInt8) (td : Tok) (ks : List Int) (nb bp : Nat)
    (hk : bInts bs = ks) (hlen : ks.length ≤ 200) (hgood : ∀ i < nRows ks.length (nb + 1), GoodRow ks nb bp k.toNat i ∨ 5 ≤ ks.getD (i * (nb + 1)) 0) (hc0 : 1 ≤ c) (hc1 : c ≤ 4) (hk0 : 1 ≤ k) (hk1 : k ≤ 16) (hb : b = 8 ∨ b = 1) (hnb : (c * k * b).fdiv 8 = (nb : Int)) (hbp : (c * b).fdiv 8 = (bp : Int)) (hnb1 : nb ≤ 64)
    (dp un : Nat) (gd : Option (List Code)) (cn : Str) (cs : Scope) (a : Addr) (ccd : Value) (cl : List (Str × Addr)) (outer : List Env) (A₀ : Around) (base h₀ : Heap) (L : Addr) (m : Str → Option Value) (s : Shared) (Q E : Value → Shared → Prop)
    (B : Below A₀ base outer h₀) (F : Fr h₀ L s.heap m) (X : (hd.heap_39 w.params).In h₀) (N : News h₀ L s.heap news) (T : Top hd.view_39 (looseW hd.view_39 [Str.ofString "PDFValueError"]) mean mg mb h₀) (hks : cs.kind = .function)
    (hd1 : dp + 2 < recursionLimit) (hu : un + 16 < cLine)
    (hret : (∀ i < nRows ks.length (nb + 1), ks.getD (i * (nb + 1)) 0 < 5) → ∀ (bs' : Array UInt8) (t' : Tok) (h' : Heap) (tk' : Nat), bInts bs' = (pst ks nb bp k.toNat (nRows ks.length (nb + 1))).1 → Fr h₀ L h' m → News h₀ L h' news → Q (.bytes bs' t') { s with heap := h', toks := tk' })
    (hraise : (∃ i < nRows ks.length (nb + 1), 5 ≤ ks.getD (i * (nb + 1)) 0) → ∀ (g : Heap) (e t : Addr) (vs : List Value) (h' : Heap) (tk' : Nat), Fr h₀ L g m → RaisedK base (envX cn cs L a ccd cl :: outer) e (.ref 49) t vs news h' → g.UpToSlots h' → E (.ref e) { s with heap := h', toks := tk' }) :
    wpAny (model PySem.Challenge.rw_lc0008_01.row.prog w) (ktrTop dp un gd cn cs L a ccd cl outer) (call (.ref 72) [.int pred tp, .int c tc, .int k tk, .int b tb, .bytes bs td]) Q E s := by
  w_top off
  revert X; k_fill; intro X
  refine wpAny_call ?_
  k_dflt cell_enter
  walk1
  refine wpAny_execs_cons ?_
  rename Fr _ _ _ _ => F1
  rename News _ _ _ _ => N1
  refine wp_join F1 N1 (fun f => f = Flow.next) ?_ ?_
  · rcases hb with rfl | rfl
    all_goals k_steps
    all_goals exact joined (by assumption) (by assumption) (by k_sub) rfl
  · intro v0 hp0 kk0 r F N
    subst r
    clear F1 N1
    dsimp only
    k_steps
    rename_i lb h4 l1 h3 tk1 t' k1 la h2 tk2 vs0 c0 I0 e0 l0 h1 F1 N1 h0' tk0 t1 u1 v1 hR F' N' hk1
    clear hk1 F1 N1
    clear hb
    rw [hnb] at hR
    have kMark := kstMark
    have hS : ((nb : Int) + 1) = ((nb + 1 : Nat) : Int) := by omega
    rw [hS] at hR
    with_unfolding_all refine turns_range (n := nRows ks.length (nb + 1)) (PngJ bs td ks nb bp k.toNat lb news) (by rfl) hR (small_rows (by omega) (by omega) (by omega)) (range_rows (by omega)) F' N' ?hj ?turn ?done
    case hj =>
      refine ⟨la, [], vs0, 0, c0, ?_, ?_, .nil, I0, ?_, ?_, rfl, ?_, fun j hj => absurd hj (Nat.not_lt_zero j)⟩
      rotate_left 2
      · exact Nat.ne_of_gt l0.1
      · exact fun p hp => Nat.ne_of_lt (kst_ltOf l0.2 p hp)
      · rw [← hnb, ← hbp]; kst_all
    case turn =>
      rintro i t m₁ nx h tk own hi ⟨la', vsb, vsa, cb, ca, t1, t2, Ib, Ia, hne, hnn, rfl, hp, hft⟩ ho F N
      replace F := fr_pairs F hp
      clear F' N' hp l0 I0 e0 hR
      (try dsimp only [kstB] at F)
      simp only [List.map_cons, List.cons_append] at ho N
      have e1 : ((0 : Int) + (i : Int) * ((nb + 1 : Nat) : Int)) = ((i * (nb + 1) : Nat) : Int) := by
        rw [Int.natCast_mul]; omega
      rw [e1]
      have hg := hgood i hi
      have ho1 := rows_in (by omega) hi
      generalize hoi : i * (nb + 1) = o at *
      (repeat' (first | ((fail_if_success (with_reducible show wpAny _ _ (exec (Stmt.If _ _ _ _) _) _ _ _)); walk1) | ((fail_if_success (with_reducible show wpAny _ _ (exec (Stmt.If _ _ _ _) _) _ _ _)); dsimp only; walk1) | fail "no step"))
      rename bInts (KBy.picked _ _ _) = _ => kb
      rw [enc_eq _ _ _ ho1, show (ks.drop (o + 1)).take nb = encAt ks nb o from rfl] at kb
      rename Fr _ _ _ _ => FI
      rename News _ _ _ _ => NI
      rename _ < _ ∧ _ ∧ AllLt _ _ => lI
      rename_i raw0 _ _
      have hel := encAt_len ks nb o
      have hpz : (pst ks nb bp k.toNat i).2.length ≤ 1000000 := by
        cases i with
        | zero => simp [pst]; omega
        | succ i => simp only [pst, decRow_length]; exact Nat.le_trans (encAt_len ..) (by omega)
      have hkb : ∀ x ∈ encAt ks nb o, 0 ≤ x ∧ x < 256 := fun x hx => ints_in (by rw [kb]; exact hx)
      refine wp_joinF FI (RowR (ks.getD o 0 < 5) (decRow (ks.getD o 0) bp (pst ks nb bp k.toNat i).2 (encAt ks nb o)) la' lb ((la', W.listOf vsa.toArray ca) :: (lb, W.listOf vsb.toArray cb) :: (news ++ own)) bp nb t1 t2 bs td) ?row ?tail
      case row =>
        k_steps
        · rename ks.getD _ 0 = 0 => hf
          rw [Int.toNat_natCast] at hf
          rename IntsAre _ (encAt ks nb o) => I'
          rename _ < _ ∧ _ < _ ∧ _ < _ ∧ AllLt _ _ => l'
          refine' row_joined ?ja ?jb ?jk ?jc ?jd ?je ?jf ?jg ?jh ?ji
          case ja => assumption
          case jb => assumption
          case jk => omega
          case jc => kst_all
          case jd => k_memK
          case je => kst_anyIn
          case jf => rw [hf, decRow_zero hkb]; exact I'
          case jg => exact Nat.ne_of_gt l'.2.1
          case jh => exact Nat.ne_of_gt l'.2.2.1
          case ji => k_all
        · rename Fr _ _ _ _ => F1
          rename News _ _ _ _ => N1
          rename ks.getD _ 0 = 1 => hf
          rw [Int.toNat_natCast] at hf
          have hbp1 : 1 ≤ bp := by unfold GoodRow at hg; simp only [hoi] at hg; rcases hg with (h | h | h) | h <;> omega
          with_unfolding_all refine turns_enumB (RowJ 1 bp (pst ks nb bp k.toNat i).2 (encAt ks nb o) raw0 ((la', W.listOf vsa.toArray ca) :: (lb, W.listOf vsb.toArray cb) :: (news ++ own)) (pngPs raw0 la' lb bp nb t1 t2 bs td)) (by rfl) kb F1 N1 ?hj1 ?turn1 ?done1
          case hj1 => exact ⟨[], 0, .nil, rfl, rfl, by kst_all⟩
          case turn1 =>
            rintro j x T u1 u2 m₂ nx h tk own2 hx hx0 hx1 hT ⟨vs, c, Iv, hvl, rfl, hp⟩ ho2 F N
            replace F := fr_pairs F hp
            clear F1 N1 hp
            (try dsimp only [kstB] at F)
            have ho3 := ho2
            simp only [List.map_cons, List.map_append, List.cons_append, List.append_assoc] at ho2 N
            have hjl : j < (encAt ks nb o).length := (List.getElem?_eq_some_iff.mp hx).1
            (repeat' (first | ((fail_if_success (with_reducible show wpAny _ _ (eval (Expr.IfExp _ _ _ _) _) _ _ _)); walk1) | ((fail_if_success (with_reducible show wpAny _ _ (eval (Expr.IfExp _ _ _ _) _) _ _ _)); dsimp only; walk1) | fail "no step"))
            rename Fr _ _ _ _ => Fa
            rename News _ _ _ _ => Na
            refine join_int Fa Na (if (j : Int) - (bp : Int) < 0 then 0 else (decRow 1 bp (pst ks nb bp k.toNat i).2 ((encAt ks nb o).take j)).getD ((j : Int) - (bp : Int)).toNat 0) ?_ ?_
            · k_steps
              all_goals rename Fr _ _ _ _ => F2
              all_goals rename News _ _ _ _ => N2
              all_goals refine joined F2 N2 (fun p hp => hp) ?_
              all_goals first | exact ⟨_, congrArg (Value.int · _) (if_pos (by assumption)).symm⟩ | exact ⟨_, congrArg (Value.int · _) (if_neg (by assumption)).symm⟩
            intro tkA hA kA FA NA
            clear Fa Na
            k_steps
            rename Fr _ _ _ _ => Fn
            rename News _ _ _ _ => Nn
            with_unfolding_all refine tend_rowJ Fn Nn ?_ ?_ ho3 Iv hx ?_ hvl ?_
            · kst_inAny
            · kst_anyIn
            · rw [pix1 (row_len (Nat.le_of_lt hjl))]
              try simp only [Int.toNat_natCast]
            · kst_all
          case done1 =>
            rintro m₂ nx h tk ⟨vs, c, Iv, hvl, rfl, hp⟩ F N
            k_steps
            rw [List.take_length] at Iv
            refine joinedF _ F N (fun p hp => hp) ⟨rfl, by omega, raw0, vs, c, ?_, ?_, ?_, ?_, rfl, hp⟩
            · rw [hf]; exact Iv
            · exact Nat.ne_of_gt lI.1
            · exact Nat.ne_of_gt lI.2.1
            · k_all
        · rename Fr _ _ _ _ => F1
          rename News _ _ _ _ => N1
          rename ks.getD _ 0 = 2 => hf
          rw [Int.toNat_natCast] at hf
          have hal : (encAt ks nb o).length ≤ vsa.length := by rw [Ia.length]; unfold GoodRow at hg; simp only [hoi] at hg; rcases hg with (h | h | h) | h <;> omega
          with_unfolding_all refine turns_zipB (l := la') (lo := W.listOf vsa.toArray ca) (vs := vsa) (nn := ca) (RowJ 2 bp (pst ks nb bp k.toNat i).2 (encAt ks nb o) raw0 ((la', W.listOf vsa.toArray ca) :: (lb, W.listOf vsb.toArray cb) :: (news ++ own)) (pngPs raw0 la' lb bp nb t1 t2 bs td)) (by rfl) kb F1 N1 (by k_memK) rfl rfl ?keep2 ?hj2 ?turn2 ?done2
          case keep2 => rintro _ _ _ ⟨vs, c, _, _, rfl, _⟩; k_memK
          case hj2 => exact ⟨[], 0, .nil, rfl, rfl, by kst_all⟩
          case turn2 =>
            rintro j x y T u1 m₂ nx h tk own2 hx hx0 hx1 hy hT ⟨vs, c, Iv, hvl, rfl, hp⟩ ho2 F N
            obtain ⟨y, ty, hy', rfl⟩ := ints_at Ia hy
            replace F := fr_pairs F hp
            clear F1 N1 hp
            (try dsimp only [kstB] at F)
            have ho3 := ho2
            simp only [List.map_cons, List.map_append, List.cons_append, List.append_assoc] at ho2 N
            have hjl : j < (encAt ks nb o).length := (List.getElem?_eq_some_iff.mp hx).1
            k_steps
            all_goals
              rename Fr _ _ _ _ => Fn
              rename News _ _ _ _ => Nn
              with_unfolding_all refine tend_rowJ Fn Nn ?_ ?_ ho3 Iv hx ?_ hvl ?_
              · kst_inAny
              · kst_anyIn
              · rw [pix2 (row_len (Nat.le_of_lt hjl)), getD_of hy']
              · kst_all
          case done2 =>
            rintro m₂ nx h tk ⟨vs, c, Iv, hvl, rfl, hp⟩ F N
            k_steps
            rw [Nat.min_eq_left hal, List.take_length] at Iv
            refine joinedF _ F N (fun p hp => hp) ⟨rfl, by omega, raw0, vs, c, ?_, ?_, ?_, ?_, rfl, hp⟩
            · rw [hf]; exact Iv
            · exact Nat.ne_of_gt lI.1
            · exact Nat.ne_of_gt lI.2.1
            · k_all
        · rename Fr _ _ _ _ => F1
          rename News _ _ _ _ => N1
          rename ks.getD _ 0 = 3 => hf
          rw [Int.toNat_natCast] at hf
          have hbp1 : 1 ≤ bp := by unfold GoodRow at hg; simp only [hoi] at hg; rcases hg with (h | h | h) | h <;> omega
          have hal : (encAt ks nb o).length ≤ vsa.length := by rw [Ia.length]; unfold GoodRow at hg; simp only [hoi] at hg; rcases hg with (h | h | h) | h <;> omega
          have hvz : vsa.length ≤ 1000000 := by rw [Ia.length]; exact hpz
          with_unfolding_all refine turns_enumB (RowJ 3 bp (pst ks nb bp k.toNat i).2 (encAt ks nb o) raw0 ((la', W.listOf vsa.toArray ca) :: (lb, W.listOf vsb.toArray cb) :: (news ++ own)) (pngPs raw0 la' lb bp nb t1 t2 bs td)) (by rfl) kb F1 N1 ?hj3 ?turn3 ?done3
          case hj3 => exact ⟨[], 0, .nil, rfl, rfl, by kst_all⟩
          case turn3 =>
            rintro j x T u1 u2 m₂ nx h tk own2 hx hx0 hx1 hT ⟨vs, c, Iv, hvl, rfl, hp⟩ ho2 F N
            replace F := fr_pairs F hp
            clear F1 N1 hp
            (try dsimp only [kstB] at F)
            have ho3 := ho2
            simp only [List.map_cons, List.map_append, List.cons_append, List.append_assoc] at ho2 N
            have hjl : j < (encAt ks nb o).length := (List.getElem?_eq_some_iff.mp hx).1
            (repeat' (first | ((fail_if_success (with_reducible show wpAny _ _ (eval (Expr.IfExp _ _ _ _) _) _ _ _)); walk1) | ((fail_if_success (with_reducible show wpAny _ _ (eval (Expr.IfExp _ _ _ _) _) _ _ _)); dsimp only; walk1) | fail "no step"))
            rename Fr _ _ _ _ => Fa
            rename News _ _ _ _ => Na
            refine join_int Fa Na (if (j : Int) - (bp : Int) < 0 then 0 else (decRow 3 bp (pst ks nb bp k.toNat i).2 ((encAt ks nb o).take j)).getD ((j : Int) - (bp : Int)).toNat 0) ?_ ?_
            · k_steps
              all_goals rename Fr _ _ _ _ => F2
              all_goals rename News _ _ _ _ => N2
              all_goals refine joined F2 N2 (fun p hp => hp) ?_
              all_goals first | exact ⟨_, congrArg (Value.int · _) (if_pos (by assumption)).symm⟩ | exact ⟨_, congrArg (Value.int · _) (if_neg (by assumption)).symm⟩
            intro tkA hA kA FA NA
            clear Fa Na
            k_steps
            rename Fr _ _ _ _ => Fn
            rename News _ _ _ _ => Nn
            with_unfolding_all refine tend_rowJ Fn Nn ?_ ?_ ho3 Iv hx ?_ hvl ?_
            · kst_inAny
            · kst_anyIn
            · rw [pix3 (row_len (Nat.le_of_lt hjl))]
              try simp only [Int.toNat_natCast]
            · kst_all
          case done3 =>
            rintro m₂ nx h tk ⟨vs, c, Iv, hvl, rfl, hp⟩ F N
            k_steps
            rw [List.take_length] at Iv
            refine joinedF _ F N (fun p hp => hp) ⟨rfl, by omega, raw0, vs, c, ?_, ?_, ?_, ?_, rfl, hp⟩
            · rw [hf]; exact Iv
            · exact Nat.ne_of_gt lI.1
            · exact Nat.ne_of_gt lI.2.1
            · k_all
        · rename Fr _ _ _ _ => F1
          rename News _ _ _ _ => N1
          rename ks.getD _ 0 = 4 => hf
          rw [Int.toNat_natCast] at hf
          have hbp1 : 1 ≤ bp := by unfold GoodRow at hg; simp only [hoi] at hg; rcases hg with (h | h | h) | h <;> omega
          have hal : (encAt ks nb o).length ≤ vsa.length := by rw [Ia.length]; unfold GoodRow at hg; simp only [hoi] at hg; rcases hg with (h | h | h) | h <;> omega
          have hvz : vsa.length ≤ 1000000 := by rw [Ia.length]; exact hpz
          with_unfolding_all refine turns_enumB (RowJ 4 bp (pst ks nb bp k.toNat i).2 (encAt ks nb o) raw0 ((la', W.listOf vsa.toArray ca) :: (lb, W.listOf vsb.toArray cb) :: (news ++ own)) (pngPs raw0 la' lb bp nb t1 t2 bs td)) (by rfl) kb F1 N1 ?hj4 ?turn4 ?done4
          case hj4 => exact ⟨[], 0, .nil, rfl, rfl, by kst_all⟩
          case turn4 =>
            rintro j x T u1 u2 m₂ nx h tk own2 hx hx0 hx1 hT ⟨vs, c, Iv, hvl, rfl, hp⟩ ho2 F N
            replace F := fr_pairs F hp
            clear F1 N1 hp
            (try dsimp only [kstB] at F)
            have ho3 := ho2
            simp only [List.map_cons, List.map_append, List.cons_append, List.append_assoc] at ho2 N
            have hjl : j < (encAt ks nb o).length := (List.getElem?_eq_some_iff.mp hx).1
            (repeat' (first | ((fail_if_success (with_reducible show wpAny _ _ (exec (Stmt.If _ _ _ _) _) _ _ _)); walk1) | ((fail_if_success (with_reducible show wpAny _ _ (exec (Stmt.If _ _ _ _) _) _ _ _)); dsimp only; walk1) | fail "no step"))
            rename Fr _ _ _ _ => Fa
            rename News _ _ _ _ => Na
            with_unfolding_all refine wp_joinK2 Fa Na (fun ta tb => (Str.ofString "raw_x_bpp", Value.int (if (j : Int) - (bp : Int) < 0 then 0 else (decRow 4 bp (pst ks nb bp k.toNat i).2 ((encAt ks nb o).take j)).getD ((j : Int) - (bp : Int)).toNat 0) ta) :: (Str.ofString "prior_x_bpp", Value.int (if (j : Int) - (bp : Int) < 0 then 0 else (pst ks nb bp k.toNat i).2.getD ((j : Int) - (bp : Int)).toNat 0) tb) :: (Str.ofString "j", Value.int (j : Int) u1) :: (Str.ofString "paeth_x", Value.int x u2) :: pngPs raw0 la' lb bp nb t1 t2 bs td) ?_ ?_
            · k_steps
              all_goals rename Fr _ _ _ _ => F2
              all_goals rename News _ _ _ _ => N2
              all_goals first
                | (rw [if_pos (by assumption), if_pos (by assumption)]; with_unfolding_all exact joinedK2 F2 N2 (by rfl) (by rfl) (by kst_all))
                | (rw [if_neg (by assumption), if_neg (by assumption)]; with_unfolding_all exact joinedK2 F2 N2 (by rfl) (by rfl) (by kst_all))
            intro hA kA mA tkA tkB FA NA
            clear Fa Na
            dsimp only [kstB] at FA
            k_steps
            rename Fr _ _ _ _ => Fn
            rename News _ _ _ _ => Nn
            with_unfolding_all refine tend_rowJ Fn Nn ?_ ?_ ho3 Iv hx ?_ hvl ?_
            · kst_inAny
            · kst_anyIn
            · rw [pix4 (row_len (Nat.le_of_lt hjl))]
              try simp only [Int.toNat_natCast]
            · kst_all
          case done4 =>
            rintro m₂ nx h tk ⟨vs, c, Iv, hvl, rfl, hp⟩ F N
            k_steps
            rw [List.take_length] at Iv
            refine joinedF _ F N (fun p hp => hp) ⟨rfl, by omega, raw0, vs, c, ?_, ?_, ?_, ?_, rfl, hp⟩
            · rw [hf]; exact Iv
            · exact Nat.ne_of_gt lI.1
            · exact Nat.ne_of_gt lI.2.1
            · k_all
        · rename RaisedK _ _ _ _ _ _ _ _ => R'
          simp only [Int.toNat_natCast] at *
          exact hraise ⟨i, hi, by rw [hoi]; omega⟩ _ _ _ _ _ _ (by assumption) (raised_sub R' (by kst_anyIn)) (by assumption)
      case tail =>
        rintro f h2 k2 m2 nx ⟨rfl, hfl, ra, vs, c, Iv, hra, hrb, hrr, rfl, hp⟩ F N
        replace F := fr_pairs F hp
        clear FI NI hp lI
        (try dsimp only [kstB] at F)
        dsimp only
        k_steps
        have hpl := pst_len ks nb bp k.toNat i
        have e2 := Ib.length
        have e3 : i * nb ≤ 200 := by
          have : i * nb ≤ i * (nb + 1) := Nat.mul_le_mul_left _ (Nat.le_succ _)
          omega
        have e4 : vs.length ≤ nb := by rw [Iv.length, decRow_length]; exact hel
        have hra' : ra ≠ lb := hrb
        refine extend_K (us := vsb) (vs := vs) (by k_asm) (by k_asm) (by k_mem) (by k_updF) (by omega) ?_
        intro h' c' F' N'
        (try dsimp only at N')
        (try k_sweep)
        k_steps
        rename Fr _ _ _ _ => Fn
        rename News _ _ _ _ => Nn
        subst hoi
        with_unfolding_all refine tend_pngJ Fn Nn (ra := ra) (vs := vs) (vsb := vsb) (t1 := t1) (t2 := t2) (by k_memK) (by k_memK) ?_ ?_ Ib Iv hra' ?_ ?_ ?_ ?_ ?_ hft hfl
        · kst_anyIn
        · kst_anyIn
        · exact fun p hp => hrr p (List.mem_cons_of_mem _ (List.mem_cons_of_mem _ (List.mem_append_left _ hp)))
        · exact fun p hp => hrr p (List.mem_cons_of_mem _ (List.mem_cons_of_mem _ (List.mem_append_right _ hp)))
        · k_all
        · exact off_own (off_tail (off_tail ho))
        · kst_all
    case done =>
      rintro m₁ nx h tk ⟨la', vsb, vsa, cb, ca, t1, t2, Ib, Ia, hne, hnn, rfl, hp, hft⟩ F N
      replace F := fr_pairs F hp
      clear F' N' hp l0 I0 e0 hR
      (try dsimp only [kstB] at F)
      dsimp only
      k_steps
      have hpl := pst_len ks nb bp k.toNat (nRows ks.length (nb + 1))
      have hin := (pst_in ks nb bp k.toNat (nRows ks.length (nb + 1))).1
      have hl1 : nRows ks.length (nb + 1) * nb ≤ 200 * 64 := Nat.mul_le_mul (Nat.le_trans (rows_le (by omega)) hlen) hnb1
      refine KBa.make_K (by k_asm) (by k_asm) (by rfl) ⟨_, (N (lb, W.listOf vsb.toArray cb) (by k_memK)).1, rfl, cb, rfl⟩ Ib hin (by omega) ?_
      intro h' t' k' F' N' _
      k_steps
      rename News _ _ _ _ => Nz
      exact hret hft _ _ _ _ (KBa.ints_make hin) (by assumption) (cb_drop Nz (by kst_anyIn))
section
variable {w : World} {mean : ExcName → Option Value} {mg mb : Str → Option Value} {news : List (Addr × Obj)}
    {dp un : Nat} {gd : Option (List Code)} {cname : Str} {cs : Scope} {a : Addr} {ccd : Value} {cl : List (Str × Addr)} {outer : List Env} {A₀ : Around} {base h₀ : Heap} {L : Addr} {m : Str → Option Value} {s : Shared} {Q E : Value → Shared → Prop}
theorem png_spoilt {kd : Nat → Int} {ks : List Int} {sn ln bp cn kn i0 : Nat} {v pred b : Int} {tp tc tk tb td : Tok} {bs : Array UInt8}
    (B : Below A₀ base outer h₀) (F : Fr h₀ L s.heap m) (X : (hd.heap_39 w.params).In h₀) (N : News h₀ L s.heap news) (T : Top hd.view_39 (looseW hd.view_39 [Str.ofString "PDFValueError"]) mean mg mb h₀) (hks : cs.kind = .function)
    (hd1 : dp + 2 < recursionLimit) (hu : un + 16 < cLine)
    (hk : bInts bs = (dataL kd ks sn ln (nRows ks.length ln)).set (i0 * (ln + 1)) v) (hv : 5 ≤ v) (hi : i0 < nRows ks.length ln) (hi1 : i0 * (ln + 1) < nRows ks.length ln + ks.length) (hlen : ks.length ≤ 60) (hgood : ∀ i < nRows ks.length ln, GoodRow (dataL kd ks sn ln (nRows ks.length ln)) ln bp kn i)
    (hc1 : 1 ≤ cn) (hc4 : cn ≤ 4) (hk1 : 1 ≤ kn) (hk16 : kn ≤ 16) (hb : b = 8 ∨ b = 1) (hln : ((cn : Int) * (kn : Int) * b).fdiv 8 = (ln : Int)) (hbp : ((cn : Int) * b).fdiv 8 = (bp : Int)) (hl1 : 1 ≤ ln) (hl24 : ln ≤ 24)
    (hraise : ∀ (g : Heap) (e t : Addr) (vs : List Value) (h' : Heap) (tk' : Nat), Fr h₀ L g m → RaisedK base (envX cname cs L a ccd cl :: outer) e (.ref 49) t vs news h' → g.UpToSlots h' → E (.ref e) { s with heap := h', toks := tk' }) :
    wpAny (model PySem.Challenge.rw_lc0008_01.row.prog w) (ktrTop dp un gd cname cs L a ccd cl outer) (call (.ref 72) [.int pred tp, .int (cn : Int) tc, .int (kn : Int) tk, .int b tb, .bytes bs td]) Q E s := by
  have hdl := dataL_all (kd := kd) (ks := ks) (sn := sn) hl1
  have hdr := dataL_rows (kd := kd) (ks := ks) (sn := sn) hl1
  have hrl := rows_le (len := ks.length) (S := ln) hl1
  have hsp := spoilt_rows (bp := bp) (k := kn) hv hi (by rw [hdl]; exact hi1) hgood
  have hsl : nRows ((dataL kd ks sn ln (nRows ks.length ln)).set (i0 * (ln + 1)) v).length (ln + 1) = nRows ks.length ln := by rw [List.length_set, hdr]
  refine png_tells w mean mg mb news pred (cn : Int) (kn : Int) b tp tc tk tb bs td _ ln bp hk (by rw [List.length_set, hdl]; omega) (by rw [hsl]; exact hsp.1) (by omega) (by omega) (by omega) (by omega) hb hln hbp (by omega)
    dp un gd cname cs a ccd cl outer A₀ base h₀ L m s Q E B F X N T hks hd1 hu ?_ fun _ => hraise
  rw [hsl]
  intro hall
  obtain ⟨i, hi, h5⟩ := hsp.2
  have := hall i hi
  omega
theorem png_whole {kd : Nat → Int} {ks : List Int} {sn ln bp cn kn : Nat} {pred b : Int} {tp tc tk tb td : Tok} {bs : Array UInt8}
    (B : Below A₀ base outer h₀) (F : Fr h₀ L s.heap m) (X : (hd.heap_39 w.params).In h₀) (N : News h₀ L s.heap news) (T : Top hd.view_39 (looseW hd.view_39 [Str.ofString "PDFValueError"]) mean mg mb h₀) (hks : cs.kind = .function)
    (hd1 : dp + 2 < recursionLimit) (hu : un + 16 < cLine)
    (hk : bInts bs = dataL kd ks sn ln (nRows ks.length ln)) (hlen : ks.length ≤ 60) (hgood : ∀ i < nRows ks.length ln, GoodRow (dataL kd ks sn ln (nRows ks.length ln)) ln bp kn i) (hkd : ∀ i, kd i < 5) (hall : (pst (dataL kd ks sn ln (nRows ks.length ln)) ln bp kn (nRows ks.length ln)).1 = ks)
    (hc1 : 1 ≤ cn) (hc4 : cn ≤ 4) (hk1 : 1 ≤ kn) (hk16 : kn ≤ 16) (hb : b = 8 ∨ b = 1) (hln : ((cn : Int) * (kn : Int) * b).fdiv 8 = (ln : Int)) (hbp : ((cn : Int) * b).fdiv 8 = (bp : Int)) (hl1 : 1 ≤ ln) (hl24 : ln ≤ 24)
    (hret : ∀ (bs' : Array UInt8) (t' : Tok) (h' : Heap) (tk' : Nat), bInts bs' = ks → Fr h₀ L h' m → News h₀ L h' news → Q (.bytes bs' t') { s with heap := h', toks := tk' }) :
    wpAny (model PySem.Challenge.rw_lc0008_01.row.prog w) (ktrTop dp un gd cname cs L a ccd cl outer) (call (.ref 72) [.int pred tp, .int (cn : Int) tc, .int (kn : Int) tk, .int b tb, .bytes bs td]) Q E s := by
  have hdl := dataL_all (kd := kd) (ks := ks) (sn := sn) hl1
  have hdr := dataL_rows (kd := kd) (ks := ks) (sn := sn) hl1
  have hrl := rows_le (len := ks.length) (S := ln) hl1
  refine png_tells w mean mg mb news pred (cn : Int) (kn : Int) b tp tc tk tb bs td _ ln bp hk (by rw [hdl]; omega) (by rw [hdr]; exact fun i hi => .inl (hgood i hi)) (by omega) (by omega) (by omega) (by omega) hb hln hbp (by omega)
    dp un gd cname cs a ccd cl outer A₀ base h₀ L m s Q E B F X N T hks hd1 hu ?_ ?_
  · intro _ bs' t' h' tk' e
    refine hret bs' t' h' tk' ?_
    rw [e, hdr]
    exact hall
  · rw [hdr]
    rintro ⟨i, hi, h5⟩
    rw [dataL_kind hl1 hi] at h5
    have := hkd i
    omega
theorem png_refused {pred c k b : Int} {tp tc tk tb td : Tok} {bs : Array UInt8}
    (B : Below A₀ base outer h₀) (F : Fr h₀ L s.heap m) (X : (hd.heap_39 w.params).In h₀) (N : News h₀ L s.heap news) (T : Top hd.view_39 (looseW hd.view_39 [Str.ofString "PDFValueError"]) mean mg mb h₀) (hks : cs.kind = .function)
    (hd1 : dp + 2 < recursionLimit) (hu : un + 16 < cLine) (hb8 : b ≠ 8) (hb1 : b ≠ 1) (hbl : -100 ≤ b) (hbh : b ≤ 100)
    (hraise : ∀ (g : Heap) (e t : Addr) (vs : List Value) (h' : Heap) (tk' : Nat), Fr h₀ L g m → RaisedK base (envX cname cs L a ccd cl :: outer) e (.ref 49) t vs news h' → g.UpToSlots h' → E (.ref e) { s with heap := h', toks := tk' }) :
    wpAny (model PySem.Challenge.rw_lc0008_01.row.prog w) (ktrTop dp un gd cname cs L a ccd cl outer) (call (.ref 72) [.int pred tp, .int c tc, .int k tk, .int b tb, .bytes bs td]) Q E s :=
  png_refuse w mean mg mb news pred c k b tp tc tk tb bs td hb8 hb1 hbl hbh dp un gd cname cs a ccd cl outer A₀ base h₀ L m s Q E B F X N T hks hd1 hu hraise
theorem tiff_refused {c k b : Int} {tc tk tb td : Tok} {bs : Array UInt8}
    (B : Below A₀ base outer h₀) (F : Fr h₀ L s.heap m) (X : (hd.heap_39 w.params).In h₀) (N : News h₀ L s.heap news) (T : Top hd.view_39 (looseW hd.view_39 [Str.ofString "PDFValueError"]) mean mg mb h₀) (hks : cs.kind = .function)
    (hd1 : dp + 2 < recursionLimit) (hu : un + 16 < cLine) (hb8 : b ≠ 8) (hbl : -100 ≤ b) (hbh : b ≤ 100)
    (hraise : ∀ (g : Heap) (e t : Addr) (vs : List Value) (h' : Heap) (tk' : Nat), Fr h₀ L g m → RaisedK base (envX cname cs L a ccd cl :: outer) e (.ref 49) t vs news h' → g.UpToSlots h' → E (.ref e) { s with heap := h', toks := tk' }) :
    wpAny (model PySem.Challenge.rw_lc0008_01.row.prog w) (ktrTop dp un gd cname cs L a ccd cl outer) (call (.ref 65) [.int c tc, .int k tk, .int b tb, .bytes bs td]) Q E s :=
  tiff_refuse w mean mg mb news c k b tc tk tb bs td hb8 hbl hbh dp un gd cname cs a ccd cl outer A₀ base h₀ L m s Q E B F X N T hks hd1 hu hraise
theorem tiff_whole {ws : List Int} {cn kn q : Nat} {tc tk tb td : Tok} {bs : Array UInt8}
    (B : Below A₀ base outer h₀) (F : Fr h₀ L s.heap m) (X : (hd.heap_39 w.params).In h₀) (N : News h₀ L s.heap news) (T : Top hd.view_39 (looseW hd.view_39 [Str.ofString "PDFValueError"]) mean mg mb h₀) (hks : cs.kind = .function)
    (hd1 : dp + 2 < recursionLimit) (hu : un + 16 < cLine)
    (hk : bInts bs = flatL ws cn (cn * kn) ws.length) (hlen : ws.length ≤ 60) (hws : ∀ x ∈ ws, 0 ≤ x ∧ x < 256) (hW : ws.length = q * (cn * kn)) (hc1 : 1 ≤ cn) (hc4 : cn ≤ 4) (hk1 : 1 ≤ kn) (hk16 : kn ≤ 16)
    (hret : ∀ (bs' : Array UInt8) (t' : Tok) (h' : Heap) (tk' : Nat), bInts bs' = ws → Fr h₀ L h' m → News h₀ L h' news → Q (.bytes bs' t') { s with heap := h', toks := tk' }) :
    wpAny (model PySem.Challenge.rw_lc0008_01.row.prog w) (ktrTop dp un gd cname cs L a ccd cl outer) (call (.ref 65) [.int (cn : Int) tc, .int (kn : Int) tk, .int 8 tb, .bytes bs td]) Q E s := by
  have hpos : 0 < cn * kn := Nat.mul_pos hc1 hk1
  have hle : cn * kn ≤ 4 * 16 := Nat.mul_le_mul hc4 hk16
  have hfl := flatL_len ws cn (cn * kn) ws.length
  have hq := nRows_whole hpos hW
  refine tiff_tells w mean mg mb news (cn : Int) (kn : Int) tc tk tb bs td _ (cn * kn) cn hk (by rw [hfl]; omega) rfl hc1 hc4 (by omega) (by omega) (by rw [Int.natCast_mul]; exact Int.mul_comm _ _) hpos (by omega) (by rw [hfl, hq]; exact hW.symm)
    dp un gd cname cs a ccd cl outer A₀ base h₀ L m s Q E B F X N T hks hd1 hu ?_
  intro bs' t' h' tk' e
  refine hret bs' t' h' tk' ?_
  rw [e, hfl, hq]
  exact tst_flat hws hc1 hpos hW
end
theorem getD_zero {ns : List Int} (h : ns.length = 0 ∨ ns = []) : ns.getD 0 0 = 0 := by
  rcases h with h | h
  · have := List.length_eq_zero_iff.mp h; subst this; rfl
  · subst h; rfl
theorem getD_none {ns : List Int} {i : Nat} (h : ¬ i < ns.length) : 0 = ns.getD i 0 := by
  rw [List.getD_eq_getElem?_getD, List.getElem?_eq_none (by omega)]; rfl
theorem fmod_ge (a : Int) {b : Int} (h : 0 < b) : 0 ≤ a.fmod b := Int.fmod_nonneg_of_pos a h
theorem fmod_lt' (a : Int) {b : Int} (h : 0 < b) : a.fmod b < b := Int.fmod_lt_of_pos a h
theorem colors_nat (h : Int) : ∃ cn : Nat, 1 + (h.fdiv 5).fmod 4 = (cn : Int) ∧ 1 ≤ cn ∧ cn ≤ 4 := by
  have h1 := fmod_ge (h.fdiv 5) (b := 4) (by decide)
  have h2 := fmod_lt' (h.fdiv 5) (b := 4) (by decide)
  exact ⟨(1 + (h.fdiv 5).fmod 4).toNat, by omega, by omega, by omega⟩
theorem bits_one (z : Int) : ∃ b : Int, (if (z.fdiv 6).fmod 4 = 3 then (1 : Int) else 8) = b ∧ (b = 1 ∨ b = 8) := by
  split
  · exact ⟨1, rfl, .inl rfl⟩
  · exact ⟨8, rfl, .inr rfl⟩
theorem cols_nat (z b : Int) (hb : b = 1 ∨ b = 8) : ∃ kn : Nat, (if b = 1 then 8 + 8 * z.fmod 2 else 1 + z.fmod 6) = (kn : Int) ∧ (b = 1 ∧ (kn = 8 ∨ kn = 16) ∨ b = 8 ∧ 1 ≤ kn ∧ kn ≤ 6) := by
  have h1 := fmod_ge z (b := 2) (by decide)
  have h2 := fmod_lt' z (b := 2) (by decide)
  have h3 := fmod_ge z (b := 6) (by decide)
  have h4 := fmod_lt' z (b := 6) (by decide)
  rcases hb with rfl | rfl
  · refine ⟨(8 + 8 * z.fmod 2).toNat, ?_, .inl ⟨rfl, ?_⟩⟩
    · rw [if_pos rfl]; omega
    · omega
  · refine ⟨(1 + z.fmod 6).toNat, ?_, .inr ⟨rfl, ?_⟩⟩
    · rw [if_neg (by decide)]; omega
    · omega
theorem length_nat (cn kn : Nat) (b : Int) (hc : 1 ≤ cn ∧ cn ≤ 4) (h : b = 1 ∧ (kn = 8 ∨ kn = 16) ∨ b = 8 ∧ 1 ≤ kn ∧ kn ≤ 6) :
    ∃ ln : Nat, ((cn : Int) * (kn : Int) * b).fdiv 8 = (ln : Int) ∧ 1 ≤ ln ∧ ln ≤ 24 ∧ (b = 8 → ln = cn * kn) := by
  obtain ⟨h1, h2⟩ := hc
  have pc : cn = 1 ∨ cn = 2 ∨ cn = 3 ∨ cn = 4 := by omega
  rcases h with ⟨rfl, h⟩ | ⟨rfl, h3, h4⟩
  · rcases h with rfl | rfl <;> rcases pc with rfl | rfl | rfl | rfl <;> exact ⟨_, rfl, by decide, by decide, fun h => absurd h (by decide)⟩
  · refine ⟨cn * kn, ?_, ?_, ?_, fun _ => rfl⟩
    · rw [Int.fdiv_eq_ediv_of_nonneg _ (by decide), Int.mul_ediv_cancel _ (by decide)]; simp
    · exact Nat.mul_pos h1 h3
    · exact Nat.mul_le_mul h2 h4
theorem step_nat (cn : Nat) (b : Int) (hc : 1 ≤ cn ∧ cn ≤ 4) : ∃ sn : Nat, (if b = 8 then (cn : Int) else 1) = (sn : Int) ∧ 1 ≤ sn ∧ sn ≤ 4 ∧ (b = 8 → sn = cn) ∧ (b ≠ 8 → sn = 1) := by
  split
  · rename_i h; exact ⟨cn, rfl, hc.1, hc.2, fun _ => rfl, fun h' => absurd h h'⟩
  · rename_i h; exact ⟨1, rfl, by decide, by decide, fun h' => absurd h' h, fun _ => rfl⟩
theorem bits_oneB (z : Int) : ∃ b : Int, (if (z.fdiv 6).fmod 4 = 3 then (1 : Int) else 8) = b ∧ B18 b := bits_one z
theorem cols_natB (z b : Int) (hb : B18 b) : ∃ kn : Nat, (if b = 1 then 8 + 8 * z.fmod 2 else 1 + z.fmod 6) = (kn : Int) ∧ BK b kn := cols_nat z b hb
theorem length_natB (cn kn : Nat) (b : Int) (hc : 1 ≤ cn ∧ cn ≤ 4) (h : BK b kn) : ∃ ln : Nat, ((cn : Int) * (kn : Int) * b).fdiv 8 = (ln : Int) ∧ 1 ≤ ln ∧ ln ≤ 24 ∧ B8 b (ln = cn * kn) := length_nat cn kn b hc h
theorem step_natB (cn : Nat) (b : Int) (hc : 1 ≤ cn ∧ cn ≤ 4) : ∃ sn : Nat, (if b = 8 then (cn : Int) else 1) = (sn : Int) ∧ 1 ≤ sn ∧ sn ≤ 4 ∧ B8 b (sn = cn) :=
  let ⟨sn, h1, h2, h3, h4, _⟩ := step_nat cn b hc
  ⟨sn, h1, h2, h3, h4⟩
theorem octs_ok {ns : List Int} {n : Nat} : ∀ x ∈ List.map (fun k : Int => k.fmod 256) (List.take n (List.drop 2 ns)), 0 ≤ x ∧ x < 256 := by
  intro x hx
  obtain ⟨y, _, rfl⟩ := List.mem_map.mp hx
  exact ⟨fmod_ge _ (by decide), fmod_lt' _ (by decide)⟩
local macro_rules | `(tactic| walk_at "subscriptTail") => `(tactic| (k_here; (with_reducible show wpAny _ _ (subscriptTail _ _ (Value.ref _) (Value.int (-1 - _) _)) _ _ _); (with_unfolding_all refine' item_neg ?k1 ?k2 ?k3 ?k4 ?_ ?k6; (case k1 => is_list); (case k2 => l_ints); (case k3 => omega); (case k4 => omega); (case k6 => with_unfolding_all rfl); k_whole); intro _))
theorem startsL_succ (kd : Nat → Int) (ks : List Int) (sn ln j : Nat) : startsL kd ks sn ln (j + 1) = startsL kd ks sn ln j ++ [((dataL kd ks sn ln j).length : Int)] := by
  simp [startsL, List.range_succ]
theorem abv_succ (ks : List Int) (ln j : Nat) : abv ks ln (j + 1) = rowAt ks ln j := by unfold abv; rw [if_neg (Nat.succ_ne_zero j), Nat.add_sub_cancel]
theorem tend_law {kd : Nat → Int} {ks : List Int} {sn ln : Nat} {stA Dn ra : Addr} {rest own news' : List (Addr × Obj)} {ps : List (Str × Value)} {i cd cst cr : Nat} {vd vst vr : List Value} {n : Int} {t : Tok} {h₀ h' : Heap} {L : Addr} {m' : Str → Option Value} {s₁ : Shared} {tk : Nat} {Q : Flow → Shared → Prop}
    {a1 a3 : Addr} {o1 o2 o3 : Obj} (F : Fr h₀ L h' m') (N : News h₀ L h' news') (hD : (Dn, W.listOf vd.toArray cd) ∈ news') (hS : (stA, W.listOf (vst ++ [Value.int n t]).toArray cst) ∈ news') (hA : (ra, W.listOf vr.toArray cr) ∈ news')
    (hr : ∀ p ∈ rest, p ∈ news') (ho : ∀ p ∈ own, p ∈ news') (hds : Dn ≠ stA) (hrs : ra ≠ stA) (hra : (ra, W.listOf vr.toArray cr) ∈ rest) (hoD : ∀ p ∈ own, p.1 ≠ Dn)
    (hoff : OwnOff own (((a1, o1) :: (stA, o2) :: (a3, o3) :: rest).map (·.1)))
    (Id : IntsAre vd (dataL kd ks sn ln i ++ [kd i] ++ filt (kd i) sn (rowAt ks ln i) (abv ks ln i) (rowAt ks ln i).length)) (Ia : IntsAre vr (rowAt ks ln i)) (Ist : IntsAre vst (startsL kd ks sn ln i)) (hn : n = ((dataL kd ks sn ln i).length : Int))
    (hp : ∀ p ∈ (Str.ofString "data", Value.ref Dn) :: (Str.ofString "above", Value.ref ra) :: ps, m' p.1 = some p.2) :
    TPost h₀ L (LawJ kd ks sn ln stA rest ps (i + 1)) own s₁ Q .next { s₁ with heap := h', toks := tk } := by
  have hoS : stA ∈ (((a1, o1) :: (stA, o2) :: (a3, o3) :: rest).map (·.1)) := List.mem_cons_of_mem _ (List.mem_cons_self ..)
  have hof : ∀ p ∈ own, ∀ q ∈ rest, p.1 ≠ q.1 := off_own (off_tail (off_tail (off_tail hoff)))
  refine tend_next (tend_intro ((Dn, W.listOf vd.toArray cd) :: (stA, W.listOf (vst ++ [Value.int n t]).toArray cst) :: (ra, W.listOf vr.toArray cr) :: rest) F N ?_ ho
    (off_cons hoD (off_cons (fun p hp => hoff p hp stA hoS) (off_cons (fun p hp => hof p hp _ hra) hof)))
    ⟨Dn, vd, cd, ra, vr, cr, _, cst, ?_, ?_, ?_, rfl, hds, hrs, hp _ (List.mem_cons_self ..), hp _ (List.mem_cons_of_mem _ (List.mem_cons_self ..)), fun p hp' => hp p (List.mem_cons_of_mem _ (List.mem_cons_of_mem _ hp'))⟩)
  · intro p hp
    rcases List.mem_cons.mp hp with rfl | hp
    · exact hD
    · rcases List.mem_cons.mp hp with rfl | hp
      · exact hS
      · rcases List.mem_cons.mp hp with rfl | hp
        · exact hA
        · exact hr p hp
  · rw [List.append_assoc] at Id; exact Id
  · rw [abv_succ]; exact Ia
  · rw [startsL_succ, ← hn]; exact ints_snoc Ist
theorem filt_use {w : World} {mean : ExcName → Option Value} {mg mb : Str → Option Value} {news : List (Addr × Obj)} {kind : Int} {tkk ts : Tok} {rl al : Addr} {row ab : List Int} {vr va : List Value} {cr ca : Nat} {sn : Nat}
    {dp un : Nat} {gd : Option (List Code)} {cname : Str} {cs : Scope} {a : Addr} {ccd : Value} {cl : List (Str × Addr)} {outer : List Env} {A₀ : Around} {base h₀ : Heap} {L : Addr} {m : Str → Option Value} {s : Shared} {Q E : Value → Shared → Prop}
    (B : Below A₀ base outer h₀) (F : Fr h₀ L s.heap m) (X : (hd.heap_39 w.params).In h₀) (N : News h₀ L s.heap news) (T : Top hd.view_39 (looseW hd.view_39 [Str.ofString "PDFValueError"]) mean mg mb h₀) (hks : cs.kind = .function)
    (hd1 : dp + 2 < recursionLimit) (hu : un + 16 < cLine)
    (hkind : kind = 0 ∨ kind = 1 ∨ kind = 2 ∨ kind = 3 ∨ kind = 4) (hr : (rl, W.listOf vr.toArray cr) ∈ news) (ha : (al, W.listOf va.toArray ca) ∈ news) (Ir : IntsAre vr row) (Ia : IntsAre va ab) (hrl : row.length ≤ 200) (hra : row.length ≤ ab.length) (hal : ab.length ≤ 200) (hsn : 1 ≤ sn)
    (hret : ∀ (D : Addr) (vs : List Value) (c : Nat) (h' : Heap) (tk' : Nat), IntsAre vs (filt kind sn row ab row.length) → vs.length = row.length → (∀ p ∈ news, p.1 ≠ D) → Fr h₀ L h' m → News h₀ L h' ((D, W.listOf vs.toArray c) :: news) → Q (.ref D) { s with heap := h', toks := tk' }) :
    wpAny (model PySem.Challenge.rw_lc0008_01.row.prog w) (ktrTop dp un gd cname cs L a ccd cl outer) (call (.ref 79) [.int kind tkk, .ref rl, .ref al, .int sn ts]) Q E s :=
  filt_tells w mean mg mb news kind tkk ts rl al row ab vr va cr ca sn hkind hr ha Ir Ia hrl hra hal hsn dp un gd cname cs a ccd cl outer A₀ base h₀ L m s Q E B F X N T hks hd1 hu hret
local macro_rules | `(tactic| walk_at "binaryOp Add ref ref") => `(tactic| (k_here; (with_reducible show wpAny _ _ (binaryOp _ (Value.ref _) (Value.ref _)) _ _ _); k_dflt (refine' kmk_add_ints ?F ?N ?a ?b ?i ?j ?_ ?z; (case F => k_asm); (case N => k_asm); (case a => kmk_list); (case b => kmk_list); (case i => l_ints); (case j => l_ints); (case z => (simp only [sizeLine_eq, List.length_append, List.length_cons, List.length_nil, filt_len]; omega))); intro D' ws' h' F' N' l1 hI'; (try k_lt l1); (try k_sweep)))
local macro_rules | `(tactic| walk_at "subscriptTail") => `(tactic| (k_here; (with_reducible show wpAny _ _ (subscriptTail _ _ (Value.ref _) (Value.int _ _)) _ _ _); (with_unfolding_all refine' item_starts ?N ?m ?S ?i ?a ?b ?z ?_ ?s; (case N => k_asm); (case m => first | k_memK | kst_mem); (case i => assumption); (case S => assumption); (case a => with_reducible assumption); (case b => with_reducible assumption); (case z => first | (with_reducible assumption) | omega); (case s => with_unfolding_all rfl); k_whole); intro _ _ _ _))
local macro_rules | `(tactic| walk_at "call type:bytes") => `(tactic| (k_here; (with_reducible show wpAny _ _ (call (Value.type _) [Value.ref _]) _ _ _); k_dflt (refine' bytes_led ?F ?N ?hh ?m ?i ?r ?z ?_; (case F => k_asm); (case N => k_asm); (case hh => rfl); (case m => k_memK); (case i => l_ints); (case r => first | assumption | exact set_in (by assumption) (by omega)); (case z => first | (with_reducible assumption) | ((simp only [List.length_set]); first | (with_reducible assumption) | omega) | omega)); intro bs' t' h' k' hb' F' N'))
local macro_rules | `(tactic| walk_at "exec Try") => `(tactic| (k_here; (with_reducible show wpAny _ _ (exec (Stmt.Try _ (_ :: _) _ [] _) _) _ _ _); refine wpAny_Try_except ?_))
theorem joinedN {h₀ h : Heap} {L : Addr} {k : Nat} {m : Str → Option Value} {news news' : List (Addr × Obj)} {qs : List (Str × Value)} {s : Shared} (F : Fr h₀ L h m) (N : News h₀ L h news') (hs : ∀ p ∈ news, p ∈ news') (hp : ∀ p ∈ qs, m p.1 = some p.2) :
    JoinedF h₀ L (fun v m nw => v = Flow.next ∧ nw = news ∧ ∃ tk, ∀ p ∈ (fun _ : Nat => qs) tk, m p.1 = some p.2) s Flow.next { s with heap := h, toks := k } :=
  joinedF news F N hs ⟨rfl, rfl, 0, hp⟩
theorem whole : PySem.Challenge.rw_lc0008_01.Holds := by
  w_top off
  refine hd ?_
  k_go0
  all_goals try k_fold
  (repeat' (first | ((fail_if_success (with_reducible show wpAny _ _ (eval (Expr.IfExp _ _ _ _) _) _ _ _)); (fail_if_success (with_reducible show wpAny _ _ (eval (Expr.ListComp _ _ _ _) _) _ _ _)); walk1) | ((fail_if_success (with_reducible show wpAny _ _ (eval (Expr.IfExp _ _ _ _) _) _ _ _)); (fail_if_success (with_reducible show wpAny _ _ (eval (Expr.ListComp _ _ _ _) _) _ _ _)); dsimp only; walk1) | fail "no step"))
  rename Fr _ _ _ _ => F1
  rename News _ _ _ _ => N1
  rename IntsAre _ _ => IS
  rename_i ns hsS _ _ _ _ la1 la2 lA vsS la3 hL ra w1 r0 hr hc1 hc2 K0 hD h1 tk1 o1 o2 left right X0
  have hLen := IS.length
  rename Frag.In _ _ => hKX
  rename Top _ _ _ _ _ _ => hTop
  refine join_int F1 N1 (ns.getD 0 0) ?_ ?_
  · k_steps
    all_goals rename Fr _ _ _ _ => F2
    all_goals rename News _ _ _ _ => N2
    all_goals refine joined F2 N2 (fun p hp => hp) ?_
    all_goals first | exact ⟨_, rfl⟩ | exact ⟨_, congrArg (Value.int · _) (getD_none (by omega))⟩
  generalize hd0_def : ns.getD 0 0 = hd0
  intro tkA hA kA FA NA
  clear F1 N1
  (repeat' (first | ((fail_if_success (with_reducible show wpAny _ _ (eval (Expr.IfExp _ _ _ _) _) _ _ _)); (fail_if_success (with_reducible show wpAny _ _ (eval (Expr.ListComp _ _ _ _) _) _ _ _)); walk1) | ((fail_if_success (with_reducible show wpAny _ _ (eval (Expr.IfExp _ _ _ _) _) _ _ _)); (fail_if_success (with_reducible show wpAny _ _ (eval (Expr.ListComp _ _ _ _) _) _ _ _)); dsimp only; walk1) | fail "no step"))
  rename Fr _ _ _ _ => F1
  rename News _ _ _ _ => N1
  refine join_int F1 N1 (ns.getD 1 0) ?_ ?_
  · k_steps
    all_goals rename Fr _ _ _ _ => F2
    all_goals rename News _ _ _ _ => N2
    all_goals refine joined F2 N2 (fun p hp => hp) ?_
    all_goals first | exact ⟨_, rfl⟩ | exact ⟨_, congrArg (Value.int · _) (getD_none (by omega))⟩
  generalize sz_def : ns.getD 1 0 = sz
  intro tkB hB kB FB NB
  clear F1 N1
  (repeat' (first | ((fail_if_success (with_reducible show wpAny _ _ (eval (Expr.IfExp _ _ _ _) _) _ _ _)); walk1) | ((fail_if_success (with_reducible show wpAny _ _ (eval (Expr.IfExp _ _ _ _) _) _ _ _)); dsimp only; walk1) | fail "no step"))
  rename Fr _ _ _ _ => F1
  rename News _ _ _ _ => N1
  rename IntsAre _ (List.map _ _) => IK
  have hK60 : (List.map (fun k' : Int => k'.fmod 256) (List.take (min 62 ns.length - 2) (List.drop 2 ns))).length ≤ 60 := by
    exact octs_60
  have hKL : KLw (List.map (fun k' : Int => k'.fmod 256) (List.take (min 62 ns.length - 2) (List.drop 2 ns))).length ns.length := octs_two
  have hKB := octs_ok (ns := ns) (n := min 62 ns.length - 2)
  generalize List.map (fun k' : Int => k'.fmod 256) (List.take (min 62 ns.length - 2) (List.drop 2 ns)) = ks at IK hK60 hKL hKB
  obtain ⟨cn, hcn, hc1, hc4⟩ := colors_nat hd0
  simp only [hcn] at F1
  obtain ⟨tkCol, F1'⟩ := tok_gen F1
  clear F1
  rename Fr _ _ _ _ => F1
  refine join_int F1 N1 (if (sz.fdiv 6).fmod 4 = 3 then 1 else 8) ?_ ?_
  · k_steps
    all_goals rename Fr _ _ _ _ => F2
    all_goals rename News _ _ _ _ => N2
    all_goals refine joined F2 N2 (fun p hp => hp) ?_
    all_goals first | exact ⟨_, congrArg (Value.int · _) (if_pos (by assumption)).symm⟩ | exact ⟨_, congrArg (Value.int · _) (if_neg (by assumption)).symm⟩
  obtain ⟨b, hbdef, hb18⟩ := bits_oneB sz
  have hbb := b_in hb18
  rw [hbdef]
  clear hbdef
  intro tkC hC kC FC NC
  clear F1 N1
  (repeat' (first | ((fail_if_success (with_reducible show wpAny _ _ (eval (Expr.IfExp _ _ _ _) _) _ _ _)); walk1) | ((fail_if_success (with_reducible show wpAny _ _ (eval (Expr.IfExp _ _ _ _) _) _ _ _)); dsimp only; walk1) | fail "no step"))
  rename Fr _ _ _ _ => F1
  rename News _ _ _ _ => N1
  refine join_int F1 N1 (if b = 1 then 8 + 8 * sz.fmod 2 else 1 + sz.fmod 6) ?_ ?_
  · k_steps
    all_goals rename Fr _ _ _ _ => F2
    all_goals rename News _ _ _ _ => N2
    all_goals refine joined F2 N2 (fun p hp => hp) ?_
    all_goals first | exact ⟨_, congrArg (Value.int · _) (if_pos (by assumption)).symm⟩ | exact ⟨_, congrArg (Value.int · _) (if_neg (by assumption)).symm⟩
  obtain ⟨kn, hkdef, hkn⟩ := cols_natB sz b hb18
  have hk16 := kn_16 hkn
  rw [hkdef]
  clear hkdef
  intro tkD hD' kD FD ND
  clear F1 N1
  (repeat' (first | ((fail_if_success (with_reducible show wpAny _ _ (eval (Expr.IfExp _ _ _ _) _) _ _ _)); walk1) | ((fail_if_success (with_reducible show wpAny _ _ (eval (Expr.IfExp _ _ _ _) _) _ _ _)); dsimp only; walk1) | fail "no step"))
  rename Fr _ _ _ _ => F1
  rename News _ _ _ _ => N1
  obtain ⟨ln, hln, hl1, hl24, hl8⟩ := length_natB cn kn b ⟨hc1, hc4⟩ hkn
  rename _ = Data.cell (some (Value.int _ _)) => dLen
  simp only [hln] at dLen
  refine join_int F1 N1 (if b = 8 then (cn : Int) else 1) ?_ ?_
  · k_steps
    all_goals rename Fr _ _ _ _ => F2
    all_goals rename News _ _ _ _ => N2
    all_goals refine joined F2 N2 (fun p hp => hp) ?_
    all_goals first | exact ⟨_, congrArg (Value.int · _) (if_pos (by assumption)).symm⟩ | exact ⟨_, congrArg (Value.int · _) (if_neg (by assumption)).symm⟩
  obtain ⟨sn, hsn, hs1, hs4, hs8⟩ := step_natB cn b ⟨hc1, hc4⟩
  rw [hsn]
  clear hsn
  intro tkE hE kE FE NE
  clear F1 N1
  (repeat' (first | ((fail_if_success (with_reducible show wpAny _ _ (exec (Stmt.Assign _ (Expr.ListComp _ _ _ _) _) _) _ _ _)); walk1) | ((fail_if_success (with_reducible show wpAny _ _ (exec (Stmt.Assign _ (Expr.ListComp _ _ _ _) _) _) _ _ _)); dsimp only; walk1) | fail "no step"))
  rename Fr _ _ _ _ => F1
  with_unfolding_all refine Assign_comp_step F1 (by rfl) (by with_unfolding_all rfl) (by with_unfolding_all rfl) (by decide) (by rfl) (by decide) (by rfl) (by rfl) (by rfl) ?_
  (repeat' (first | ((fail_if_success (with_reducible show SrcStep _ _ _ _ _ _ _ _ _ _ _ _ _ _)); walk1) | ((fail_if_success (with_reducible show SrcStep _ _ _ _ _ _ _ _ _ _ _ _ _ _)); dsimp only; walk1) | fail "no step"))
  rename Fr _ _ _ _ => F1
  rename News _ _ _ _ => N1
  rename IsRange _ _ _ _ _ _ _ _ => hR
  refine ⟨_, _, _, _, _, _, _, nRows ks.length ln, _, rfl, rfl, F1, N1, hR, range_small (by omega) (by omega) (by omega), range_rows (by omega), Nat.le_trans (rows_le hl1) (by rw [sizeLine_eq]; omega), ?_⟩
  rintro s₂ ⟨gh, rfl⟩
  refine rest_by (RowsJ ks ln _) ?_ ?_ _ _ _ _ (Nat.zero_add _) rows_zero
  · rintro i ys news hi ⟨RB, rfl, hRB⟩ v I oI C oC D m₂ h tk E' ⟨t, rfl⟩ hC hx F N off ne
    rw [show (0 : Int) + (i : Int) * (ln : Int) = ((i * ln : Nat) : Int) by simp] at hx
    simp only [List.cons_append, List.nil_append] at N off
    clear F1 N1
    k_steps
    rename Fr _ _ _ _ => Fn
    rename News _ _ _ _ => Nn
    rename IntsAre _ (List.take _ _) => In
    rename _ ∧ _ ∧ _ ∧ _ ∧ _ => ln
    exact rows_turn hRB off Fn Nn ln In
  · rintro rs news ⟨RB, rfl, hRB⟩
    intro rowsA h tk F N off
    simp only [List.cons_append, List.nil_append] at N
    clear F1 N1 hR off
    dsimp only
    (repeat' (first | ((fail_if_success (with_reducible show wpAny _ _ (exec (Stmt.For _ _ _ _ _) _) _ _ _)); walk1) | ((fail_if_success (with_reducible show wpAny _ _ (exec (Stmt.For _ _ _ _ _) _) _ _ _)); dsimp only; walk1) | fail "no step"))
    rename Fr _ _ _ _ => F1
    rename News _ _ _ _ => N1
    rename_i dA hx6 lx3 hx5 tkx1 stA hx4 lx2 hx3 tkx zA hx2 lx1 abA hx1 iab n1 s1 e1 e2 e3 lab hx0
    simp only [abv_zero ks ln] at iab
    clear s1 e1 e2 e3
    have kMark := kstMark
    (repeat' (first | ((fail_if_success (with_reducible show wpAny _ _ (call (Value.type _) _) _ _ _)); walk1) | ((fail_if_success (with_reducible show wpAny _ _ (call (Value.type _) _) _ _ _)); dsimp only; walk1) | fail "no step"))
    rename Fr _ _ _ _ => F2
    rename News _ _ _ _ => N2
    obtain ⟨rest, hrest, N3⟩ := led_loop N2
    have hStA := lx2.1
    have hStB := lab.2.1
    have hmR : (rowsA, LCg.lst rs) ∈ rest := by rw [hrest]; exact List.mem_cons_self
    with_unfolding_all refine turns_enumL (LawJ (kindL ns b cn) ks sn ln stA rest [(Str.ofString "starts", Value.ref stA), (Str.ofString "script", Value.ref lA), (Str.ofString "bits", Value.int b tkC), (Str.ofString "colors", Value.int cn tkCol), (Str.ofString "step", Value.int sn tkE), (Str.ofString "head", Value.int hd0 tkA), (Str.ofString "size", Value.int sz tkB), (Str.ofString "columns", Value.int kn tkD), (Str.ofString "rows", Value.ref rowsA)]) rfl F2 N3 (List.mem_cons_of_mem _ (List.mem_cons_of_mem _ (List.mem_cons_of_mem _ hmR))) rfl rfl (law_keep hmR) ?hj ?turn ?done
    case hj => exact law_start iab hStA hStB (by rfl) (by rfl) (by kst_all)
    case turn =>
      rintro i v T t m₁ nx h tk own hv hT ⟨Dd, vd, cd, al, va, ca, vst, cst, Iv, Ia, Ist, rfl, hdst, halst, hmd, hma, hp⟩ ho F N
      have hi : i < nRows ks.length ln := by
        rw [← hRB.1]; exact (List.getElem?_eq_some_iff.mp hv).1
      have hiN := turn_in hi (rows_le (len := ks.length) (S := ln) hl1) hKL
      obtain ⟨ra, vr, cr, hr1, hr2, hr3⟩ := hRB.2 i hi
      obtain rfl : Value.ref ra = v := Option.some.inj (hr1.symm.trans hv)
      replace F := fr_pairs (ps := (Str.ofString "data", Value.ref Dd) :: (Str.ofString "above", Value.ref al) :: [(Str.ofString "starts", Value.ref stA), (Str.ofString "script", Value.ref lA), (Str.ofString "bits", Value.int b tkC), (Str.ofString "colors", Value.int cn tkCol), (Str.ofString "step", Value.int sn tkE), (Str.ofString "head", Value.int hd0 tkA), (Str.ofString "size", Value.int sz tkB), (Str.ofString "columns", Value.int kn tkD), (Str.ofString "rows", Value.ref rowsA)]) F (fun p hp' => by
        rcases List.mem_cons.mp hp' with rfl | hp'
        · exact hmd
        · rcases List.mem_cons.mp hp' with rfl | hp'
          · exact hma
          · exact hp p hp')
      clear F2 N2 N3 hp
      (try clear F1); (try clear N1)
      (try dsimp only [kstB] at F)
      have ho1 := ho
      subst hrest
      simp only [List.map_cons, List.cons_append] at ho N
      have N4 := news_dup (p := (ra, W.listOf vr.toArray cr)) (by simp [hr2]) N
      clear N
      (repeat' (first | ((fail_if_success (with_reducible show wpAny _ _ (exec (Stmt.If _ _ _ _) _) _ _ _)); walk1) | ((fail_if_success (with_reducible show wpAny _ _ (exec (Stmt.If _ _ _ _) _) _ _ _)); dsimp only; walk1) | fail "no step"))
      rename Fr _ _ _ _ => F5
      rename News _ _ _ _ => N5
      with_unfolding_all refine wp_joinK F5 N5 (fun tk => (Str.ofString "kind", Value.int (kindL ns b cn i) tk) :: [(Str.ofString "k", Value.int i t), (Str.ofString "row", Value.ref ra), (Str.ofString "data", Value.ref Dd), (Str.ofString "above", Value.ref al), (Str.ofString "starts", Value.ref stA), (Str.ofString "script", Value.ref lA), (Str.ofString "bits", Value.int b tkC), (Str.ofString "colors", Value.int cn tkCol), (Str.ofString "step", Value.int sn tkE), (Str.ofString "head", Value.int hd0 tkA), (Str.ofString "size", Value.int sz tkB), (Str.ofString "columns", Value.int kn tkD), (Str.ofString "rows", Value.ref rowsA)]) ?_ ?_
      · k_steps
        all_goals rename Fr _ _ _ _ => Fn
        all_goals rename News _ _ _ _ => Nn
        all_goals first
          | simp only [kind_a (ns := ns) (j := i) (cn := cn) (show b = 1 by assumption)] at Fn
          | simp only [kind_b (ns := ns) (j := i) (cn := cn) (show ¬ b = 1 by assumption) (by omega) (by omega)] at Fn
          | simp only [kind_c (ns := ns) (j := i) (cn := cn) (show ¬ b = 1 by assumption) (by omega)] at Fn
        all_goals (with_unfolding_all exact joinedK Fn Nn (by rfl) (by kst_all))
      intro hB kB mB tkK FB NB
      clear F5 N5
      dsimp only [kstB] at FB
      have hltR := lx2.2.2.2.2.2.2
      have hraA : ra < stA := allLt_mem hltR _ hr2
      have hraN : ra ≠ stA := Nat.ne_of_lt hraA
      have hvst : vst.length = i := by rw [Ist.length]; simp [startsL]
      have hvdl := Iv.length
      have hvdL := turn_len (hvdl.trans (dataL_at (kd := kindL ns b cn) (sn := sn) hl1 hi)) hi (rows_le (len := ks.length) (S := ln) hl1) hK60 hl24
      have hvstz := small_lt' hvst hi (rows_le (len := ks.length) (S := ln) hl1) hK60
      (repeat' (first | ((fail_if_success (with_reducible show wpAny _ _ (call (Value.ref _) _) _ _ _)); walk1) | ((fail_if_success (with_reducible show wpAny _ _ (call (Value.ref _) _) _ _ _)); dsimp only; walk1) | fail "no step"))
      rename Fr _ _ _ _ => F6
      rename News _ _ _ _ => N6
      have hfull : (rowAt ks ln i).length ≤ (abv ks ln i).length := by rw [abv_len hi hl1]; exact rowAt_le ..
      have hrle := rowAt_le ks ln i
      have hale := abv_len (ks := ks) hi hl1
      with_unfolding_all refine filt_use K0 F6 hKX N6 hTop (by rfl) (by ktr_room) (by ktr_units) kind_in (by k_memK) (by k_memK) hr3 Ia (by omega) hfull (by omega) hs1 ?_
      intro fD fvs fc fh ftk If hfl hfn FF FN
      clear F6 N6
      rename IntsAre _ (dataL _ _ _ _ _ ++ [_]) => hI6
      have hI6l := hI6.length
      simp only [List.length_append, List.length_cons, List.length_nil, ← hvdl] at hI6l
      have hfz : fvs.length ≤ 24 := by omega
      k_steps
      rename Fr _ _ _ _ => F7
      rename News _ _ _ _ => N7
      rename IntsAre _ (dataL _ _ _ _ _ ++ [_] ++ _) => hI7
      rename_i D7 ws7 h7a l7 h7b h8
      with_unfolding_all refine tend_law (Dn := D7) F7 N7 (by k_memK) (by k_memK) (by k_memK) (by kst_anyIn) (by kst_anyIn) ?d6 hraN ?d7 ?d8 ho1 hI7 hr3 Ist ?d11 ?d12
      case d6 => exact Nat.ne_of_gt l7.2.2.2.2.2.1
      case d7 => simp [hr2]
      case d8 => k_all
      case d11 => rw [hvdl]
      case d12 => kst_all
    case done =>
      rintro m₁ nx h tk ⟨Dd, vd, cd, al, va, ca, vst, cst, Iv, Ia, Ist, rfl, hdst, halst, hmd, hma, hp⟩ F N
      rw [hRB.1] at Iv Ia Ist
      replace F := fr_pairs (ps := (Str.ofString "data", Value.ref Dd) :: [(Str.ofString "starts", Value.ref stA), (Str.ofString "script", Value.ref lA), (Str.ofString "bits", Value.int b tkC), (Str.ofString "colors", Value.int cn tkCol), (Str.ofString "step", Value.int sn tkE), (Str.ofString "head", Value.int hd0 tkA), (Str.ofString "size", Value.int sz tkB), (Str.ofString "columns", Value.int kn tkD), (Str.ofString "rows", Value.ref rowsA)]) F (fun p hp' => by
        rcases List.mem_cons.mp hp' with rfl | hp'
        · exact hmd
        · exact hp p hp')
      clear F2 N2 N3 hp hma
      (try clear F1); (try clear N1)
      (try dsimp only [kstB] at F)
      subst hrest
      dsimp only
      (repeat' (first | ((fail_if_success (with_reducible show wpAny _ _ (eval (Expr.IfExp _ _ _ _) _) _ _ _)); walk1) | ((fail_if_success (with_reducible show wpAny _ _ (eval (Expr.IfExp _ _ _ _) _) _ _ _)); dsimp only; walk1) | fail "no step"))
      rename Fr _ _ _ _ => F1
      rename News _ _ _ _ => N1
      refine wp_join F1 N1 (fun v => ∃ n tk, v = Value.int n tk) ?_ ?_
      · k_steps
        all_goals rename Fr _ _ _ _ => F2
        all_goals rename News _ _ _ _ => N2
        all_goals exact joined F2 N2 (fun p hp => hp) ⟨_, _, rfl⟩
      rintro _ hN kN ⟨nu, tkN, rfl⟩ FN NN
      clear F1 N1
      have hvst := Ist.length
      rw [show (startsL (kindL ns b cn) ks sn ln (nRows ks.length ln)).length = nRows ks.length ln by simp [startsL]] at hvst
      have hnz := rows_le (len := ks.length) (S := ln) hl1
      have hdl := dataL_all (kd := kindL ns b cn) (ks := ks) (sn := sn) hl1
      have hvdl := Iv.length
      have hdin := dataL_in (kindL_in ns b cn) ks sn ln (nRows ks.length ln)
      obtain ⟨bp, hbp⟩ := bp_nat (cn := cn) hb18
      have hvstz := small_eq (hvst.trans rfl) (Nat.le_trans hnz hK60)
      have hdz := small_of hdl hnz hK60
      have hkz := small_60 hK60
      have hKO := kinds_ok (ns := ns) (n := nRows ks.length ln) hc1 hc4 hkn hln hl8 hs8 hbp
      have hGood := good_dataL hl1 hs1 hKB hKO
      have hAll := pst_all hl1 hs1 hKB hKO
      have hnu0 := fmod_ge nu (b := 251) (by decide)
      have hnu1 := fmod_lt' nu (b := 251) (by decide)
      (repeat' (first | ((fail_if_success (with_reducible show wpAny _ _ (exec (Stmt.If _ _ _ _) _) _ _ _)); walk1) | ((fail_if_success (with_reducible show wpAny _ _ (exec (Stmt.If _ _ _ _) _) _ _ _)); dsimp only; walk1) | fail "no step"))
      rename Fr _ _ _ _ => F1
      rename News _ _ _ _ => N1
      with_unfolding_all refine wp_joinK F1 N1 (fun _ => (Str.ofString "number", Value.int nu tkN) :: (Str.ofString "data", Value.ref Dd) :: [(Str.ofString "starts", Value.ref stA), (Str.ofString "script", Value.ref lA), (Str.ofString "bits", Value.int b tkC), (Str.ofString "colors", Value.int cn tkCol), (Str.ofString "step", Value.int sn tkE), (Str.ofString "head", Value.int hd0 tkA), (Str.ofString "size", Value.int sz tkB), (Str.ofString "columns", Value.int kn tkD), (Str.ofString "rows", Value.ref rowsA)]) ?_ ?_
      · (repeat' (first | (k_here; (with_reducible show wpAny _ _ (compareOp CmpOp.NotEq (Value.ref _) (Value.ref _)) _ _ _); refine ne_nil_rows (by k_asm) (by k_memK) (by assumption) (by kst_anyIn) (by k_memK) (by units_room) ?_) | ((fail_if_success (with_reducible show wpAny _ _ (exec (Stmt.Assign [Expr.Subscript _ _ _] _ _) _) _ _ _)); walk1) | ((fail_if_success (with_reducible show wpAny _ _ (exec (Stmt.Assign [Expr.Subscript _ _ _] _ _) _) _ _ _)); dsimp only; walk1) | fail "no step"))
        all_goals first | (rename Fr _ _ _ _ => F2; rename News _ _ _ _ => N2; with_unfolding_all exact joinedN F2 N2 (by first | exact fun _ h => h | kst_anyIn) (by kst_all)) | skip
        have hnr0 : 0 < nRows ks.length ln := by omega
        have hm0 := fmod_ge sz (b := (vst.length : Int)) (by omega)
        have hm1 := fmod_lt' sz (b := (vst.length : Int)) (by omega)
        (repeat' (first | (k_here; (with_reducible show wpAny _ _ (setItem (Value.ref _) (Value.int _ _) (Value.int _ _)) _ _ _); (k_dflt (refine ksa_set (by k_asm) (by k_asm) (by k_upd) (by with_reducible assumption) (by omega) (by omega) (by omega) ?_; k_whole)); intro _ _ _ _ _ _; (try k_sweep)) | ((fail_if_success (with_reducible show wpAny _ _ (call (Value.ref _) _) _ _ _)); walk1) | ((fail_if_success (with_reducible show wpAny _ _ (call (Value.ref _) _) _ _ _)); dsimp only; walk1) | fail "no step"))
        rename Fr _ _ _ _ => F3
        rename News _ _ _ _ => N3
        rename bInts _ = _ => hbs
        rename _ < nRows _ _ => hi0
        rename _ * (ln + 1) < _ => hi1
        try simp only [Int.toNat_natCast] at hbs
        with_unfolding_all refine png_spoilt K0 F3 hKX N3 hTop (by rfl) (by ktr_room) (by ktr_units) hbs (five_le hnu0) hi0 hi1 hK60 hGood hc1 hc4 hk16.1 hk16.2 (Or.symm hb18) hln hbp hl1 hl24 ?_
        intro g9 e9 t9 vs9 h9 tk9 F9 R9 U9
        first
          | with_unfolding_all refine caught_X0 (KF := hd.heap_39 _) (bmB := [.type "ValueError", .type "Exception", .type "BaseException", .type "object"]) (newId := "Exception.__new__") K0 F9 U9 R9 hKX (by k_asm) (by k_is) (by k_exc) (by rfl) ?_
          | with_unfolding_all refine caught_X0 (KF := hd.heap_39 _) (bmB := [.type "ValueError", .type "Exception", .type "BaseException", .type "object"]) (newId := "ValueError.__new__") K0 F9 U9 R9 hKX (by k_asm) (by k_is) (by k_exc) (by rfl) ?_
        intro hcc Fcc Ncc
        have kMark2 := kMark
        k_steps
        all_goals trace_state
        all_goals rename Fr _ _ _ _ => F2
        all_goals rename News _ _ _ _ => N2
        all_goals with_unfolding_all exact joinedN F2 N2 (by first | exact fun _ h => h | kst_anyIn) (by kst_all)
      intro hX1 kX1 mX1 _ FX1 NX1
      clear F1 N1
      dsimp only [kstB] at FX1
      (repeat' (first | ((fail_if_success (with_reducible show wpAny _ _ (exec (Stmt.If _ _ _ _) _) _ _ _)); walk1) | ((fail_if_success (with_reducible show wpAny _ _ (exec (Stmt.If _ _ _ _) _) _ _ _)); dsimp only; walk1) | fail "no step"))
      rename Fr _ _ _ _ => F1
      rename News _ _ _ _ => N1
      with_unfolding_all refine wp_joinK F1 N1 (fun _ => (Str.ofString "number", Value.int nu tkN) :: (Str.ofString "data", Value.ref Dd) :: [(Str.ofString "starts", Value.ref stA), (Str.ofString "script", Value.ref lA), (Str.ofString "bits", Value.int b tkC), (Str.ofString "colors", Value.int cn tkCol), (Str.ofString "step", Value.int sn tkE), (Str.ofString "head", Value.int hd0 tkA), (Str.ofString "size", Value.int sz tkB), (Str.ofString "columns", Value.int kn tkD), (Str.ofString "rows", Value.ref rowsA)]) ?_ ?_
      · (repeat' (first | ((fail_if_success (with_reducible show wpAny _ _ (exec (Stmt.Assign [Expr.Name (Str.ofString "other") _] _ _) _) _ _ _)); walk1) | ((fail_if_success (with_reducible show wpAny _ _ (exec (Stmt.Assign [Expr.Name (Str.ofString "other") _] _ _) _) _ _ _)); dsimp only; walk1) | fail "no step"))
        all_goals first | (rename Fr _ _ _ _ => F2; rename News _ _ _ _ => N2; with_unfolding_all exact joinedN F2 N2 (by first | exact fun _ h => h | kst_anyIn) (by kst_all)) | skip
        have ho0 := fmod_ge nu (b := 40) (by decide)
        have ho1 := fmod_lt' nu (b := 40) (by decide)
        (repeat' (first | ((fail_if_success (with_reducible show wpAny _ _ (exec (Stmt.If _ _ _ _) _) _ _ _)); walk1) | ((fail_if_success (with_reducible show wpAny _ _ (exec (Stmt.If _ _ _ _) _) _ _ _)); dsimp only; walk1) | fail "no step"))
        rename Fr _ _ _ _ => F2
        rename News _ _ _ _ => N2
        with_unfolding_all refine wp_joinI F2 N2 (fun n => n ≠ 8 ∧ n ≠ 1 ∧ -100 ≤ n ∧ n ≤ 100) (fun n tk => (Str.ofString "other", Value.int n tk) :: (Str.ofString "number", Value.int nu tkN) :: (Str.ofString "data", Value.ref Dd) :: [(Str.ofString "starts", Value.ref stA), (Str.ofString "script", Value.ref lA), (Str.ofString "bits", Value.int b tkC), (Str.ofString "colors", Value.int cn tkCol), (Str.ofString "step", Value.int sn tkE), (Str.ofString "head", Value.int hd0 tkA), (Str.ofString "size", Value.int sz tkB), (Str.ofString "columns", Value.int kn tkD), (Str.ofString "rows", Value.ref rowsA)]) ?_ ?_
        · (repeat' (first | (k_here; (with_reducible show wpAny _ _ (compareOp CmpOp.In (Value.int _ _) (Value.ref _)) _ _ _); (rename News _ _ _ _ => nN); (with_unfolding_all refine in_pair nN (by rfl) (by rfl) ?_ ?_); (all_goals intros)) | walk1 | (dsimp only; walk1) | fail "no step"))
          all_goals rename Fr _ _ _ _ => Fn
          all_goals rename News _ _ _ _ => Nn
          all_goals (with_unfolding_all refine' joinedI Fn Nn ?ia ?ib ?ic ?id; (case ic => rfl); (case ia => first | exact fun _ h => h | kst_anyIn); (case ib => refine ⟨?_, ?_, ?_, ?_⟩ <;> omega); (case id => kst_all))
        intro hO kO mO ot tkO hot FO NO
        obtain ⟨hot8, hot1, hotl, hoth⟩ := hot
        clear F2 N2
        dsimp only [kstB] at FO
        (repeat' (first | ((fail_if_success (with_reducible show wpAny _ _ (call (Value.ref _) _) _ _ _)); walk1) | ((fail_if_success (with_reducible show wpAny _ _ (call (Value.ref _) _) _ _ _)); dsimp only; walk1) | fail "no step"))
        rename Fr _ _ _ _ => F3
        rename News _ _ _ _ => N3
        with_unfolding_all refine png_refused K0 F3 hKX N3 hTop (by rfl) (by ktr_room) (by ktr_units) hot8 hot1 hotl hoth ?_
        intro g9 e9 t9 vs9 h9 tk9 F9 R9 U9
        (try clear F3); (try clear N3)
        first
          | with_unfolding_all refine caught_X0 (KF := hd.heap_39 _) (bmB := [.type "ValueError", .type "Exception", .type "BaseException", .type "object"]) (newId := "Exception.__new__") K0 F9 U9 R9 hKX (by k_asm) (by k_is) (by k_exc) (by rfl) ?_
          | with_unfolding_all refine caught_X0 (KF := hd.heap_39 _) (bmB := [.type "ValueError", .type "Exception", .type "BaseException", .type "object"]) (newId := "ValueError.__new__") K0 F9 U9 R9 hKX (by k_asm) (by k_is) (by k_exc) (by rfl) ?_
        intro hcc Fcc Ncc
        clear F9 R9 U9
        (repeat' (first | ((fail_if_success (with_reducible show wpAny _ _ (call (Value.ref _) _) _ _ _)); walk1) | ((fail_if_success (with_reducible show wpAny _ _ (call (Value.ref _) _) _ _ _)); dsimp only; walk1) | fail "no step"))
        all_goals rename Fr _ _ _ _ => F4
        all_goals rename News _ _ _ _ => N4
        all_goals with_unfolding_all refine tiff_refused K0 F4 hKX N4 hTop (by rfl) (by ktr_room) (by ktr_units) (by omega) (by omega) (by omega) ?_
        all_goals intro g8 e8 t8 vs8 h8 tk8 F8 R8 U8
        all_goals first
          | with_unfolding_all refine caught_X0 (KF := hd.heap_39 _) (bmB := [.type "ValueError", .type "Exception", .type "BaseException", .type "object"]) (newId := "Exception.__new__") K0 F8 U8 R8 hKX (by k_asm) (by k_is) (by k_exc) (by rfl) ?_
          | with_unfolding_all refine caught_X0 (KF := hd.heap_39 _) (bmB := [.type "ValueError", .type "Exception", .type "BaseException", .type "object"]) (newId := "ValueError.__new__") K0 F8 U8 R8 hKX (by k_asm) (by k_is) (by k_exc) (by rfl) ?_
        all_goals intro hcd Fcd Ncd
        all_goals k_steps
        all_goals rename Fr _ _ _ _ => F2
        all_goals rename News _ _ _ _ => N2
        all_goals with_unfolding_all exact joinedN F2 N2 (by first | exact fun _ h => h | kst_anyIn) (by kst_all)
      intro hX2 kX2 mX2 _ FX2 NX2
      clear F1 N1
      dsimp only [kstB] at FX2
      (repeat' (first | ((fail_if_success (with_reducible show wpAny _ _ (call (Value.ref _) _) _ _ _)); walk1) | ((fail_if_success (with_reducible show wpAny _ _ (call (Value.ref _) _) _ _ _)); dsimp only; walk1) | fail "no step"))
      rename Fr _ _ _ _ => F3
      rename News _ _ _ _ => N3
      rename bInts _ = _ => hbs
      with_unfolding_all refine png_whole K0 F3 hKX N3 hTop (by rfl) (by ktr_room) (by ktr_units) hbs hK60 hGood (kind_lt ns b cn) hAll hc1 hc4 hk16.1 hk16.2 (Or.symm hb18) hln hbp hl1 hl24 ?_
      intro gbs gt gh gk hgk FG NG
      clear F3 N3
      have NG2 := led_end NG
      clear NG
      obtain ⟨S2, hS2⟩ : ∃ S2 : Nat, S2 = cn * kn := ⟨_, rfl⟩
      have hSL : (cn : Int) * (kn : Int) = (S2 : Int) := by rw [hS2]; exact (Int.natCast_mul ..).symm
      have hS0 : 0 < S2 := by rw [hS2]; exact Nat.mul_pos hc1 hk16.1
      have hS64 : S2 ≤ 64 := by rw [hS2]; exact Nat.mul_le_mul hc4 hk16.2
      (repeat' (first | (k_here; (with_reducible show wpAny _ _ (compareOp CmpOp.NotEq (Value.bytes _ _) (Value.bytes _ _)) _ _ _); refine ne_bytes_same (by assumption) (by assumption) ?_) | ((fail_if_success (with_reducible show wpAny _ _ (exec (Stmt.Assign [Expr.Name (Str.ofString "whole") _] _ _) _) _ _ _)); walk1) | ((fail_if_success (with_reducible show wpAny _ _ (exec (Stmt.Assign [Expr.Name (Str.ofString "whole") _] _ _) _) _ _ _)); dsimp only; walk1) | fail "no step"))
      rename _ = Data.cell (some (Value.int (_ * _) _)) => dL2
      simp only [hSL] at dL2
      have hq0 : (ks.length : Int).fdiv (S2 : Int) * (S2 : Int) = ((ks.length / S2 * S2 : Nat) : Int) := by
        rw [Int.fdiv_eq_ediv_of_nonneg _ (Int.natCast_nonneg S2)]; simp
      have hq1 : 0 ≤ (ks.length : Int).fdiv (S2 : Int) * (S2 : Int) := by rw [hq0]; exact Int.natCast_nonneg _
      (repeat' (first | ((fail_if_success (with_reducible show wpAny _ _ (exec (Stmt.For _ _ _ _ _) _) _ _ _)); walk1) | ((fail_if_success (with_reducible show wpAny _ _ (exec (Stmt.For _ _ _ _ _) _) _ _ _)); dsimp only; walk1) | fail "no step"))
      all_goals first | exact absurd (by assumption) (Int.not_lt.mpr hq1) | exact absurd hq1 (by assumption) | (exfalso; omega) | skip
      rename Fr _ _ _ _ => F5
      rename News _ _ _ _ => N5
      rename IntsAre _ (List.take _ _) => IW
      rw [hq0, Int.toNat_natCast] at IW
      have hwl0 := whole_len (ks := ks) (S := S2) rfl
      have hwin : ∀ x ∈ ks.take (ks.length / S2 * S2), 0 ≤ x ∧ x < 256 := fun x hx => hKB x (List.mem_of_mem_take hx)
      have hw60 : (ks.take (ks.length / S2 * S2)).length ≤ 60 := take_60 hK60
      generalize ks.take (ks.length / S2 * S2) = ws at IW hwl0 hwin hw60
      rename_i Dw wsw hw3 hwC hwL lw hw2 tkw fl hw1 lfl hw0
      have hwl := IW.length
      have kMark := kstMark
      clear hq0 hq1
      k_steps
      rename IsRange _ _ _ _ _ _ _ _ => hR
      rename Fr _ _ _ _ => F6
      rename News _ _ _ _ => N6
      obtain ⟨rst, hrst, N7⟩ := led_one N6
      with_unfolding_all refine turns_range (n := ws.length) (FlatJ ws cn S2 fl rst [(Str.ofString "flat", Value.ref fl), (Str.ofString "whole", Value.ref Dw), (Str.ofString "colors", Value.int cn tkCol), (Str.ofString "columns", Value.int kn tkD)]) (by rfl) hR (small_to _ (by omega)) (range_one _) F6 N7 ?hj2 ?turn2 ?done2
      case hj2 => exact ⟨[], 0, .nil, rfl, rfl, by kst_all⟩
      case turn2 =>
        rintro j t m₁ nx h tk own hj ⟨vs, c, Iv, hvl, rfl, hp⟩ ho F N
        replace F := fr_pairs F hp
        clear F6 N6 N7 hp hR
        (try clear F5); (try clear N5)
        (try dsimp only [kstB] at F)
        subst hrst
        have ho1 := ho
        simp only [List.map_cons, List.cons_append] at ho N
        have e2 : ((0 : Int) + (j : Int) * 1) = (j : Int) := by omega
        rw [e2]
        have hfm := fmod_le_nat j S2
        have hjw := cast_lt hwl hj
        have hvz := small_lt hvl hj hw60
        have hwz := small_eq hwl hw60
        (repeat' (first | ((fail_if_success (with_reducible show wpAny _ _ (eval (Expr.IfExp _ _ _ _) _) _ _ _)); walk1) | ((fail_if_success (with_reducible show wpAny _ _ (eval (Expr.IfExp _ _ _ _) _) _ _ _)); dsimp only; walk1) | fail "no step"))
        rename Fr _ _ _ _ => Fa
        rename News _ _ _ _ => Na
        refine join_int Fa Na (if (cn : Int) ≤ ((j : Int)).fmod (S2 : Int) then ws.getD (j - cn) 0 else 0) ?_ ?_
        · k_steps
          all_goals rename Fr _ _ _ _ => F2
          all_goals rename News _ _ _ _ => N2
          all_goals refine joined F2 N2 (fun p hp => hp) ?_
          all_goals first | exact ⟨_, congrArg (Value.int · _) (iz_hi (by omega))⟩ | exact ⟨_, congrArg (Value.int · _) (iz_lo (by omega))⟩
        intro tkZ hZ kZ FZ NZ
        clear Fa Na
        k_steps
        rename Fr _ _ _ _ => Fn
        rename News _ _ _ _ => Nn
        with_unfolding_all refine' tend_flat Fn Nn ?ka ?kb ?kc ho1 Iv ?kd hvl ?ke
        (case ka => k_memK)
        (case kb => kst_anyIn)
        (case kc => kst_anyIn)
        (case kd => exact iz_pix ..)
        (case ke => kst_all)
      case done2 =>
        rintro m₁ nx h tk ⟨vs, c, Iv, hvl, rfl, hp⟩ F N
        replace F := fr_pairs F hp
        clear F6 N6 N7 hp hR
        (try clear F5); (try clear N5)
        (try dsimp only [kstB] at F)
        subst hrst
        have hfin := flatL_in ws cn S2 ws.length
        have hfll := flatL_len ws cn S2 ws.length
        have hfz := small_eq hfll hw60
        have hwz := small_60 hw60
        dsimp only
        (repeat' (first | ((fail_if_success (with_reducible show wpAny _ _ (call (Value.ref _) _) _ _ _)); walk1) | ((fail_if_success (with_reducible show wpAny _ _ (call (Value.ref _) _) _ _ _)); dsimp only; walk1) | fail "no step"))
        rename Fr _ _ _ _ => F8
        rename News _ _ _ _ => N8
        rename bInts _ = flatL _ _ _ _ => hbf
        rw [hS2] at hbf
        with_unfolding_all refine tiff_whole (q := ks.length / S2) K0 F8 hKX N8 hTop (by rfl) (by ktr_room) (by ktr_units) hbf hw60 hwin (by rw [hwl0, ← hS2]) hc1 hc4 hk16.1 hk16.2 ?_
        intro tbs tt th tk9 htk FT NT
        clear F8 N8
        (repeat' (first | (k_here; (with_reducible show wpAny _ _ (compareOp CmpOp.Eq (Value.bytes _ _) (Value.bytes _ _)) _ _ _); refine eq_bytes_same (by assumption) (by assumption) ?_) | walk1 | (dsimp only; walk1) | fail "no step"))
        rename Fr _ _ _ _ => FE
        with_unfolding_all exact law_good FE (by assumption) rfl
end Mine
end
theorem PySem.Challenge.cw_lc0008_01_holds : PySem.Challenge.rw_lc0008_01.Holds := by
  exact Mine.whole
