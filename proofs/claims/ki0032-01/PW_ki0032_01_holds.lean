import PyProof.Rows.All
import Wide.All
import OpenK.AllK
import Wide.FinOn
import PySem.Challenge.RW_ki0032_01
open PySem PySem.W PyProof.Rows
set_option Elab.async false

/-! the head: the run of the text up to the call -/
namespace Mine
set_option maxRecDepth 100000
set_option maxHeartbeats 8000000
open_top hd for PySem.Challenge.rw_ki0032_01
end Mine

section Map1Part
open PySem PySem.W PyProof.Rows PySem.Calls
set_option maxRecDepth 100000
namespace Mine
/-! facts about the type map -/
theorem lookup_map_new : typeLookup (.type "map") "__new__" = pure (some (.builtin "map.__new__")) := by rw [typeLookup_type, builtinLookup_eq_fast]; kernel_rfl
theorem mro_map : mroOf (.type "map") = pure [.type "map", .type "object"] := by rw [mroOf_type]; kernel_rfl
theorem slot_map_init : Slot "map" "__init__" "object.__init__" :=
  .of (owner := "object") (n := "__init__") (by rw [typeLookup_type, builtinLookup_eq_fast]; kernel_rfl) (by decide +kernel) (by decide +kernel) (by decide +kernel)
    (by first | exact .inl (by decide +kernel) | exact .inr (by decide +kernel)) (by rw [isSubtype_type]; kernel_rfl)
theorem slot_map_iter : Slot "map" "__iter__" "map.__iter__" :=
  .of (owner := "map") (n := "__iter__") (by rw [typeLookup_type, builtinLookup_eq_fast]; kernel_rfl) (by decide +kernel) (by decide +kernel) (by decide +kernel)
    (by first | exact .inl (by decide +kernel) | exact .inr (by decide +kernel)) (by rw [isSubtype_type]; kernel_rfl)
theorem slot_map_next : Slot "map" "__next__" "map.__next__" :=
  .of (owner := "map") (n := "__next__") (by rw [typeLookup_type, builtinLookup_eq_fast]; kernel_rfl) (by decide +kernel) (by decide +kernel) (by decide +kernel)
    (by first | exact .inl (by decide +kernel) | exact .inr (by decide +kernel)) (by rw [isSubtype_type]; kernel_rfl)
theorem owner_map : Manifest.owners.lookup (String.ofList ['p', 'a', 'm'].reverse) = some Manifest.sig_map := by kernel_rfl
theorem args_map_iter (a : Value) : argsOk "map.__iter__" ⟨[a], []⟩ := by
  unfold argsOk; rw [signature?_of (id := "map.__iter__") (n := ['_', '_', 'r', 'e', 't', 'i', '_', '_']) (o := ['p', 'a', 'm']) (by kernel_rfl) owner_map]; kernel_rfl
theorem args_map_next (a : Value) : argsOk "map.__next__" ⟨[a], []⟩ := by
  unfold argsOk; rw [signature?_of (id := "map.__next__") (n := ['_', '_', 't', 'x', 'e', 'n', '_', '_']) (o := ['p', 'a', 'm']) (by kernel_rfl) owner_map]; kernel_rfl
theorem called_map : TypeCalled "map" "map.__new__" "object.__init__" :=
  ⟨by decide +kernel, by decide +kernel, ⟨_, _, mro_map⟩, madeBy_type mro_map lookup_map_new (by decide +kernel), by decide +kernel, by rw [isSubtype_type]; kernel_rfl, slot_map_init⟩
theorem typeCall_map (a b : Value) : checkTypeCall "map" ⟨[a, b], []⟩ = pure () := by kernel_rfl
theorem newCall_map (a b : Value) : checkBuiltinCall "map.__new__" ⟨[.type "map", a, b], []⟩ = pure () := by kernel_rfl
theorem entry_map_new : entryFor table "map.__new__" = some Builtin.«map.__new__» := entryFor_of_tree (by kernel_rfl)
theorem entry_map_next : entryFor table "map.__next__" = some Builtin.«map.__next__» := entryFor_of_tree (by kernel_rfl)
theorem entry_map_iter : entryFor table "map.__iter__" = some Builtin.«dict_keyiterator.__iter__» :=
  entryFor_alias (id' := "dict_keyiterator.__iter__") (by kernel_rfl) (by first | rfl | decide +kernel | (unfold String.splitOn; simp +decide [String.splitOnAux])) (by decide +kernel) (by kernel_rfl)
theorem sub_map : isSubtype (.type "map") (.type "map") = pure true := by rw [isSubtype_type]; kernel_rfl

abbrev IsMap (h : Heap) (z TI : Addr) (f : Value) : Prop := h.get? z = some { cls := .type "map", dict := none, data := .fields #[.ref TI, f], slots := #[] }
abbrev IsOne (h : Heap) (T : Addr) (a : Value) : Prop := h.get? T = some { cls := .type "tuple", data := .seq #[a] }
abbrev mapH1 (h : Heap) (l : Addr) : Heap := h.push { cls := .type "list_iterator", data := .fields #[.ref l, .int 0 0] }
abbrev mapH2 (h : Heap) (l : Addr) : Heap := (mapH1 h l).push { cls := .type "tuple", data := .seq #[.ref h.objs.size] }
abbrev mapH3 (h : Heap) (l : Addr) (f : Value) : Heap := (mapH2 h l).push { cls := .type "map", data := .fields #[.ref (mapH1 h l).objs.size, f] }

theorem meets_map_new (l : Addr) (f : Value) (xs : Array Value) :
    Meets (Builtin.«map.__new__» ⟨[.type "map", f, .ref l], []⟩) (fun _ R s => s.heap.IsList l xs ∧
      R (.ok (.ret (.ref (mapH2 s.heap l).objs.size))) { s with heap := mapH3 s.heap l f }) :=
  .of_wp fun prog w A R s h => by
    obtain ⟨hp, g, d, tk, os⟩ := s; obtain ⟨hl1, h⟩ := h
    have hsub := sub_map
    have hL1 : Heap.IsList (Shared.heap ⟨hp, g, d, tk, os⟩) l xs := hl1
    wp_walk using wpAny_pyIter_list hL1
    exact ⟨_, rfl, h⟩

section
variable {prog : Program} {w : World} {A : Around} {E : Value → Shared → Prop} {s : Shared}
theorem call_map {l : Addr} {f : Value} {xs : Array Value} {Q : Value → Shared → Prop} (hl : s.heap.IsList l xs)
    (h : ∀ h', IsMap h' (s.heap.objs.size + 2) (s.heap.objs.size + 1) f → IsOne h' (s.heap.objs.size + 1) (.ref s.heap.objs.size) → h'.IsListIter s.heap.objs.size l 0 → h'.objs.size = s.heap.objs.size + 3 →
      (∀ c o, s.heap.get? c = some o → h'.get? c = some o) → Q (.ref (s.heap.objs.size + 2)) { s with heap := h' }) :
    wpAny (model prog w) A (call (.type "map") [f, .ref l]) Q E s := by
  refine callType_new called_map (by decide) (typeCall_map _ _) (newCall_map _ _) (fun obj => F.args_object_init_3 obj _ _) entry_map_new
    (meets_map_new l f xs) ⟨hl, ?_⟩
  have z1 : (mapH1 s.heap l).objs.size = s.heap.objs.size + 1 := Heap.size_push ..
  have z2 : (mapH2 s.heap l).objs.size = s.heap.objs.size + 2 := by rw [Heap.size_push, z1]
  have z3 : (mapH3 s.heap l f).objs.size = s.heap.objs.size + 3 := by rw [Heap.size_push, z2]
  have g3 : (mapH3 s.heap l f).get? (mapH2 s.heap l).objs.size = some _ := Heap.get?_push_size _ rfl
  have g2 : (mapH3 s.heap l f).get? (mapH1 s.heap l).objs.size = some _ := Heap.get?_push_of_some _ (Heap.get?_push_size _ rfl)
  have g1 : (mapH3 s.heap l f).get? s.heap.objs.size = some _ := Heap.get?_push_of_some _ (Heap.get?_push_of_some _ (Heap.get?_push_size _ rfl))
  show _ ∧ _
  rw [z1, z2] at g3
  rw [z1] at g2
  rw [z2]
  exact ⟨⟨_, g3, rfl⟩, h _ g3 g2 ⟨_, g1, rfl, rfl⟩ z3 fun c o x =>
    Heap.get?_push_of_some _ (Heap.get?_push_of_some _ (Heap.get?_push_of_some _ x))⟩
theorem pyIter_map {z TI : Addr} {f : Value} {Q : Value → Shared → Prop} (hz : IsMap s.heap z TI f) (h : Q (.ref z) s) : wpAny (model prog w) A (pyIter (.ref z)) Q E s := by
  have hT : s.TypeIs (.ref z) "map" := ⟨_, hz, rfl⟩
  refine wpAny_pyIter_slot hT slot_map_iter (wpAny_call_entry slot_map_iter hT entry_map_iter ?_ (args_map_iter _))
  show wpAny _ _ (ret (.ref z)) _ _ s
  exact wpAny_pure ⟨_, rfl, "map", _, hT, slot_map_next.lookup, h⟩
end
end Mine
end Map1Part

section Map2Part
open PySem PySem.W PyProof.Rows PySem.Calls PySem.NumText
set_option maxRecDepth 100000
namespace Mine
/-! int(text) of a text that is no number, called by a built-in -/
theorem special_none {x : Str} {u : Tok} {n : Str} (h : typeLookup (.type "str") n = pure none) : specialOf (.str x u) n = pure none := by
  unfold specialOf
  show (typeOf (.str x u) >>= _) = _
  rw [show typeOf (.str x u) = pure (.type "str") from rfl, pure_bind]
  exact h
theorem callSpecial_none {x : Str} {u : Tok} {n : Str} (h : typeLookup (.type "str") n = pure none) : callSpecial? (.str x u) n = pure none := by
  unfold callSpecial?
  rw [special_none h]
  rfl
theorem int_obj_eq (x : Str) (u : Tok) : (int_private% "intFromObject") (.str x u) = (int_private% "intFromText") (.str x u) (numTextOf x) 10 := by
  change (callSpecial? (Value.str x u) (Str.ofString "__int__") >>= _) = _
  rw [callSpecial_none KIN.str_int, pure_bind]
  change (specialOf (Value.str x u) (Str.ofString "__index__") >>= _) = _
  rw [special_none KIN.str_idx, pure_bind]
  change (specialOf (Value.str x u) (Str.ofString "__trunc__") >>= _) = _
  rw [special_none KIN.str_trunc, pure_bind]
  rfl
theorem int_new_eq (x : Str) (u : Tok) : Builtin.«int.__new__» ⟨[.type "int", .str x u], []⟩ = (int_private% "intFromText") (.str x u) (numTextOf x) 10 >>= ret := by
  have f1 := F.conv_sub_int
  have f2 := F.madeHere_int
  have f0 : isType (.type "int") = pure true := rfl
  unfold Builtin.«int.__new__»
  dsimp only
  rw [f0]
  simp only [pure_bind, f1, f2, Bool.not_true, Bool.false_eq_true, if_false]
  change ((int_private% "intFromObject") (.str x u) >>= _) = _
  rw [int_obj_eq]
  rfl
theorem type_call_eq (x : Str) (u : Tok) : ∃ k, Builtin.«type.__call__» ⟨[.type "int", .str x u], []⟩ = (call (.builtin "int.__new__") [.type "int", .str x u] >>= k) := by
  have h1 := F.called_int.canCreate
  have h2 := F.typeCall_int_1 (.str x u)
  have h3 := F.mro_int
  have h4 := F.called_int.made
  have h0 := F.called_int.notType
  unfold Builtin.«type.__call__»
  dsimp only
  rw [h0, h1]
  simp only [h2, h3, h4, pure_bind, Bool.false_eq_true, if_false, List.isEmpty_cons]
  exact ⟨_, rfl⟩

/-- no Python code has made the call: a built-in stands between -/
def Bad (l : List (Code × Pos)) : Prop := pythonCodeMadeTheCall ["int.__new__"] (l.map (·.1)) = false
theorem bad_cons {c : Code} {p : Pos} {l : List (Code × Pos)} (hc : c.env? = none) (h : Bad l) : Bad ((c, p) :: l) := by
  unfold Bad pythonCodeMadeTheCall at *
  rw [List.map_cons, List.any_cons, List.any_cons, List.takeWhile_cons]
  simp only [hc, Option.isSome_none, Option.isNone_none, Bool.false_or, if_true, List.all_cons]
  revert h
  generalize (List.any (l.map (·.1)) fun c => match c with | .builtin "claim.caller" _ => true | _ => false) = b1
  generalize (List.any (l.map (·.1)) fun c => c.env?.isSome) = b2
  generalize (List.takeWhile _ (l.map (·.1))).all _ = b3
  generalize (match c with | .builtin "claim.caller" _ => true | _ => false) = b4
  cases b1 <;> cases b2 <;> cases b3 <;> cases b4 <;> simp
theorem bad_map {args : Args} {p : Pos} {l : List (Code × Pos)} : Bad ((.builtin "map.__next__" args, p) :: l) := by
  unfold Bad pythonCodeMadeTheCall
  rw [List.map_cons, List.takeWhile_cons]
  have e : (Code.builtin "map.__next__" args).env?.isNone = true := rfl
  simp only [e, if_true, List.all_cons]
  have a1 : (["int.__new__"] : List String).contains "map.__next__" = false := by decide
  have a2 : ("map.__next__" == "type.__call__") = false := by decide
  rw [a1, a2, Bool.false_and, Bool.false_or, Bool.false_and, Bool.and_false]

section
variable {α β : Type} {M : Model} {A : Around} {E : Value → Shared → Prop} {s : Shared} {c : Code}
def wpB {α : Type} (M : Model) (A : Around) (c : Code) (t : Sem α) (Q : α → Shared → Prop) (E : Value → Shared → Prop) (s : Shared) : Prop :=
  ∀ Γ p, Γ.code = c → Γ.Below A → Bad Γ.below → Sem.wp M Γ t (fun a _ s' => Q a s') (fun e _ s' => E e s') p s
def codeB (M : Model) (A : Around) (c : Code) (R : Result → Shared → Prop) (s : Shared) : Prop :=
  ∀ Γ p, Γ.code = c → Γ.Below A → Bad Γ.below → wpCode M Γ R p s
theorem wpB_of {t : Sem α} {Q : α → Shared → Prop} (h : wpAny M (A.under c) t Q E s) : wpB M A c t Q E s := fun Γ p hc hΓ _ => h Γ p (hc ▸ hΓ.in)
theorem wpB_bind {m : Sem α} {f : α → Sem β} {Q : β → Shared → Prop} (h : wpB M A c m (fun a s' => wpB M A c (f a) Q E s') E s) : wpB M A c (m >>= f) Q E s :=
  fun Γ p hc hΓ hB => by
    rw [Sem.wp_bind']
    exact Sem.wp_mono M Γ m (fun a p' s' h' => h' Γ p' hc hΓ hB) (fun _ _ _ h' => h') p s (h Γ p hc hΓ hB)
theorem wpB_call (he : c.env? = none) {f : Value} {pos : List Value} {Q : Value → Shared → Prop}
    (h : codeB M (A.under c) (.call f ⟨pos, []⟩) (fun r s' => match r with | .ok (.ret v) => Q v s' | .ok _ => False | .error e => E e s') s) : wpB M A c (call f pos) Q E s :=
  fun Γ p hc hΓ hB => by
    unfold call
    rw [Sem.wp_runValue]
    have hin : Γ.In (A.under c) := hc ▸ hΓ.in
    refine h _ p rfl (hin.enter _ none p (by intro x; cases x)) ?_
    show Bad ((Γ.code, p) :: Γ.below)
    exact bad_cons (hc ▸ he) hB
theorem codeB_of {R : Result → Shared → Prop} (h : wpB M A c (M.den c) (fun fin s' => match fin with | .done f => R (.ok f) s' | .again c' => c'.quiet = true ∧ codeB M A c' R s') (fun e s' => R (.error e) s') s) :
    codeB M A c R s := fun Γ p hc hΓ hB => by
  rw [wpCode_iff_wp, hc]
  refine Sem.wp_mono M Γ _ (fun fin p' s' h' => ?_) (fun _ _ _ h' => h') p s (h Γ p hc hΓ hB)
  cases fin with
  | done f => exact h'
  | again c' => exact ⟨h'.1, h'.2 (Γ.goto c') p' rfl (hΓ.goto c') hB⟩
theorem wpB_mark (he : c.env? = none) {e : Value} {Q : Unit → Shared → Prop} (h : Q () s) : wpB M A c (markTheRefusal ["int.__new__"] e) Q E s := fun Γ p hc hΓ hB => by
  unfold markTheRefusal
  show Sem.wp M Γ (stack >>= _) _ _ p s
  rw [Sem.wp_bind']
  show Sem.wp M Γ (if pythonCodeMadeTheCall ["int.__new__"] (((Γ.code, p) :: Γ.below).map (·.1)) = true then _ else _) _ _ p s
  have e : pythonCodeMadeTheCall ["int.__new__"] (((Γ.code, p) :: Γ.below).map (·.1)) = false := bad_cons (p := p) (hc ▸ he) hB
  rw [e]
  exact h
/-- a call out of map's next -/
theorem wpOwn_map_call {args : Args} {f : Value} {pos : List Value} {Q : Value → Shared → Prop}
    (h : codeB M (A.under (.builtin "map.__next__" args)) (.call f ⟨pos, []⟩) (fun r s' => match r with | .ok (.ret v) => Q v s' | .ok _ => False | .error e => E e s') s) :
    wpOwn M A (.builtin "map.__next__" args) (call f pos) Q E s := fun Γ p hc hΓ => by
  unfold call
  rw [Sem.wp_runValue]
  have hin : Γ.In (A.under (.builtin "map.__next__" args)) := hc ▸ hΓ.in
  refine h _ p rfl (hin.enter _ none p (by intro x; cases x)) ?_
  show Bad ((Γ.code, p) :: Γ.below)
  rw [hc]
  exact bad_map
end

theorem wpAny_newExcV {M : Model} {A : Around} {E : Value → Shared → Prop} {s : Shared} {v : Value} {Q : Value → Shared → Prop}
    (h : ∀ h' e, Heap.NewExc s.heap h' e "ValueError" → Q (.ref e) { s with heap := h' }) : wpAny M A (newExc (.type "ValueError") [v]) Q E s := by
  unfold newExc newTuple
  refine wpAny_bind (wpAny_newObj_type ?_)
  refine wpAny_bind (m := firstArgMember _ _) (wpAny_of_eq (a := Value.none) (by simp only [firstArgMember, plainExc_ValueError.first]; rfl) ?_)
  rw [plainExc_ValueError.own]
  refine wpAny_newObj_type ?_
  exact h _ _ ⟨fun b o hb => Heap.get?_push_of_some _ (Heap.get?_push_of_some _ hb), Heap.get?_none_of_le (by simp), _, .ref s.heap.objs.size, Heap.get?_push_size _ rfl, rfl, by simp⟩

theorem wpB_refuse {prog : Program} {w : World} {A : Around} {E : Value → Shared → Prop} {s : Shared} {c : Code} {x y : Str} {u : Tok} {Q : Value → Shared → Prop} (he : c.env? = none) (hA : (A.under c).handled = none)
    (hl : x.length ≤ 640) (hc : ∀ d ∈ x.cps.toList, d < 128) (hy : y.length ≤ 1000)
    (h : ∀ h' tk e, Heap.NewExc s.heap h' e "ValueError" → E (.ref e) { s with heap := h', toks := tk }) :
    wpB (model prog w) A c (do
      rule "int.__new__.invalid-literal"
      let shown ← pyRepr (.str x u)
      let m ← mkStr (y ++ { cps := shown.cps.extract 0 200 })
      let refusal ← newExc (.type "ValueError") [m]
      markTheRefusal ["int.__new__"] refusal
      raiseNew refusal) Q E s := by
  have hR := StrLaws.reprText_len x (fun d hd => Nat.lt_trans (hc d hd) (by decide))
  refine wpB_bind (wpB_of (wpAny_rule ?_))
  refine wpB_bind (wpB_of (wpAny_pyRepr_str ?_ (by rw [sizeLine_eq]; omega)))
  refine wpB_bind (wpB_of (wpAny_mkStr ?_ ?_))
  · refine wpB_bind (wpB_of (wpAny_newExcV fun h' e hx => ?_))
    refine wpB_bind (wpB_mark he ?_)
    refine wpB_of ?_
    unfold raiseNew
    refine wpAny_bind (wpAny_handled ?_)
    rw [hA]
    first
      | exact wpAny_throw (h _ _ _ hx)
      | exact wpAny_bind (wpAny_pure (wpAny_throw (h _ _ _ hx)))
  · rw [Str.length_append, sizeLine_eq]
    have : (PySem.Str.mk ((reprText x).cps.extract 0 200)).length ≤ 200 := by
      show ((reprText x).cps.extract 0 200).size ≤ 200
      simp [Array.size_extract]; omega
    omega

theorem wpB_text_bad {prog : Program} {w : World} {A : Around} {E : Value → Shared → Prop} {s : Shared} {c : Code} {x : Str} {u : Tok} {Q : Value → Shared → Prop} (he : c.env? = none) (hA : (A.under c).handled = none)
    (hl : x.length ≤ 640) (hc : ∀ d ∈ x.cps.toList, d < 128) (hn : PySem.intText? x = none)
    (h : ∀ h' tk e, Heap.NewExc s.heap h' e "ValueError" → E (.ref e) { s with heap := h', toks := tk }) :
    wpB (model prog w) A c ((int_private% "intFromText") (.str x u) (numTextOf x) 10) Q E s := by
  have hs : (numSeenOf x).length ≤ 640 := Nat.le_trans (seen_length x) hl
  have hr := (read0 x hs).resolve_left (by rintro ⟨n, h1, _⟩; rw [hn] at h1; cases h1)
  obtain ⟨_, hr⟩ := hr
  have key := wpB_refuse (prog := prog) (w := w) (A := A) (E := E) (s := s) (c := c) (x := x) (u := u) (Q := Q) (y := Str.ofString "invalid literal for int() with base 10: ") he hA hl hc (by decide) h
  change wpB _ _ _ (if (numSeenOf x).length ≤ 640 then _ else _) _ _ _
  rw [if_pos hs]
  simp only [pure_bind]
  rcases hr with e | ⟨i, e, hne⟩
  · rw [e]
    exact key
  · rw [e]
    dsimp only
    rw [if_neg hne]
    exact key

theorem codeB_builtin {prog : Program} {w : World} {A : Around} {R : Result → Shared → Prop} {s : Shared} {id : String} {args : Args} {b : Builtin} (hb : entryFor table id = some b)
    (h : wpB (model prog w) A (.builtin id args) (b args)
      (fun fin s' => match fin with | .done f => R (.ok f) s' | .again c' => c'.quiet = true ∧ codeB (model prog w) A c' R s') (fun e s' => R (.error e) s') s) :
    codeB (model prog w) A (.builtin id args) R s := by
  refine codeB_of ?_
  show wpB _ _ _ (match entryFor table id with | some b => b args | none => unsupported ((withoutEnding? id "#data").getD id)) _ _ s
  rw [hb]; exact h
theorem codeB_call_builtin {prog : Program} {w : World} {A : Around} {R : Result → Shared → Prop} {s : Shared} {id : String} {args : Args} (hq : (Code.builtin id args).quiet = true) (hc : checkBuiltinCall id args = pure ())
    (h : codeB (model prog w) A (.builtin id args) R s) :
    codeB (model prog w) A (.call (.builtin id) args) R s := by
  refine codeB_of ?_
  show wpB _ _ _ (do checkBuiltinCall id args; again (.builtin id args)) _ _ s
  exact wpB_bind (wpB_of (wpAny_of_eq hc (wpB_of (wpAny_pure ⟨hq, h⟩))))
theorem codeB_call_type {prog : Program} {w : World} {A : Around} {R : Result → Shared → Prop} {s : Shared} {T : String} {args : List Value}
    (h : codeB (model prog w) A (.builtin "type.__call__" ⟨.type T :: args, []⟩) R s) :
    codeB (model prog w) A (.call (.type T) ⟨args, []⟩) R s := by
  refine codeB_of ?_
  show wpB _ _ _ (callAny (.type T) _) _ _ _
  exact wpB_of (wpAny_pure ⟨Code.quiet_builtin _ (by decide +kernel), h⟩)
/-- int(text), the text no number, called by a built-in that no Python code has called at once -/
theorem codeB_int_bad {prog : Program} {w : World} {A : Around} {R : Result → Shared → Prop} {s : Shared} {x : Str} {u : Tok} (hA : A.handled = none)
    (hl : x.length ≤ 640) (hc : ∀ d ∈ x.cps.toList, d < 128) (hn : PySem.intText? x = none)
    (h : ∀ h' tk e, Heap.NewExc s.heap h' e "ValueError" → R (.error (.ref e)) { s with heap := h', toks := tk }) :
    codeB (model prog w) A (.call (.type "int") ⟨[.str x u], []⟩) R s := by
  refine codeB_call_type (codeB_builtin F.entry_type_call ?_)
  obtain ⟨k, hk⟩ := type_call_eq x u
  rw [hk]
  refine wpB_bind (wpB_call rfl (codeB_call_builtin (plainId_quiet F.called_int.plain _) (F.newCall_int_1 _) (codeB_builtin F.entry_int_new ?_)))
  rw [int_new_eq]
  exact wpB_bind (wpB_text_bad rfl hA hl hc hn h)
end Mine
end Map2Part

section Map3Part
open PySem PySem.W PyProof.Rows PySem.Calls PySem.NumText
set_option maxRecDepth 100000
namespace Mine
section
variable {prog : Program} {w : World} {A : Around} {E : Value → Shared → Prop} {s : Shared}

theorem map_next_good {z TI it l : Addr} {i : Nat} {xs : Array Value} {x : Str} {u : Tok} {n : Int} {Q : Value → Shared → Prop} (hzi : z ≠ it) (hli : l ≠ it)
    (hz : IsMap s.heap z TI (.type "int")) (hTI : IsOne s.heap TI (.ref it)) (hit : s.heap.IsListIter it l i) (hl : s.heap.IsList l xs) (hx : xs[i]? = some (.str x u)) (hn : PySem.intText? x = some n) (hlen : x.length ≤ 640)
    (hQ : ∀ h', h'.IsListIter it l (i + 1) → Heap.SameBut it s.heap h' → Q (.int n s.toks) { s with heap := h', toks := s.toks + 1 }) :
    wpAny (model prog w) A (Builtin.«map.__next__» ⟨[.ref z], []⟩) (fun fin s' => ∃ v, fin = .done (.ret v) ∧ Q v s') E s := by
  show wpAny _ _ (field (.ref z) 0 >>= _) _ _ _
  refine wpAny_bind (wpAny_field hz rfl (x := .ref TI) rfl ?_)
  refine wpAny_bind (wpAny_seqItems hTI rfl ?_)
  simp only [List.forIn_toArray, List.forIn_cons, List.forIn_nil, bind_assoc, pure_bind]
  show wpAny _ _ (Builtin.SmallTypes.nextOf (.ref it) >>= _) _ _ _
  refine wpAny_bind (wpAny_nextOf_list_item hit hl hx fun h₁ hit₁ hs₁ => ?_)
  show wpAny _ _ (field (.ref z) 1 >>= _) _ _ _
  have hz₁ : IsMap h₁ z TI (.type "int") := hs₁.extBut _ _ hzi hz
  refine wpAny_bind (wpAny_field hz₁ rfl (x := .type "int") rfl ?_)
  show wpAny _ _ (holding [.str x u] (call (.type "int") [.str x u]) >>= _) _ _ _
  refine wpAny_bind (wpAny_holding (KIN.call_text hn hlen ?_))
  refine wpAny_bind (wpAny_letGo ?_)
  exact wpAny_pure ⟨_, rfl, hQ h₁ hit₁ hs₁⟩

theorem map_next_end {z TI it l : Addr} {i : Nat} {xs : Array Value} {Q : Fin → Shared → Prop} (hh : A.handled = none)
    (hz : IsMap s.heap z TI (.type "int")) (hTI : IsOne s.heap TI (.ref it)) (hit : s.heap.IsListIter it l i) (hl : s.heap.IsList l xs) (hx : xs[i]? = none)
    (hE : ∀ h' e, Heap.ExtBut it s.heap h' → (∃ o, h'.get? e = some o ∧ o.cls = .type "StopIteration") → E (.ref e) { s with heap := h' }) :
    wpAny (model prog w) A (Builtin.«map.__next__» ⟨[.ref z], []⟩) Q E s := by
  show wpAny _ _ (field (.ref z) 0 >>= _) _ _ _
  refine wpAny_bind (wpAny_field hz rfl (x := .ref TI) rfl ?_)
  refine wpAny_bind (wpAny_seqItems hTI rfl ?_)
  simp only [List.forIn_toArray, List.forIn_cons, List.forIn_nil, bind_assoc, pure_bind]
  show wpAny _ _ (Builtin.SmallTypes.nextOf (.ref it) >>= _) _ _ _
  exact wpAny_bind (wpAny_nextOf_list_end hh hit hl hx fun h₁ e hs₁ he => hE h₁ e hs₁ he)

theorem map_next_bad {z TI it l : Addr} {i : Nat} {xs : Array Value} {x : Str} {u : Tok} {Q : Fin → Shared → Prop} (hh : A.handled = none) (hzi : z ≠ it)
    (hz : IsMap s.heap z TI (.type "int")) (hTI : IsOne s.heap TI (.ref it)) (hit : s.heap.IsListIter it l i) (hl : s.heap.IsList l xs) (hx : xs[i]? = some (.str x u)) (hn : PySem.intText? x = none) (hlen : x.length ≤ 640) (hc : ∀ d ∈ x.cps.toList, d < 128)
    (hE : ∀ h₁ h' tk e, Heap.SameBut it s.heap h₁ → Heap.NewExc h₁ h' e "ValueError" → E (.ref e) { s with heap := h', toks := tk }) :
    wpOwn (model prog w) A (.builtin "map.__next__" ⟨[.ref z], []⟩) (Builtin.«map.__next__» ⟨[.ref z], []⟩) Q E s := by
  show wpOwn _ _ _ (field (.ref z) 0 >>= _) _ _ _
  refine wpOwn_bind (wpOwn_of_wpAny (wpAny_field hz rfl (x := .ref TI) rfl ?_))
  refine wpOwn_bind (wpOwn_of_wpAny (wpAny_seqItems hTI rfl ?_))
  simp only [List.forIn_toArray, List.forIn_cons, List.forIn_nil, bind_assoc, pure_bind]
  show wpOwn _ _ _ (Builtin.SmallTypes.nextOf (.ref it) >>= _) _ _ _
  refine wpOwn_bind (wpOwn_of_wpAny (wpAny_nextOf_list_item hit hl hx fun h₁ hit₁ hs₁ => ?_))
  show wpOwn _ _ _ (field (.ref z) 1 >>= _) _ _ _
  have hz₁ : IsMap h₁ z TI (.type "int") := hs₁.extBut _ _ hzi hz
  refine wpOwn_bind (wpOwn_of_wpAny (wpAny_field hz₁ rfl (x := .type "int") rfl ?_))
  show wpOwn _ _ _ (call (.type "int") [.str x u] >>= _) _ _ _
  exact wpOwn_bind (wpOwn_map_call (codeB_int_bad hh hlen hc hn fun h' tk e hx => hE h₁ h' tk e hs₁ hx))

theorem pyNext_map_good {z TI it l : Addr} {i : Nat} {xs : Array Value} {x : Str} {u : Tok} {n : Int} {Q : Option Value → Shared → Prop} (hzi : z ≠ it) (hli : l ≠ it)
    (hz : IsMap s.heap z TI (.type "int")) (hTI : IsOne s.heap TI (.ref it)) (hit : s.heap.IsListIter it l i) (hl : s.heap.IsList l xs) (hx : xs[i]? = some (.str x u)) (hn : PySem.intText? x = some n) (hlen : x.length ≤ 640)
    (hQ : ∀ h', h'.IsListIter it l (i + 1) → Heap.SameBut it s.heap h' → Q (some (.int n s.toks)) { s with heap := h', toks := s.toks + 1 }) :
    wpAny (model prog w) A (pyNext (.ref z)) Q E s := by
  have hT : s.TypeIs (.ref z) "map" := ⟨_, hz, rfl⟩
  unfold pyNext
  exact wpAny_bind (wpAny_attempt (wpAny_callSpecial?_slot (name := Str.ofString "__next__") hT slot_map_next
    (wpAny_call_entry slot_map_next hT entry_map_next
      (map_next_good hzi hli hz hTI hit hl hx hn hlen fun h' a1 a2 => wpAny_pure (hQ h' a1 a2)) (args_map_next _))))
theorem pyNext_map_end {z TI it l : Addr} {i : Nat} {xs : Array Value} {Q : Option Value → Shared → Prop} (hh : A.handled = none)
    (hz : IsMap s.heap z TI (.type "int")) (hTI : IsOne s.heap TI (.ref it)) (hit : s.heap.IsListIter it l i) (hl : s.heap.IsList l xs) (hx : xs[i]? = none)
    (hQ : ∀ h', Heap.ExtBut it s.heap h' → Q none { s with heap := h' }) :
    wpAny (model prog w) A (pyNext (.ref z)) Q E s := by
  have hT : s.TypeIs (.ref z) "map" := ⟨_, hz, rfl⟩
  unfold pyNext
  refine wpAny_bind (wpAny_attempt (wpAny_callSpecial?_slot (name := Str.ofString "__next__") hT slot_map_next
    (wpAny_call_entry slot_map_next hT entry_map_next (map_next_end hh hz hTI hit hl hx fun h' e hk he => ?_) (args_map_next _))))
  obtain ⟨o, ho, hc⟩ := he
  refine wpAny_bind (wpAny_isInstance (T := "StopIteration") (b := true) ⟨o, ho, hc⟩ isSubtype_stop ?_)
  exact wpAny_pure (hQ _ hk)
theorem sub_ValueError_stop : isSubtype (.type "ValueError") (.type "StopIteration") = pure false := by rw [isSubtype_type]; kernel_rfl
theorem pyNext_map_bad {z TI it l : Addr} {i : Nat} {xs : Array Value} {x : Str} {u : Tok} {Q : Option Value → Shared → Prop} (hh : A.handled = none) (hzi : z ≠ it)
    (hz : IsMap s.heap z TI (.type "int")) (hTI : IsOne s.heap TI (.ref it)) (hit : s.heap.IsListIter it l i) (hl : s.heap.IsList l xs) (hx : xs[i]? = some (.str x u)) (hn : PySem.intText? x = none) (hlen : x.length ≤ 640) (hc : ∀ d ∈ x.cps.toList, d < 128)
    (hE : ∀ h₁ h' tk e, Heap.SameBut it s.heap h₁ → Heap.NewExc h₁ h' e "ValueError" → E (.ref e) { s with heap := h', toks := tk }) :
    wpAny (model prog w) A (pyNext (.ref z)) Q E s := by
  have hT : s.TypeIs (.ref z) "map" := ⟨_, hz, rfl⟩
  unfold pyNext
  refine wpAny_bind (wpAny_attempt (wpAny_callSpecial?_slot (name := Str.ofString "__next__") hT slot_map_next
    (wpAny_call (codeAny_call_builtin_own (plainId_quiet slot_map_next.plain _) entry_map_next (slot_map_next.check _ _ _ _ _ _ _ _ hT (args_map_next _)
      (map_next_bad hh hzi hz hTI hit hl hx hn hlen hc fun h₁ h' tk e hs hx' => ?_))))))
  obtain ⟨ob, t, ho, hcl, hd⟩ := hx'.there
  refine wpAny_bind (wpAny_isInstance (T := "ValueError") (b := false) ⟨ob, ho, hcl⟩ sub_ValueError_stop ?_)
  exact wpAny_throw (hE h₁ h' tk e hs hx')
end
end Mine
end Map3Part

section Map4Part
open PySem PySem.W PyProof.Rows PySem.Calls PySem.NumText
set_option maxRecDepth 100000
namespace Mine
/-- what two targets take of the numbers that texts mean -/
def two (xs : List Str) : Option (Int × Int) := match xs with
  | [a, b] => match PySem.intText? a, PySem.intText? b with
    | some i, some j => some (i, j)
    | _, _ => none
  | _ => none
section
variable {prog : Program} {w : World} {A : Around} {E : Value → Shared → Prop} {s : Shared}

theorem raiseV {α : Type} {M : Model} {msg : String} {Q : α → Shared → Prop} (hh : A.handled = none) (h : ∀ h' tk e, Heap.NewExc s.heap h' e "ValueError" → E (.ref e) { s with heap := h', toks := tk }) (hm : (msg : Str).length ≤ sizeLine) :
    wpAny M A (raiseErrorMade "ValueError" msg : Sem α) Q E s := wpAny_raiseErrorMade plainExc_ValueError hh h hm

theorem unpack_map {z TI it l : Addr} {xs : List (Str × Tok)} {Q : List Value → Shared → Prop} (hh : A.handled = none) (hzi : z ≠ it) (hTi : TI ≠ it) (hli : l ≠ it)
    (hz : IsMap s.heap z TI (.type "int")) (hTI : IsOne s.heap TI (.ref it)) (hit : s.heap.IsListIter it l 0) (hl : s.heap.IsList l (strValues xs).toArray)
    (hlen : ∀ p ∈ xs, p.1.length ≤ 640) (hc : ∀ p ∈ xs, ∀ d ∈ p.1.cps.toList, d < 128)
    (hQ : ∀ i j h' tk t1 t2, two (xs.map (·.1)) = some (i, j) → Heap.ExtBut it s.heap h' → Q [.int i t1, .int j t2] { s with heap := h', toks := tk })
    (hE : ∀ h₁ h' tk e, two (xs.map (·.1)) = none → Heap.ExtBut it s.heap h₁ → Heap.NewExc h₁ h' e "ValueError" → E (.ref e) { s with heap := h', toks := tk }) :
    wpAny (model prog w) A (unpackItems (.ref z) 2 none) Q E s := by
  have hT : s.TypeIs (.ref z) "map" := ⟨_, hz, rfl⟩
  unfold unpackItems
  refine wpAny_bind ?_
  unfold notIterableAtAll
  refine wpAny_bind (wpAny_specialOf hT slot_map_iter.lookup ?_)
  refine wpAny_pure ?_
  simp only [Bool.false_eq_true, if_false]
  refine wpAny_bind (wpAny_holding (pyIter_map hz ?_))
  cases xs with
  | nil =>
    refine wpAny_bind (wpAny_holding ?_)
    show wpAny _ _ (pyNext (.ref z) >>= _) _ _ _
    refine wpAny_bind (pyNext_map_end hh hz hTI hit hl (by simp [strValues]) fun h' he => wpAny_pure ?_)
    rw [if_pos (by simp)]
    refine wpAny_bind (wpAny_rule ?_)
    refine wpAny_bind ?_
    refine raiseV hh (fun h'' tk e hx => ?_) (by decide +kernel)
    exact hE h' h'' tk e rfl he hx
  | cons p xs =>
    obtain ⟨a, ta⟩ := p
    have la := hlen _ (.head _)
    have ca := hc _ (.head _)
    have ea : (strValues ((a, ta) :: xs)).toArray[0]? = some (.str a ta) := rfl
    cases ha : PySem.intText? a with
    | none =>
      refine wpAny_bind (wpAny_holding ?_)
      show wpAny _ _ (pyNext (.ref z) >>= _) _ _ _
      refine wpAny_bind (pyNext_map_bad hh hzi hz hTI hit hl ea ha la ca fun h₁ h' tk e hs hx => hE h₁ h' tk e ?_ hs.extBut hx)
      cases xs with
      | nil => rfl
      | cons q xs => cases xs with
        | nil => simp [two, ha]
        | cons r xs => rfl
    | some i =>
      refine wpAny_bind (wpAny_holding ?_)
      show wpAny _ _ (pyNext (.ref z) >>= _) _ _ _
      refine wpAny_bind (pyNext_map_good hzi hli hz hTI hit hl ea ha la fun h₁ hit₁ hs₁ => ?_)
      have hz₁ : IsMap h₁ z TI (.type "int") := hs₁.extBut _ _ hzi hz
      have hTI₁ : IsOne h₁ TI (.ref it) := hs₁.extBut _ _ hTi hTI
      have hl₁ : h₁.IsList l (strValues ((a, ta) :: xs)).toArray := hl.extBut hs₁.extBut hli
      cases xs with
      | nil =>
        refine wpAny_bind (wpAny_holding ?_)
        show wpAny _ _ (pyNext (.ref z) >>= _) _ _ _
        refine wpAny_bind (pyNext_map_end hh hz₁ hTI₁ hit₁ hl₁ (by simp [strValues]) fun h₂ he => wpAny_pure (wpAny_pure ?_))
        rw [if_pos (by simp)]
        refine wpAny_bind (wpAny_rule ?_)
        refine wpAny_bind ?_
        refine raiseV hh (fun h'' tk e hx => ?_) (by simp only [List.length_cons, List.length_nil]; decide +kernel)
        exact hE h₂ h'' tk e rfl (hs₁.extBut.trans he) hx
      | cons q xs =>
        obtain ⟨b, tb⟩ := q
        have lb := hlen _ (.tail _ (.head _))
        have cb := hc _ (.tail _ (.head _))
        have eb : (strValues ((a, ta) :: (b, tb) :: xs)).toArray[0 + 1]? = some (.str b tb) := rfl
        cases hb : PySem.intText? b with
        | none =>
          refine wpAny_bind (wpAny_holding ?_)
          show wpAny _ _ (pyNext (.ref z) >>= _) _ _ _
          refine wpAny_bind (pyNext_map_bad hh hzi hz₁ hTI₁ hit₁ hl₁ eb hb lb cb fun h₂ h' tk e hs hx => hE h₂ h' tk e ?_ (hs₁.extBut.trans hs.extBut) hx)
          cases xs with
          | nil => simp [two, ha, hb]
          | cons r xs => rfl
        | some j =>
          refine wpAny_bind (wpAny_holding ?_)
          show wpAny _ _ (pyNext (.ref z) >>= _) _ _ _
          refine wpAny_bind (pyNext_map_good hzi hli hz₁ hTI₁ hit₁ hl₁ eb hb lb fun h₂ hit₂ hs₂ => ?_)
          have hz₂ : IsMap h₂ z TI (.type "int") := hs₂.extBut _ _ hzi hz₁
          have hTI₂ : IsOne h₂ TI (.ref it) := hs₂.extBut _ _ hTi hTI₁
          have hl₂ := hl₁.extBut hs₂.extBut hli
          refine wpAny_bind (wpAny_holding (wpAny_pure (wpAny_pure (wpAny_pure ?_))))
          rw [if_neg (by simp)]
          refine wpAny_bind (wpAny_holding ?_)
          cases xs with
          | nil =>
            refine pyNext_map_end hh hz₂ hTI₂ hit₂ hl₂ (by simp [strValues]) fun h₃ he => ?_
            simp only [Option.isSome_none, Bool.false_eq_true, if_false]
            refine wpAny_pure (hQ i j h₃ _ _ _ (by simp [two, ha, hb]) (hs₁.extBut.trans (hs₂.extBut.trans he)))
          | cons r xs =>
            obtain ⟨c, tc⟩ := r
            have lc := hlen _ (.tail _ (.tail _ (.head _)))
            have cc := hc _ (.tail _ (.tail _ (.head _)))
            have ec : (strValues ((a, ta) :: (b, tb) :: (c, tc) :: xs)).toArray[0 + 1 + 1]? = some (.str c tc) := rfl
            cases hc' : PySem.intText? c with
            | none => exact pyNext_map_bad hh hzi hz₂ hTI₂ hit₂ hl₂ ec hc' lc cc fun h₃ h' tk e hs hx => hE h₃ h' tk e rfl (hs₁.extBut.trans (hs₂.extBut.trans hs.extBut)) hx
            | some k =>
              refine pyNext_map_good hzi hli hz₂ hTI₂ hit₂ hl₂ ec hc' lc fun h₃ hit₃ hs₃ => ?_
              simp only [Option.isSome_some, if_true]
              refine wpAny_bind (wpAny_rule ?_)
              refine wpAny_bind ?_
              refine raiseV hh (fun h'' tk e hx => ?_) (by decide +kernel)
              exact hE h₃ h'' tk e rfl (hs₁.extBut.trans (hs₂.extBut.trans hs₃.extBut)) hx
end
end Mine
end Map4Part

section Map5Part
open PySem PySem.W PyProof.Rows PySem.Calls PySem.NumText
set_option maxRecDepth 100000
namespace Mine
abbrev mapObj (TI : Addr) (f : Value) : Obj := { cls := .type "map", dict := none, data := .fields #[.ref TI, f], slots := #[] }
abbrev oneObj (a : Value) : Obj := { cls := .type "tuple", data := .seq #[a] }
abbrev iterObj (l : Addr) : Obj := { cls := .type "list_iterator", data := .fields #[.ref l, .int 0 0] }
section
variable {prog : Program} {w : World} {A : Around} {E : Value → Shared → Prop} {s : Shared} {h₀ : Heap} {L l : Addr} {m : Str → Option Value} {news : List (Addr × Obj)}
theorem call_mapN {f : Value} {xs : Array Value} {Q : Value → Shared → Prop} (F : Fr h₀ L s.heap m) (N : News h₀ L s.heap news) (hl : s.heap.IsList l xs)
    (h : ∀ M TI it h', Fr h₀ L h' m → News h₀ L h' ((M, mapObj TI f) :: (TI, oneObj (.ref it)) :: (it, iterObj l) :: news) → h'.IsList l xs → M ≠ it → TI ≠ it → l ≠ it → (∀ p ∈ news, p.1 < it ∧ p.1 < M) → Q (.ref M) { s with heap := h' }) :
    wpAny (model prog w) A (call (.type "map") [f, .ref l]) Q E s := by
  refine callType_new called_map (by decide) (typeCall_map _ _) (newCall_map _ _) (fun obj => PySem.F.args_object_init_3 obj _ _) entry_map_new
    (meets_map_new l f xs) ⟨hl, ?_⟩
  have z1 : (mapH1 s.heap l).objs.size = s.heap.objs.size + 1 := Heap.size_push ..
  have z2 : (mapH2 s.heap l).objs.size = s.heap.objs.size + 2 := by rw [Heap.size_push, z1]
  have F1 := F.push (iterObj l)
  have N1 := N.push F (iterObj l)
  have F2 := F1.push (oneObj (.ref s.heap.objs.size))
  have N2 := N1.push F1 (oneObj (.ref s.heap.objs.size))
  have F3 := F2.push (mapObj (mapH1 s.heap l).objs.size f)
  have N3 := N2.push F2 (mapObj (mapH1 s.heap l).objs.size f)
  have hlt : l < s.heap.objs.size := by obtain ⟨o, ho, _⟩ := hl; exact Heap.lt_size ho
  show _ ∧ _
  refine ⟨⟨_, N3.get (.head _), rfl⟩, h _ _ _ _ F3 N3 (((hl.push _).push _).push _) ?_ ?_ (Nat.ne_of_lt hlt) fun p hp => ⟨Heap.lt_size (N p hp).1, ?_⟩⟩
  · show (mapH2 s.heap l).objs.size ≠ s.heap.objs.size
    omega
  · show (mapH1 s.heap l).objs.size ≠ s.heap.objs.size
    omega
  · show p.1 < (mapH2 s.heap l).objs.size
    have := Heap.lt_size (N p hp).1
    rw [z2]
    exact Nat.lt_of_lt_of_le this (Nat.le_add_right _ _)

theorem assign_mapN {env : Env} {elts : List Expr} {k : Nat} {pos : Pos} {M TI it : Addr} {xs : List (Str × Tok)} {Q : Unit → Shared → Prop} (hh : A.handled = none)
    (F : Fr h₀ L s.heap m) (N : News h₀ L s.heap ((M, mapObj TI (.type "int")) :: (TI, oneObj (.ref it)) :: (it, iterObj l) :: news)) (hl : s.heap.IsList l (strValues xs).toArray) (h1 : M ≠ it) (h2 : TI ≠ it) (h3 : l ≠ it) (h4 : ∀ p ∈ news, p.1 < it ∧ p.1 < M)
    (hlen : ∀ p ∈ xs, p.1.length ≤ 640) (hc : ∀ p ∈ xs, ∀ d ∈ p.1.cps.toList, d < 128)
    (hn : (assignEach elts env).length = 2) (hstar : (assignEach elts env).findIdx? (·.1) = none)
    (hQ : ∀ i j h' tk t1 t2, two (xs.map (·.1)) = some (i, j) → Fr h₀ L h' m → News h₀ L h' news → wpAny (model prog w) A (assignInOrder ((assignEach elts env).map (·.2)) [.int i t1, .int j t2]) Q E { s with heap := h', toks := tk })
    (hE : ∀ h₁ h' tk e, two (xs.map (·.1)) = none → Fr h₀ L h₁ m → News h₀ L h₁ news → Heap.NewExc h₁ h' e "ValueError" → E (.ref e) { s with heap := h', toks := tk }) :
    wpAny (model prog w) A (assign (.Tuple elts k pos) env (.ref M)) Q E s := by
  rw [assign_Tuple]
  refine wpAny_bind (wpAny_standAt ?_)
  unfold unpack
  rw [hn, hstar]
  have hz := N.get (.head _)
  have hTI := N.get (.tail _ (.head _))
  have hit := N.get (.tail _ (.tail _ (.head _)))
  have fr : ∀ h', Heap.ExtBut it s.heap h' → Fr h₀ L h' m ∧ News h₀ L h' news := fun h' he => by
    obtain ⟨oL, es, ep, hL, r⟩ := F.ns
    have nit := (N (it, iterObj l) (.tail _ (.tail _ (.head _)))).2
    refine ⟨⟨⟨oL, es, ep, he _ _ (Ne.symm nit.1) hL, r⟩, fun b o e => he b o (fun q => ?_) (F.keep b o e), F.above⟩, fun p hp => ?_⟩
    · rw [q, nit.2] at e; cases e
    · have P := N p (.tail _ (.tail _ (.tail _ hp)))
      exact ⟨he _ _ (Nat.ne_of_lt (h4 p hp).1) P.1, P.2⟩
  exact wpAny_bind (wpAny_holding (unpack_map hh h1 h2 h3 hz hTI ⟨_, hit, rfl, rfl⟩ hl hlen hc
    (fun i j h' tk t1 t2 e he => hQ i j h' tk t1 t2 e (fr h' he).1 (fr h' he).2)
    (fun h₁ h' tk e e2 he hx => hE h₁ h' tk e e2 (fr h₁ he).1 (fr h₁ he).2 hx)))
end
end Mine
end Map5Part

section Num1Part
open PySem PySem.W PyProof.Rows PySem.Calls PySem.Spec
set_option maxRecDepth 100000
namespace Mine
/-- a figure's worth, or -1 -/
def fig (c : Nat) : Int := Txt.find (Str.ofString "0123456789") ⟨#[c]⟩
def figStep (a : Int) (c : Nat) : Option Int := if fig c < 0 then none else some (10 * a + fig c)
def pieceVal (a : Int) (p : Str) : Option Int := if p == Str.ofString "" then none else p.cps.toList.foldlM figStep a
def numPieces (ps : List Str) : Option Int := ps.foldlM pieceVal 0

theorem foldlM_split {α β : Type} (f : β → α → Option β) : ∀ (l : List α) (i : Nat) (b b' : β) (x : α), l[i]? = some x → (l.take i).foldlM f b = some b' →
    (l.take (i + 1)).foldlM f b = f b' x ∧ (f b' x = none → l.foldlM f b = none) := by
  intro l i b b' x hx hp
  have hs : l.take (i + 1) = l.take i ++ [x] := by simp [List.take_add_one, hx]
  constructor
  · rw [hs, List.foldlM_append, hp]
    simp
  · intro hn
    have e : l = l.take (i + 1) ++ l.drop (i + 1) := (List.take_append_drop _ _).symm
    rw [e, List.foldlM_append, hs, List.foldlM_append, hp]
    simp [hn]

/-- the frame between the turns: worth and sign, the rest is open -/
abbrev two2 (a : Int) (t : Tok) (sg : Int) (ts : Tok) (u : Str → Option Value) : Str → Option Value :=
  fun y => if y = Str.ofString "worth" then some (.int a t) else if y = Str.ofString "sign" then some (.int sg ts) else u y
theorem two2_eq {m : Str → Option Value} {a sg : Int} {t ts : Tok} (h1 : m (Str.ofString "worth") = some (.int a t)) (h2 : m (Str.ofString "sign") = some (.int sg ts)) : two2 a t sg ts m = m := by
  funext y
  unfold two2
  by_cases e : y = Str.ofString "worth"
  · rw [if_pos e, e, h1]
  · rw [if_neg e]
    by_cases e2 : y = Str.ofString "sign"
    · rw [if_pos e2, e2, h2]
    · rw [if_neg e2]
def NumJ (ok : Int → Prop) (sg : Int) (ts : Tok) (news : List (Addr × Obj)) (m : Str → Option Value) (nx : List (Addr × Obj)) : Prop :=
  nx = news ∧ ∃ a t, ok a ∧ m (Str.ofString "worth") = some (.int a t) ∧ m (Str.ofString "sign") = some (.int sg ts)
section
variable {prog : Program} {w : World} {A : Around} {E : Value → Shared → Prop} {s : Shared} {env : Env} {h₀ : Heap} {x : PySem.Str} {body : List Stmt} {Q : Flow → Shared → Prop}
  {m₀ : Str → Option Value} {news : List (Addr × Obj)} {sg a₀ : Int} {ts t₀ : Tok}

/-- the signs of a piece -/
theorem num_inner {xt : Str} {tx : Tok} (hh : A.handled = none) (F : Fr h₀ env.locals s.heap m₀) (N : News h₀ env.locals s.heap news)
    (hw : m₀ (Str.ofString "worth") = some (.int a₀ t₀)) (hs : m₀ (Str.ofString "sign") = some (.int sg ts))
    (turn : ∀ (c : Nat) (u : Tok) (a : Int) (t : Tok) (m : Str → Option Value) h tk own, c ∈ xt.cps.toList → (figStep a c = none → xt.cps.toList.foldlM figStep a₀ = none) → OwnOff own (news.map (·.1)) →
      Fr h₀ env.locals h (fun y => if y = x then some (.str ⟨#[c]⟩ u) else two2 a t sg ts m y) → News h₀ env.locals h (news ++ own) →
      wpAny (model prog w) A (execs body env) (InvPostN h₀ env.locals (NumJ (fun a' => figStep a c = some a') sg ts news) own (news.map (·.1)) { s with heap := h, toks := tk } Q) E { s with heap := h, toks := tk })
    (done : ∀ (a : Int) (t : Tok) (m : Str → Option Value) h tk, xt.cps.toList.foldlM figStep a₀ = some a → Fr h₀ env.locals h (two2 a t sg ts m) → News h₀ env.locals h news → Q .next { s with heap := h, toks := tk }) :
    wpAny (model prog w) A (pyIter (.str xt tx)) (fun it s₂ => LoopAtV prog w A h₀ env x body Q E it s₂) E s := by
  refine wpAny_pyIter_str fun o St hW hst => ?_
  have W := hW A hh
  refine loop_invN (fun i m nx => NumJ (fun a => (xt.cps.toList.take i).foldlM figStep a₀ = some a) sg ts news m nx) W ?_ ?_ ?_ ?_ hst (F.push _) (fun p hp => ⟨Heap.get?_push_of_some _ (N p hp).1, (N p hp).2⟩) ⟨rfl, a₀, t₀, rfl, hw, hs⟩ ?_ ?_
  · intro hm
    exact absurd F.ns.lt ((List.mem_singleton.mp hm) ▸ Nat.lt_irrefl _)
  · intro b' hb
    rw [List.mem_singleton.mp hb]
    exact next_is_new F
  · intro p hp hI
    exact absurd (Heap.lt_size (N p hp).1) ((List.mem_singleton.mp hI) ▸ Nat.lt_irrefl _)
  · intro p hp hI
    exact absurd (Heap.lt_size (N p hp).1) ((List.mem_singleton.mp hI) ▸ Nat.lt_irrefl _)
  · rintro i v m₁ nx h tk own hi ⟨n, u, hn, rfl⟩ _ hoff ⟨rfl, a, t, ha, h1, h2⟩ F₁ N₁
    have hn' : xt.cps.toList[i]? = some n := by rw [Array.getElem?_toList]; exact hn
    obtain ⟨e1, e2⟩ := foldlM_split figStep _ i a₀ a n hn' ha
    rw [← two2_eq h1 h2] at F₁
    simp only [e1]
    exact turn n u a t m₁ h tk own (List.mem_of_getElem? hn') e2 hoff F₁ N₁
  · rintro m₁ nx h tk ⟨rfl, a, t, ha, h1, h2⟩ F₁ N₁
    have hl : xt.cps.size = xt.cps.toList.length := Array.length_toList.symm
    rw [hl, List.take_length] at ha
    rw [← two2_eq h1 h2] at F₁
    exact done a t m₁ h tk ha F₁ N₁

/-- the pieces of a body -/
theorem num_outer {xs : List (Str × Tok)} {D : Addr} {n : Nat} (hh : A.handled = none) (F : Fr h₀ env.locals s.heap m₀) (N : News h₀ env.locals s.heap ((D, W.listOf (strValues xs).toArray n) :: news)) (hD : ∀ p ∈ news, p.1 < D)
    (hw : m₀ (Str.ofString "worth") = some (.int 0 t₀)) (hs : m₀ (Str.ofString "sign") = some (.int sg ts))
    (turn : ∀ (p : Str) (u : Tok) (a : Int) (t : Tok) (m : Str → Option Value) h tk own, p ∈ xs.map (·.1) → (pieceVal a p = none → numPieces (xs.map (·.1)) = none) → OwnOff own (news.map (·.1)) →
      Fr h₀ env.locals h (fun y => if y = x then some (.str p u) else two2 a t sg ts m y) → News h₀ env.locals h (news ++ own) →
      wpAny (model prog w) A (execs body env) (InvPostN h₀ env.locals (NumJ (fun a' => pieceVal a p = some a') sg ts news) own (news.map (·.1)) { s with heap := h, toks := tk } Q) E { s with heap := h, toks := tk })
    (done : ∀ (a : Int) (t : Tok) (m : Str → Option Value) h tk, numPieces (xs.map (·.1)) = some a → Fr h₀ env.locals h (two2 a t sg ts m) → News h₀ env.locals h news → Q .next { s with heap := h, toks := tk }) :
    wpAny (model prog w) A (pyIter (.ref D)) (fun it s₂ => LoopAtV prog w A h₀ env x body Q E it s₂) E s := by
  have ND := N _ (.head _)
  have hls : s.heap.IsList D (strValues xs).toArray := ⟨_, ND.1, rfl, _, rfl⟩
  have hne : D ≠ s.heap.objs.size := Nat.ne_of_lt (Heap.lt_size ND.1)
  refine wpAny_pyIter_list hls ?_
  have W := Walks.list (prog := prog) (w := w) hh s.heap.objs.size D hne (strValues xs).toArray
  have hlen : (strValues xs).toArray.size = (xs.map (·.1)).length := by simp [strValues]
  rw [hlen] at W
  have nI : ∀ p ∈ news, p.1 ≠ s.heap.objs.size := fun p hp => Nat.ne_of_lt (Heap.lt_size (N p (.tail _ hp)).1)
  refine loop_invN (fun i m nx => NumJ (fun a => ((xs.map (·.1)).take i).foldlM pieceVal 0 = some a) sg ts news m nx) W ?_ ?_ ?_ ?_
    ⟨⟨_, Heap.get?_push_size _ rfl, rfl, rfl⟩, hls.push _⟩ (F.push _) (fun p hp => ⟨Heap.get?_push_of_some _ (N p (.tail _ hp)).1, (N p (.tail _ hp)).2⟩) ⟨rfl, 0, t₀, rfl, hw, hs⟩ ?_ ?_
  · intro hm
    rcases List.mem_cons.mp hm with e | hm
    · exact absurd F.ns.lt (e ▸ Nat.lt_irrefl _)
    · exact ND.2.1 (List.mem_singleton.mp hm).symm
  · intro b hb
    rw [List.mem_singleton.mp hb]
    exact next_is_new F
  · intro p hp hI
    exact nI p hp (List.mem_singleton.mp hI)
  · intro p hp hI
    rcases List.mem_cons.mp hI with e | hI
    · exact nI p hp e
    · exact Nat.ne_of_lt (hD p hp) (List.mem_singleton.mp hI)
  · rintro i v m₁ nx h tk own hi hP _ hoff ⟨rfl, a, t, ha, h1, h2⟩ F₁ N₁
    have hi' : i < xs.length := by simpa using hi
    have hx : (xs.map (·.1))[i]? = some xs[i].1 := by simp [hi']
    have hv : v = .str xs[i].1 xs[i].2 := by
      have hP' : (strValues xs).toArray[i]? = some v := hP
      simp [strValues, hi'] at hP'
      exact hP'.symm
    subst hv
    obtain ⟨e1, e2⟩ := foldlM_split pieceVal _ i 0 a _ hx ha
    rw [← two2_eq h1 h2] at F₁
    simp only [e1]
    exact turn xs[i].1 xs[i].2 a t m₁ h tk own (List.mem_of_getElem? hx) e2 hoff F₁ N₁
  · rintro m₁ nx h tk ⟨rfl, a, t, ha, h1, h2⟩ F₁ N₁
    rw [List.take_length] at ha
    rw [← two2_eq h1 h2] at F₁
    exact done a t m₁ h tk ha F₁ N₁
end
end Mine
end Num1Part

section Num2Part
open PySem PySem.W PyProof.Rows PySem.Calls PySem.Spec
set_option maxRecDepth 100000
set_option maxHeartbeats 8000000
namespace Mine
/-- what _law_number reads off a text -/
def lawNum (x : Str) : Option Int :=
  if (Txt.slice (Txt.stripChars x (Str.ofString " ")) none (some 1) == Str.ofString "-") = true then
    (numPieces (Txt.split (Txt.slice (Txt.stripChars x (Str.ofString " ")) (some 1) none) (Str.ofString "_"))).map (-1 * ·)
  else if ([Str.ofString "-", Str.ofString "+"].any fun y => y == Txt.slice (Txt.stripChars x (Str.ofString " ")) none (some 1)) = true then
    (numPieces (Txt.split (Txt.slice (Txt.stripChars x (Str.ofString " ")) (some 1) none) (Str.ofString "_"))).map (1 * ·)
  else (numPieces (Txt.split (Txt.stripChars x (Str.ofString " ")) (Str.ofString "_"))).map (1 * ·)
theorem lawNum_neg {x : Str} (h : (Txt.slice (Txt.stripChars x (Str.ofString " ")) none (some 1) == Str.ofString "-") = true) :
    lawNum x = (numPieces (Txt.split (Txt.slice (Txt.stripChars x (Str.ofString " ")) (some 1) none) (Str.ofString "_"))).map (-1 * ·) := by
  unfold lawNum; rw [if_pos h]
theorem lawNum_plus {x : Str} (h : (Txt.slice (Txt.stripChars x (Str.ofString " ")) none (some 1) == Str.ofString "-") = false)
    (h2 : ([Str.ofString "-", Str.ofString "+"].any fun y => y == Txt.slice (Txt.stripChars x (Str.ofString " ")) none (some 1)) = true) :
    lawNum x = (numPieces (Txt.split (Txt.slice (Txt.stripChars x (Str.ofString " ")) (some 1) none) (Str.ofString "_"))).map (1 * ·) := by
  unfold lawNum; rw [if_neg (by rw [h]; exact Bool.false_ne_true), if_pos h2]
theorem lawNum_bare {x : Str} (h : (Txt.slice (Txt.stripChars x (Str.ofString " ")) none (some 1) == Str.ofString "-") = false)
    (h2 : ([Str.ofString "-", Str.ofString "+"].any fun y => y == Txt.slice (Txt.stripChars x (Str.ofString " ")) none (some 1)) = false) :
    lawNum x = (numPieces (Txt.split (Txt.stripChars x (Str.ofString " ")) (Str.ofString "_"))).map (1 * ·) := by
  unfold lawNum; rw [if_neg (by rw [h]; exact Bool.false_ne_true), if_neg (by rw [h2]; exact Bool.false_ne_true)]
theorem lawNum_absurd {x : Str} (h : (Txt.slice (Txt.stripChars x (Str.ofString " ")) none (some 1) == Str.ofString "-") = true)
    (h2 : ([Str.ofString "-", Str.ofString "+"].any fun y => y == Txt.slice (Txt.stripChars x (Str.ofString " ")) none (some 1)) = false) : False := by
  have e : Txt.slice (Txt.stripChars x (Str.ofString " ")) none (some 1) = Str.ofString "-" := by simpa using h
  rw [e] at h2
  simp at h2

theorem execs_append (env : Env) (l₂ : List Stmt) : ∀ l₁ : List Stmt, execs (l₁ ++ l₂) env = (execs l₁ env >>= fun f => match f with | .next => execs l₂ env | f => pure f)
  | [] => rfl
  | st :: r => by
    show (exec st env >>= fun f => match f with | .next => execs (r ++ l₂) env | f => pure f) = ((exec st env >>= fun f => match f with | .next => execs r env | f => pure f) >>= _)
    rw [bind_assoc, execs_append env l₂ r]
    congr 1
    funext f
    cases f <;> rfl
theorem execs_cut {M : Model} {A : Around} {E : Value → Shared → Prop} {s : Shared} {env : Env} {Q : Flow → Shared → Prop} (P : Flow → Shared → Prop) {l₁ l₂ : List Stmt} (hP : ∀ f s', P f s' → f = .next)
    (h1 : wpAny M A (execs l₁ env) P E s) (h2 : ∀ s', P .next s' → wpAny M A (execs l₂ env) Q E s') : wpAny M A (execs (l₁ ++ l₂) env) Q E s := by
  rw [execs_append]
  refine wpAny_bind (wpAny_mono h1 (fun f s' h => ?_) fun _ _ x => x)
  have e := hP f s' h
  subst e
  exact h2 s' h
/-- where the sign is read and the body cut -/
def NumCut (g : Heap) (L : Addr) (news : List (Addr × Obj)) (x : Str) (s : Shared) (f : Flow) (s' : Shared) : Prop :=
  f = .next ∧ ∃ h tk m b tb sg ts, s' = { s with heap := h, toks := tk } ∧ Fr g L h m ∧ News g L h news ∧ m (Str.ofString "body") = some (.str b tb) ∧ m (Str.ofString "sign") = some (.int sg ts) ∧
    b.length ≤ 200 ∧ (sg = -1 ∨ sg = 1) ∧ lawNum x = (numPieces (Txt.split b (Str.ofString "_"))).map (sg * ·)
theorem numCut_intro {g : Heap} {L : Addr} {news news' : List (Addr × Obj)} {x : Str} {s : Shared} {h : Heap} {tk : Nat} {m : Str → Option Value} {b : Str} {tb : Tok} {sg : Int} {ts : Tok}
    (F : Fr g L h m) (N : News g L h news') (hs : ∀ p ∈ news, p ∈ news') (h1 : m (Str.ofString "body") = some (.str b tb)) (h2 : m (Str.ofString "sign") = some (.int sg ts)) (h3 : b.length ≤ 200) (h4 : sg = -1 ∨ sg = 1)
    (h5 : lawNum x = (numPieces (Txt.split b (Str.ofString "_"))).map (sg * ·)) : NumCut g L news x s .next { s with heap := h, toks := tk } :=
  ⟨rfl, h, tk, m, b, tb, sg, ts, rfl, F, fun p hp => N p (hs p hp), h1, h2, h3, h4, h5⟩
theorem bs_eq {m : Str → Option Value} {b : Str} {tb : Tok} {sg : Int} {ts : Tok} (h1 : m (Str.ofString "body") = some (.str b tb)) (h2 : m (Str.ofString "sign") = some (.int sg ts)) :
    (fun y => if y = Str.ofString "body" then some (.str b tb) else if y = Str.ofString "sign" then some (.int sg ts) else m y) = m := by
  funext y
  by_cases e : y = Str.ofString "body"
  · rw [if_pos e, e, h1]
  · rw [if_neg e]
    by_cases e2 : y = Str.ofString "sign"
    · rw [if_pos e2, e2, h2]
    · rw [if_neg e2]
theorem numJ_end {h₀ : Heap} {L : Addr} {ok : Int → Prop} {sg : Int} {ts : Tok} {news own news' : List (Addr × Obj)} {s₁ : Shared} {h' : Heap} {tk : Nat} {m' : Str → Option Value} {a : Int} {t : Tok} (F : Fr h₀ L h' m') (N : News h₀ L h' news')
    (h1 : ∀ p ∈ news, p ∈ news') (h2 : ∀ p ∈ own, p ∈ news') (hok : ok a) (hw : m' (Str.ofString "worth") = some (.int a t)) (hs : m' (Str.ofString "sign") = some (.int sg ts)) :
    InvEndN h₀ L (NumJ ok sg ts news) own (news.map (·.1)) s₁ { s₁ with heap := h', toks := tk } :=
  ⟨h', tk, m', news', news, rfl, F, N, h1, h2, rfl, rfl, a, t, hok, hw, hs⟩

theorem sub_cons {a : Addr × Obj} {n n' : List (Addr × Obj)} (h : ∀ p ∈ n, p ∈ n') : ∀ p ∈ a :: n, p ∈ a :: n' := fun p hp => by
  rcases List.mem_cons.mp hp with rfl | hp
  · exact .head _
  · exact .tail _ (h p hp)
theorem sub_app {n o : List (Addr × Obj)} : ∀ p ∈ n, p ∈ n ++ o := fun _ hp => List.mem_append_left _ hp
theorem sub_app2 {n o o' : List (Addr × Obj)} : ∀ p ∈ n, p ∈ n ++ o ++ o' := fun _ hp => List.mem_append_left _ (List.mem_append_left _ hp)
theorem pieceVal_empty {a : Int} {p : Str} (h : (p == Str.ofString "") = true) : pieceVal a p = none := by unfold pieceVal; rw [if_pos h]
theorem pieceVal_of {a : Int} {p : Str} (h : (p == Str.ofString "") = false) : pieceVal a p = p.cps.toList.foldlM figStep a := by
  unfold pieceVal; rw [if_neg (by rw [h]; exact Bool.false_ne_true)]
theorem figStep_none {a : Int} {c : Nat} (h : Txt.find (Str.ofString "0123456789") ⟨#[c]⟩ < 0) : figStep a c = none := if_pos h
theorem figStep_some {a : Int} {c : Nat} (h : ¬ Txt.find (Str.ofString "0123456789") ⟨#[c]⟩ < 0) : figStep a c = some (10 * a + Txt.find (Str.ofString "0123456789") ⟨#[c]⟩) := if_neg h
local macro_rules | `(tactic| walk_at "call builtin:str.split") => `(tactic| (k_here; (with_reducible show wpAny _ _ (call (Value.builtin "str.split") [Value.str _ _, Value.str _ _]) _ _ _); (refine KSpl.split1 (by k_asm) (by k_asm) (by decide) ?_ (by rw [PySem.sizeLine_eq]; omega)); (intro D' l' h' k' e' a' F' N' l1)))
local macro_rules | `(tactic| walk_at "exec For Name Name cons nil") => `(tactic| (k_here; (rename Fr _ _ _ _ => lF'); (with_unfolding_all refine' For_invVF lF' ?k1 ?k2 ?_; (case k1 => exact rfl); (case k2 => exact rfl); k_whole)))
theorem num_call (w : World) (mean : ExcName → Option Value) (mg mb : Str → Option Value)
   (dp un : Nat) (gd : Option (List Code)) (cn : Str) (cs : Scope) (a : Addr) (ccd : Value) (cl : List (Str × Addr)) (outer : List Env) (A₀ : Around) (base h₀ : Heap) (L : Addr) (m : Str → Option Value) (news : List (Addr × Obj)) (s : Shared) (Q E : Value → Shared → Prop) (x : Str) (u : Tok)
   (B : Below A₀ base outer h₀) (F : Fr h₀ L s.heap m) (X : (hd.heap_39 w.params).In h₀) (N : News h₀ L s.heap news) (T : Top hd.view_39 (looseW hd.view_39 []) mean mg mb h₀) (hk : cs.kind = .function)
   (hx : x.length ≤ 200) (hdp : dp + 10 < recursionLimit) (hu : un + 100 < cLine)
   (hnone : ∀ D h' tk, lawNum x = none → Fr h₀ L h' m → News h₀ L h' ((D, W.listOf #[] 0) :: news) → Q (.ref D) { s with heap := h', toks := tk })
   (hsome : ∀ D v t h' tk, lawNum x = some v → Fr h₀ L h' m → News h₀ L h' ((D, W.listOf #[.int v t] 0) :: news) → Q (.ref D) { s with heap := h', toks := tk }) :
   wpAny (model Challenge.rw_ki0032_01.row.prog w) (ktrTop dp un gd cn cs L a ccd cl outer) (call (.ref 28) [.str x u]) Q E s := by
  w_top off
  revert X; k_fill; intro X
  refine wpAny_call ?_
  k_dflt ktr_enter
  rename_i g' L' h' FG' F' N' B' X' T'
  change wpAny _ _ (execs ([_, _, _] ++ [_, _, _]) _) _ _ _
  refine execs_cut (NumCut g' L' news x s) (fun _ _ h => h.1) ?_ ?_
  · k_steps
    all_goals first
      | (exfalso; exact lawNum_absurd (by with_reducible assumption) (by with_reducible assumption))
      | (refine' numCut_intro ?k1 ?k2 ?k3 ?k4 ?k5 ?k6 ?k7 ?k8
         case k1 => k_asm
         case k2 => k_asm
         case k3 => exact fun p hp => List.Mem.tail _ hp
         case k4 => exact rfl
         case k5 => exact rfl
         case k6 => omega
         case k7 => first | exact .inl rfl | exact .inr rfl
         case k8 => first | exact lawNum_neg (by with_reducible assumption) | exact lawNum_plus (by with_reducible assumption) (by with_reducible assumption) | exact lawNum_bare (by with_reducible assumption) (by with_reducible assumption))
  · clear F' N'
    rintro s' ⟨_, h, tk, m', b, tb, sg, ts, rfl, F', N', hb, hsg, hlen, hpm, hlaw⟩
    rw [← bs_eq hb hsg] at F'
    clear hb hsg
    have hlo : -1 ≤ sg := by omega
    have hhi : sg ≤ 1 := by omega
    clear hpm
    k_steps
    rename_i e' _ _ _ l1
    k_here
    refine' num_outer ?k1 ?k2 ?k3 ?k4 ?k5 ?k6 ?_ ?_
    case k1 => exact rfl
    case k2 => k_asm
    case k3 => k_asm
    case k4 => exact l1
    case k5 => exact rfl
    case k6 => exact rfl
    · intro p u' a' t' m₂ h₂ tk₂ own hp hno hoff F₂ N₂
      rw [e'] at hno
      clear l1
      k_fold
      k_steps
      · refine' hnone _ _ _ ?_ ?k2 ?k3
        · rw [hlaw, hno (pieceVal_empty (by with_reducible assumption))]; rfl
        case k2 => k_asm
        case k3 => exact kst_newsOf (by k_asm) (sub_cons sub_app)
      · have hne : (p == Str.ofString "") = false := by with_reducible assumption
        k_here
        refine' num_inner ?k1 ?k2 ?k3 ?k4 ?k5 ?_ ?_
        case k1 => exact rfl
        case k2 => k_asm
        case k3 => k_asm
        case k4 => exact rfl
        case k5 => exact rfl
        · intro c u3 a3 t3 m3 h3 tk3 own3 hc hno3 hoff3 F3 N3
          (try k_fold)
          k_steps
          · refine' hnone _ _ _ ?_ ?k2 ?k3
            · rw [hlaw, hno (by rw [pieceVal_of hne]; exact hno3 (figStep_none (by with_reducible assumption)))]; rfl
            case k2 => k_asm
            case k3 => exact kst_newsOf (by k_asm) (sub_cons sub_app2)
          · refine' numJ_end ?k1 ?k2 ?k3 ?k4 ?k5 ?k6 ?k7
            case k1 => k_asm
            case k2 => k_asm
            case k3 => exact sub_app
            case k4 => exact fun p hp => List.mem_append_right _ hp
            case k6 => exact rfl
            case k7 => exact rfl
            case k5 => exact figStep_some (by with_reducible assumption)
        · intro a4 t4 m4 h4 tk4 hfo F4 N4
          (try k_fold)
          k_steps
          refine' numJ_end ?k1 ?k2 ?k3 ?k4 ?k5 ?k6 ?k7
          case k1 => k_asm
          case k2 => k_asm
          case k3 => exact sub_app
          case k4 => exact fun p hp => List.mem_append_right _ hp
          case k6 => exact rfl
          case k7 => exact rfl
          case k5 => exact (pieceVal_of hne).trans hfo
    · intro a' t' m₂ h₂ tk₂ hp F₂ N₂
      rw [e'] at hp
      (try k_fold)
      k_steps
      refine' hsome _ _ _ _ _ ?_ ?k2 ?k3
      case k2 => k_asm
      case k3 => k_asm
      · rw [hlaw, hp]; rfl
end Mine
end Num2Part

section Pair1Part
open PySem PySem.W PyProof.Rows PySem.Calls PySem.Spec
set_option maxRecDepth 100000
set_option maxHeartbeats 8000000
namespace Mine
theorem num_callI {w : World} {mean : ExcName → Option Value} {mg mb : Str → Option Value}
   {dp un : Nat} {gd : Option (List Code)} {cn : Str} {cs : Scope} {a : Addr} {ccd : Value} {cl : List (Str × Addr)} {outer : List Env} {A₀ : Around} {base h₀ : Heap} {L : Addr} {m : Str → Option Value} {news : List (Addr × Obj)} {s : Shared} {Q E : Value → Shared → Prop} {x : Str} {u : Tok}
   (B : Below A₀ base outer h₀) (F : Fr h₀ L s.heap m) (X : (hd.heap_39 w.params).In h₀) (N : News h₀ L s.heap news) (T : Top hd.view_39 (looseW hd.view_39 []) mean mg mb h₀) (hk : cs.kind = .function)
   (hx : x.length ≤ 200) (hdp : dp + 10 < recursionLimit) (hu : un + 100 < cLine)
   (hnone : ∀ D h' tk, lawNum x = none → Fr h₀ L h' m → News h₀ L h' ((D, W.listOf #[] 0) :: news) → Q (.ref D) { s with heap := h', toks := tk })
   (hsome : ∀ D v t h' tk, lawNum x = some v → Fr h₀ L h' m → News h₀ L h' ((D, W.listOf #[.int v t] 0) :: news) → Q (.ref D) { s with heap := h', toks := tk }) :
   wpAny (model Challenge.rw_ki0032_01.row.prog w) (ktrTop dp un gd cn cs L a ccd cl outer) (call (.ref 28) [.str x u]) Q E s :=
  num_call w mean mg mb dp un gd cn cs a ccd cl outer A₀ base h₀ L m news s Q E x u B F X N T hk hx hdp hu hnone hsome

local macro_rules | `(tactic| walk_at "call ref") => `(tactic| (k_here; (with_reducible show wpAny _ _ (call (Value.ref 28) [Value.str _ _]) _ _ _); k_dflt (refine' num_callI ?k1 ?k2 ?k3 ?k4 ?k5 ?k6 ?k7 ?k8 ?k9 ?_ ?_; (case k1 => k_asm); (case k2 => k_asm); (case k3 => k_asm); (case k4 => k_asm); (case k5 => k_asm); (case k6 => exact rfl); (case k7 => omega); (case k8 => ktr_room); (case k9 => ktr_units)); (all_goals intros)))
/-- what _law_pair reads off a text -/
def lawPair (x : Str) : Option (Int × Int) :=
  if Txt.find x (Str.ofString ".") < 0 then none
  else if 0 ≤ Txt.find3 x (Str.ofString ".") (Txt.find x (Str.ofString ".") + 1) then none
  else match lawNum (Txt.slice x none (some (Txt.find x (Str.ofString ".")))), lawNum (Txt.slice x (some (Txt.find x (Str.ofString ".") + 1)) none) with
    | some i, some j => some (i, j)
    | _, _ => none
theorem lawPair_no {x : Str} (h : Txt.find x (Str.ofString ".") < 0) : lawPair x = none := if_pos h
theorem lawPair_more {x : Str} (h0 : ¬ Txt.find x (Str.ofString ".") < 0) (h : 0 ≤ Txt.find3 x (Str.ofString ".") (Txt.find x (Str.ofString ".") + 1)) : lawPair x = none := by
  unfold lawPair; rw [if_neg h0, if_pos h]
theorem lawPair_one {x : Str} (h0 : ¬ Txt.find x (Str.ofString ".") < 0) (h : ¬ 0 ≤ Txt.find3 x (Str.ofString ".") (Txt.find x (Str.ofString ".") + 1)) :
    lawPair x = match lawNum (Txt.slice x none (some (Txt.find x (Str.ofString ".")))), lawNum (Txt.slice x (some (Txt.find x (Str.ofString ".") + 1)) none) with
      | some i, some j => some (i, j)
      | _, _ => none := by
  unfold lawPair; rw [if_neg h0, if_neg h]
theorem lawPair_l {x : Str} (h0 : ¬ Txt.find x (Str.ofString ".") < 0) (h : ¬ 0 ≤ Txt.find3 x (Str.ofString ".") (Txt.find x (Str.ofString ".") + 1))
    (h1 : lawNum (Txt.slice x none (some (Txt.find x (Str.ofString ".")))) = none) : lawPair x = none := by
  rw [lawPair_one h0 h, h1]
theorem lawPair_r {x : Str} (h0 : ¬ Txt.find x (Str.ofString ".") < 0) (h : ¬ 0 ≤ Txt.find3 x (Str.ofString ".") (Txt.find x (Str.ofString ".") + 1))
    (h1 : lawNum (Txt.slice x (some (Txt.find x (Str.ofString ".") + 1)) none) = none) : lawPair x = none := by
  rw [lawPair_one h0 h, h1]
  split <;> simp_all
theorem lawPair_two {x : Str} {i j : Int} (h0 : ¬ Txt.find x (Str.ofString ".") < 0) (h : ¬ 0 ≤ Txt.find3 x (Str.ofString ".") (Txt.find x (Str.ofString ".") + 1))
    (h1 : lawNum (Txt.slice x none (some (Txt.find x (Str.ofString ".")))) = some i) (h2 : lawNum (Txt.slice x (some (Txt.find x (Str.ofString ".") + 1)) none) = some j) : lawPair x = some (i, j) := by
  rw [lawPair_one h0 h, h1, h2]
abbrev tupOf (i : Int) (t : Tok) (j : Int) (u : Tok) : Obj := { cls := .type "tuple", data := .seq #[.int i t, .int j u] }
theorem sub_tail {a : Addr × Obj} {n n' : List (Addr × Obj)} (h : ∀ p ∈ n, p ∈ n') : ∀ p ∈ n, p ∈ a :: n' := fun p hp => .tail _ (h p hp)
theorem sub_refl {n : List (Addr × Obj)} : ∀ p ∈ n, p ∈ n := fun _ hp => hp
theorem pair_call {w : World} {mean : ExcName → Option Value} {mg mb : Str → Option Value}
   {cn : Str} {cs : Scope} {a : Addr} {ccd : Value} {base : Heap} {L : Addr} {m : Str → Option Value} {news : List (Addr × Obj)} {s : Shared} {Q E : Value → Shared → Prop} {x : Str} {u : Tok}
   (B : Below callerA base [] base) (F : Fr base L s.heap m) (X : (hd.heap_39 w.params).In base) (N : News base L s.heap news) (T : Top hd.view_39 (looseW hd.view_39 []) mean mg mb base) (hk : cs.kind = .function)
   (hx : x.length ≤ 200)
   (hnone : ∀ h' tk, lawPair x = none → Fr base L h' m → News base L h' news → Q .none { s with heap := h', toks := tk })
   (hsome : ∀ D i t j u h' tk, lawPair x = some (i, j) → Fr base L h' m → News base L h' ((D, tupOf i t j u) :: news) → Q (.ref D) { s with heap := h', toks := tk }) :
   wpAny (model Challenge.rw_ki0032_01.row.prog w) (callerA.deeper (envOf cn cs L a ccd)) (call (.ref 35) [.str x u]) Q E s := by
  w_top off
  revert X; k_fill; intro X
  obtain ⟨kd, c2, c3, c4, c5⟩ := cs
  dsimp only at hk
  subst hk
  k_steps
  · exact hnone _ _ (lawPair_no (by with_reducible assumption)) (by k_asm) (by k_asm)
  · exact hnone _ _ (lawPair_more (by with_reducible assumption) (by with_reducible assumption)) (by k_asm) (by k_asm)
  · exact hnone _ _ (lawPair_l (by with_reducible assumption) (by with_reducible assumption) (by with_reducible assumption)) (by k_asm) (kst_newsOf (by k_asm) (sub_tail (sub_tail (sub_tail sub_refl))))
  · exact hnone _ _ (lawPair_l (by with_reducible assumption) (by with_reducible assumption) (by with_reducible assumption)) (by k_asm) (kst_newsOf (by k_asm) (sub_tail (sub_tail (sub_tail sub_refl))))
  · exact hnone _ _ (lawPair_r (by with_reducible assumption) (by with_reducible assumption) (by with_reducible assumption)) (by k_asm) (kst_newsOf (by k_asm) (sub_tail (sub_tail (sub_tail sub_refl))))
  · refine' hsome _ _ _ _ _ _ _ (lawPair_two ?k1 ?k2 ?k3 ?k4) ?k5 ?k6
    case k1 => with_reducible assumption
    case k2 => with_reducible assumption
    case k3 => with_reducible assumption
    case k4 => with_reducible assumption
    case k5 => k_asm
    case k6 => exact kst_newsOf (by k_asm) (sub_cons (sub_tail (sub_tail (sub_tail sub_refl))))
end Mine
end Pair1Part

section Told2Part
open PySem PySem.W PyProof.Rows PySem.Calls PySem.Spec
set_option maxRecDepth 100000
set_option maxHeartbeats 8000000
namespace Mine
/-- signs of the ASCII table -/
def Ok (x : Str) : Prop := ∀ d ∈ x.cps.toList, d < 128
theorem sub_ok {x : Str} (h : Ok x) (i j : Nat) : Ok (Builtin.Str.strSub x i j) := fun d hd => h d (by rw [StrLaws.strSub_toList] at hd; exact List.mem_of_mem_drop (List.mem_of_mem_take hd))
theorem parts_ok {x : Str} (h : Ok x) (w : Nat) : ∀ (cuts : List Nat) (a : Nat), ∀ p ∈ StrLaws.partsFrom x w a cuts, Ok p
  | [], a, p, hp => by
    have e : p = Builtin.Str.strSub x a x.length := by simpa [StrLaws.partsFrom] using hp
    rw [e]; exact sub_ok h _ _
  | c :: cuts, a, p, hp => by
    have e : p = Builtin.Str.strSub x a c ∨ p ∈ StrLaws.partsFrom x w (c + w) cuts := by simpa [StrLaws.partsFrom] using hp
    rcases e with rfl | e
    · exact sub_ok h _ _
    · exact parts_ok h w cuts _ p e
theorem split_Ok {x y : Str} (h : Ok x) : ∀ p ∈ Txt.split x y, Ok p := by
  intro p hp
  unfold Txt.split at hp
  split at hp
  · rw [List.mem_singleton.mp hp]; exact h
  · split at hp
    · rw [List.mem_singleton.mp hp]; exact h
    · rw [StrLaws.partsBetween_eq] at hp
      exact parts_ok h _ _ _ p hp
theorem split_ok {x y : Str} (h : Ok x) {l : List (Str × Tok)} (e : List.map (fun x => x.1) l = Txt.split x y) : ∀ p ∈ l, ∀ d ∈ p.1.cps.toList, d < 128 :=
  fun p hp => split_Ok (y := y) h p.1 (by rw [← e]; exact List.mem_map_of_mem hp)
theorem split_len {x : Str} (h : x.length ≤ 640) {l : List (Str × Tok)} (e : ∀ (a : Str), a ∈ List.map (fun x => x.1) l → a.length ≤ x.length) : ∀ p ∈ l, p.1.length ≤ 640 :=
  fun p hp => Nat.le_trans (e p.1 (List.mem_map_of_mem hp)) h
/-- what get_line_col reads off a text -/
def told (x : Str) : Option (Int × Int) := two (Txt.split x (Str.ofString "."))

local macro_rules | `(tactic| walk_at "call type:map") => `(tactic| (k_here; (with_reducible show wpAny _ _ (call (Value.type "map") [_, Value.ref _]) _ _ _); refine call_mapN (by k_asm) (by k_asm) (by first | with_reducible assumption | exact News.isList (by k_asm) (by k_mem)) ?_; intro M' T' I' h' F' N' hl' n1 n2 n3 n4))
local macro_rules | `(tactic| walk_at "assign Tuple") => `(tactic| (k_here; (with_reducible show wpAny _ _ (assign (Expr.Tuple _ _ _) _ (Value.ref _)) _ _ _); k_dflt (refine' assign_mapN ?k1 ?k2 ?k3 ?k4 ?k5 ?k6 ?k7 ?k8 ?k9 ?k10 ?k11 ?k12 ?_ ?_; (case k1 => exact rfl); (case k2 => k_asm); (case k3 => k_asm); (case k4 => assumption); (case k5 => assumption); (case k6 => assumption); (case k7 => assumption); (case k8 => assumption); (case k9 => exact split_len (by assumption) (by assumption)); (case k10 => exact split_ok (by assumption) (by assumption)); (case k11 => exact rfl); (case k12 => exact rfl)); (all_goals intros)))
theorem told_call {w : World} {mean : ExcName → Option Value} {mg mb : Str → Option Value}
   {cn : Str} {cs : Scope} {a : Addr} {ccd : Value} {base : Heap} {L : Addr} {m : Str → Option Value} {news : List (Addr × Obj)} {s : Shared} {Q E : Value → Shared → Prop} {x : Str} {u : Tok}
   (B : Below callerA base [] base) (F : Fr base L s.heap m) (X : (hd.heap_39 w.params).In base) (N : News base L s.heap news) (T : Top hd.view_39 (looseW hd.view_39 []) mean mg mb base) (hk : cs.kind = .function)
   (hx : x.length ≤ 640) (ok : Ok x)
   (hnone : ∀ h' tk, told x = none → Fr base L h' m → News base L h' news → Q .none { s with heap := h', toks := tk })
   (hsome : ∀ D i t j u h' tk, told x = some (i, j) → Fr base L h' m → News base L h' ((D, tupOf i t j u) :: news) → Q (.ref D) { s with heap := h', toks := tk }) :
   wpAny (model Challenge.rw_ki0032_01.row.prog w) (callerA.deeper (envOf cn cs L a ccd)) (call (.ref 42) [.str x u]) Q E s := by
  w_top off
  revert X; k_fill; intro X
  obtain ⟨kd, c2, c3, c4, c5⟩ := cs
  dsimp only at hk
  subst hk
  k_steps
  · with_reducible rename List.map _ _ = Txt.split _ _ => e1
    refine' hsome _ _ _ _ _ _ _ ?k1 ?k2 ?k3
    case k2 => k_asm
    case k3 => exact kst_newsOf (by k_asm) (sub_cons (sub_tail sub_refl))
    case k1 =>
      unfold told
      rw [← e1]
      assumption
  · with_reducible rename List.map _ _ = Txt.split _ _ => e1
    refine' hnone _ _ ?k1 ?k2 ?k3
    case k2 => k_asm
    case k3 => exact kst_newsOf (by k_asm) (sub_tail sub_refl)
    case k1 =>
      unfold told
      rw [← e1]
      assumption
/-- get_line_col itself, of a text that it takes -/
theorem glc_call {w : World} {mean : ExcName → Option Value} {mg mb : Str → Option Value}
   {cn : Str} {cs : Scope} {a : Addr} {ccd : Value} {base : Heap} {L : Addr} {m : Str → Option Value} {news : List (Addr × Obj)} {s : Shared} {Q E : Value → Shared → Prop} {x : Str} {u : Tok} {i j : Int}
   (B : Below callerA base [] base) (F : Fr base L s.heap m) (X : (hd.heap_39 w.params).In base) (N : News base L s.heap news) (T : Top hd.view_39 (looseW hd.view_39 []) mean mg mb base) (hk : cs.kind = .function)
   (hx : x.length ≤ 640) (ok : Ok x) (ht : told x = some (i, j))
   (hsome : ∀ D t u h' tk, Fr base L h' m → News base L h' ((D, tupOf i t j u) :: news) → Q (.ref D) { s with heap := h', toks := tk }) :
   wpAny (model Challenge.rw_ki0032_01.row.prog w) (callerA.deeper (envOf cn cs L a ccd)) (call (.ref 21) [.str x u]) Q E s := by
  w_top off
  revert X; k_fill; intro X
  obtain ⟨kd, c2, c3, c4, c5⟩ := cs
  dsimp only at hk
  subst hk
  k_steps
  · with_reducible rename List.map _ _ = Txt.split _ _ => e1
    with_reducible rename two _ = _ => e2
    unfold told at ht
    rw [e1, ht] at e2
    injection e2 with e2
    injection e2 with e3 e4
    subst e3 e4
    refine' hsome _ _ _ _ _ ?k2 ?k3
    case k2 => k_asm
    case k3 => exact kst_newsOf (by k_asm) (sub_cons (sub_tail sub_refl))
  · with_reducible rename List.map _ _ = Txt.split _ _ => e1
    with_reducible rename two _ = _ => e2
    unfold told at ht
    rw [e1, ht] at e2
    cases e2
end Mine
end Told2Part

section SignsPart
open PySem PySem.W PyProof.Rows PySem.Calls PySem.Spec
set_option maxRecDepth 100000
namespace Mine
/-- the signs that the law draws from -/
def alph : List Nat := [48, 49, 50, 51, 52, 53, 54, 55, 56, 57, 46, 43, 45, 95, 32, 120]
def Good (x : Str) : Prop := x.length ≤ 40 ∧ ∀ c ∈ x.cps.toList, c ∈ alph
theorem alph_lt : ∀ c ∈ alph, c < 128 := by decide
theorem Good.ok {x : Str} (h : Good x) : Ok x := fun d hd => alph_lt d (h.2 d hd)
def Signs (vs : List Value) : Prop := vs.length ≤ 16 ∧ ∀ v ∈ vs, ∃ c t, v = .str ⟨#[c]⟩ t ∧ c ∈ alph
abbrev signText : Str := Str.ofString "0123456789.+-_ x"
theorem sign_at : ∀ r : Nat, r < 16 → ∃ c, Txt.item signText (r : Int) = ⟨#[c]⟩ ∧ c ∈ alph := by
  intro r hr
  have h : ∀ r : Nat, r < 16 → ((Txt.charAt signText (r : Int)).getD 0) ∈ alph := by decide +kernel
  exact ⟨_, rfl, h r hr⟩
theorem sign_mod (k : Int) : ∃ c, Txt.item signText (k.fmod 16) = ⟨#[c]⟩ ∧ c ∈ alph := by
  have h0 : 0 ≤ k.fmod 16 := Int.fmod_nonneg_of_pos k (by decide)
  have h1 : k.fmod 16 < 16 := Int.fmod_lt_of_pos k (by decide)
  obtain ⟨r, hr⟩ := Int.eq_ofNat_of_zero_le h0
  rw [hr]
  exact sign_at r (by omega)
theorem signs_carried : ∀ {ys : List Value} {ns : List Int}, CarriedAll ys (ns.map fun k => PyData.str (Txt.item signText (k.fmod 16))) → ∀ v ∈ ys, ∃ c t, v = .str ⟨#[c]⟩ t ∧ c ∈ alph
  | _, [], .nil, v, hv => nomatch hv
  | _, k :: ns, .cons (.str _ t) r, v, hv => by
    rcases List.mem_cons.mp hv with rfl | hv
    · obtain ⟨c, e, hc⟩ := sign_mod k
      exact ⟨c, t, by rw [e], hc⟩
    · exact signs_carried r v hv
theorem signs_of {ys : List Value} {ns : List Int} (h : CarriedAll ys (ns.map fun k => PyData.str (Txt.item signText (k.fmod 16)))) (hn : ns.length ≤ 16) : Signs ys :=
  ⟨by rw [h.length_eq, List.length_map]; exact hn, signs_carried h⟩
theorem signs_pick {ys : List Value} (h : Signs ys) (lo hi st : Option Int) : Signs (slicePick ys.toArray lo hi st).toList := by
  refine ⟨?_, fun v hv => h.2 v ?_⟩
  · have := slicePick_size_le ys.toArray lo hi st
    rw [Array.length_toList]
    have e : ys.toArray.size = ys.length := List.size_toArray
    have := h.1
    omega
  · unfold slicePick at hv
    rw [List.toList_toArray] at hv
    obtain ⟨i, _, hi⟩ := List.mem_filterMap.mp hv
    have := Array.mem_of_getElem? hi
    simpa using this
theorem signs_strs : ∀ {ys : List Value}, (∀ v ∈ ys, ∃ c t, v = .str ⟨#[c]⟩ t ∧ c ∈ alph) → ∃ xs : List Str, CarriedAll ys (xs.map fun a => PyData.str a) ∧ xs.length = ys.length ∧ ∀ x ∈ xs, ∃ c, x = ⟨#[c]⟩ ∧ c ∈ alph
  | [], _ => ⟨[], .nil, rfl, fun _ h => nomatch h⟩
  | v :: ys, h => by
    obtain ⟨c, t, rfl, hc⟩ := h v (.head _)
    obtain ⟨xs, h1, h2, h3⟩ := signs_strs (ys := ys) fun v hv => h v (.tail _ hv)
    refine ⟨⟨#[c]⟩ :: xs, .cons (.str _ t) h1, by simp [h2], fun x hx => ?_⟩
    rcases List.mem_cons.mp hx with rfl | hx
    · exact ⟨c, rfl, hc⟩
    · exact h3 x hx
theorem join_mem : ∀ (xs : List Str) (c : Nat), c ∈ (Str.join (Str.ofString "") xs).cps.toList → ∃ x ∈ xs, c ∈ x.cps.toList
  | [], c, h => by simp [Str.join, Str.empty] at h
  | [x], c, h => ⟨x, .head _, h⟩
  | x :: y :: r, c, h => by
    have h' : c ∈ (x ++ Str.ofString "" ++ Str.join (Str.ofString "") (y :: r)).cps.toList := h
    rw [Str.cps_append, Str.cps_append, Array.toList_append, Array.toList_append] at h'
    rcases List.mem_append.mp h' with h' | h'
    · rcases List.mem_append.mp h' with h' | h'
      · exact ⟨x, .head _, h'⟩
      · have e : (Str.ofString "").cps.toList = [] := by decide
        rw [e] at h'; cases h'
    · obtain ⟨z, hz, hc⟩ := join_mem (y :: r) c h'
      exact ⟨z, .tail _ hz, hc⟩
section
variable {prog : Program} {w : World} {A : Around} {E : Value → Shared → Prop} {s : Shared} {h₀ : Heap} {L l : Addr} {m : Str → Option Value} {news : List (Addr × Obj)} {Q : Value → Shared → Prop} {ys : List Value} {t : Tok}
theorem join_signs (hl : s.heap.IsList l ys.toArray) (hs : Signs ys)
    (h : ∀ y t' k, y.length ≤ 16 → (∀ c ∈ y.cps.toList, c ∈ alph) → Q (.str y t') { s with toks := k }) :
    wpAny (model prog w) A (call (.builtin "str.join") [.str (Str.ofString "") t, .ref l]) Q E s := by
  obtain ⟨xs, h1, h2, h3⟩ := signs_strs hs.2
  refine KT.join_1 (g := fun a => a) hl h1 (fun a ha => by obtain ⟨c, rfl, _⟩ := h3 a ha; rfl) (by have := hs.1; omega) fun t' k e => ?_
  rw [List.map_id'] at e ⊢
  refine h _ t' k (by rw [e, h2]; exact hs.1) fun c hc => ?_
  have hc' : c ∈ (Str.join (Str.ofString "") xs).cps.toList := by
    rw [← StrLaws.glued_eq_join]; exact hc
  obtain ⟨x, hx, hcx⟩ := join_mem xs c hc'
  obtain ⟨d, rfl, hd⟩ := h3 x hx
  have : c = d := by simpa using hcx
  rw [this]; exact hd
theorem slice_signs {value slice : PySem.Expr} {vl vu vk : Value} {lo hi st : Option Int} {ops : List Value} (F : Fr h₀ L s.heap m) (N : News h₀ L s.heap news) (hl : s.heap.IsList l ys.toArray) (hs : Signs ys)
    (pl : IsPart vl lo) (pu : IsPart vu hi) (pk : IsPart vk st) (h0 : st ≠ some 0)
    (h : ∀ D h' ws, Fr h₀ L h' m → News h₀ L h' ((D, W.listOf (List.toArray ws) 0) :: news) → Signs ws → (∀ p ∈ news, p.1 < D) → Q (.ref D) { s with heap := h' })
    (hs' : subscripted slice false (.ref l) (.ref s.heap.objs.size) = operate ops (getItem (.ref l) (.ref s.heap.objs.size))) (ht : ∀ r, letTemporaryGo value (.ref l) r = pure ()) :
    wpAny (model prog w) A (subscriptTail value slice (.ref l) (.ref s.heap.objs.size)) Q E { s with heap := s.heap.push { cls := .type "slice", data := .fields #[vl, vu, vk] } } := by
  have hz : ys.toArray.size ≤ sizeLine := by rw [List.size_toArray, sizeLine_eq]; have := hs.1; omega
  exact kmk_slice3_lit F N hl pl pu pk h0 rfl (fun D h' F' N' l1 => h D h' _ F' N' (signs_pick hs lo hi st) l1) hs' ht hz
end
theorem good_one {y : Str} (h : y.length ≤ 16) (hc : ∀ c ∈ y.cps.toList, c ∈ alph) : Good y := ⟨by omega, hc⟩
theorem good_cat {y z : Str} (h : y.length ≤ 16) (hc : ∀ c ∈ y.cps.toList, c ∈ alph) (h' : z.length ≤ 16) (hc' : ∀ c ∈ z.cps.toList, c ∈ alph) : Good (y ++ Str.ofString "." ++ z) := by
  refine ⟨?_, fun c h2 => ?_⟩
  · have e : (Str.ofString ".").length = 1 := by decide
    rw [Str.length_append, Str.length_append, e]; omega
  · rw [Str.cps_append, Str.cps_append, Array.toList_append, Array.toList_append] at h2
    rcases List.mem_append.mp h2 with h2 | h2
    · rcases List.mem_append.mp h2 with h2 | h2
      · exact hc c h2
      · have e : (Str.ofString ".").cps.toList = [46] := by decide
        rw [e] at h2
        have : c = 46 := by simpa using h2
        subst this
        decide
    · exact hc' c h2
end Mine
end SignsPart

section PctPart
open PySem PySem.W PyProof.Rows PySem.Calls PySem.Spec
set_option maxRecDepth 100000
set_option maxHeartbeats 4000000
namespace Mine
open Builtin Builtin.Str
theorem toString_neg (m : Nat) (h : m ≠ 0) : (toString (-(m : Int))) = "-" ++ toString (m : Nat) := by
  cases m with
  | zero => exact absurd rfl h
  | succ k => rfl
theorem ofString_append (a b : String) : Str.ofString (a ++ b) = Str.ofString a ++ Str.ofString b := by
  refine Str.ext' (Array.toList_inj.mp ?_)
  rw [Str.cps_append, Array.toList_append, signs_ofString, signs_ofString, signs_ofString]
  simp
theorem int_textZ (c : Percent) (h1 : c.alt = false) (h2 : c.type = 100) (h3 : c.prec = none) (h4 : c.sign = false) (h5 : c.blank = false) (n : Int) :
    percentInt c (decide (n < 0)) (Str.ofString (toString ((n.natAbs : Nat) : Int))).cps.toList = (Str.ofString (toString n)).cps.toList := by
  by_cases hn : 0 ≤ n
  · rw [KPc.int_text c h1 (.inl h2) h3 hn]
    rw [Int.natAbs_of_nonneg hn]
  · have hd : decide (n < 0) = true := decide_eq_true (by omega)
    rw [hd]
    obtain ⟨m, hm⟩ : ∃ m : Nat, n = -(m : Int) := ⟨n.natAbs, by omega⟩
    have hm0 : m ≠ 0 := by omega
    subst hm
    rw [toString_neg m hm0, ofString_append, Str.cps_append, Array.toList_append]
    have e1 : (Str.ofString "-").cps.toList = [45] := by decide
    have e2 : ((-(m : Int)).natAbs : Int) = (m : Int) := by omega
    rw [e1, e2]
    unfold percentInt
    simp only [h1, h2, h3, Bool.not_false, if_true, Option.getD_none, Nat.zero_sub, List.replicate_zero, List.append_nil, if_neg (show ¬ ((100 : Nat) == 88) = true by decide)]
    rfl
section
variable {M : Model} {A : Around} {E : Value → Shared → Prop} {s : Shared} {l : List Nat} {p : List Value} {r : List Nat}
  {f : Nat → List Value × Writer × List Nat → Sem (ForInStep (List Value × Writer × List Nat))} {Q : List Value × Writer × List Nat → Shared → Prop}
  {w : Writer} {T : PySem.Str} {N K : Nat} {o : Option Value}
theorem after_intZ {c : Percent} {n : Int} {d : List Nat} (g : KPc.Good w T N) (h1 : c.alt = false) (h2 : c.type = 100) (h3 : c.prec = none) (h4 : c.sign = false) (h5 : c.blank = false) (hK : (Str.ofString (toString n)).length ≤ K)
    (hd : d = (PySem.Str.ofString (toString ((n.natAbs : Nat) : Int))).cps.toList) (ho : o = none) (h : ∀ w', KPc.Good w' (T ++ PySem.Str.ofString (toString n)) (N + K) → wpAny M A (forIn l (p, w', r) f) Q E s) :
    wpAny M A (forIn l (p, w.add ⟨(percentInt c (decide (n < 0)) d).toArray⟩ o, r) f) Q E s := by
  rw [hd, int_textZ c h1 h2 h3 h4 h5]
  exact KPc.after_str g hK (KPc.obj_none ho) h
end
/-- what "%d.%d" writes -/
def dd (i j : Int) : Str := PySem.Str.empty ++ Str.ofString (toString i) ++ Str.ofString "." ++ Str.ofString (toString j)
theorem meets_dd {b : Addr} {i j : Int} {t t1 t2 : Tok} (hi : i.natAbs.log2 < 1920) (hj : j.natAbs.log2 < 1920) (li : (Str.ofString (toString i)).length ≤ 60) (lj : (Str.ofString (toString j)).length ≤ 60) :
    Meets («str.__mod__» ⟨[.str ⟨#[37, 100, 46, 37, 100]⟩ t, .ref b], []⟩) (fun _ R s => IsTup s.heap b #[.int i t1, .int j t2] ∧ ∀ t' k, R (.ok (.ret (.str (dd i j) t'))) { s with toks := k }) := by
  apply KPt.meets_tup
  intro prog w A s Q E kptH hQ
  obtain ⟨kptO, kptG, kptC, kptN, kptD⟩ := kptH
  rw [KPt.entry_is_r]
  unfold Builtin.Str.percentFormat
  refine wpAny_bind (wpAny_isInstance (T := "tuple") ⟨kptO, kptG, kptC⟩ KPt.sub_tt ?_)
  refine wpAny_bind (KPt.asStr_ref kptG kptD ?_)
  refine wpAny_bind (KPt.fills_ref ⟨kptO, kptG, kptC⟩ ?_)
  intro _
  kpc_if
  refine wpAny_bind (wpAny_seqItems kptG kptD ?_)
  refine wpAny_bind (wpAny_pure ?_)
  refine wpAny_bind ?_
  rw [KPc.range_list]
  refine KPc.start ?_
  intro _ _
  refine KPc.turn ?_; kpc_check; (repeat kpc_if)
  refine wpAny_bind ?_; refine wpAny_holding ?_; (repeat kpc_if)
  refine wpAny_bind (wpAny_of_eq (a := _) rfl ?_); (repeat kpc_if)
  refine wpAny_bind (wpAny_mkInt ?_)
  refine wpAny_bind (call_gives F.slot_int_repr (typeIs_int _ _ _) F.entry_int_repr (F.args_int_repr_1 _) (gives_int_repr _ _ (KPt.hd2 hi)) ⟨int_text_fits (KPt.hd2 hi), ?_⟩)
  refine wpAny_bind (wpAny_of_eq (a := some _) rfl ?_)
  refine wpAny_pure ?_; refine wpAny_pure ?_
  refine after_intZ (K := 60) (by kpc_g) rfl rfl rfl rfl rfl li rfl (by kpc_none) ?_; intro _ _
  refine KPc.turn ?_; kpc_check; (repeat kpc_if)
  refine wpAny_pure ?_
  refine KPc.after_add (by kpc_g) (by kpc_text) (by kpc_obj) ?_; intro _ _
  refine KPc.turn ?_; kpc_check; (repeat kpc_if)
  refine wpAny_bind ?_; refine wpAny_holding ?_; (repeat kpc_if)
  refine wpAny_bind (wpAny_of_eq (a := _) rfl ?_); (repeat kpc_if)
  refine wpAny_bind (wpAny_mkInt ?_)
  refine wpAny_bind (call_gives F.slot_int_repr (typeIs_int _ _ _) F.entry_int_repr (F.args_int_repr_1 _) (gives_int_repr _ _ (KPt.hd2 hj)) ⟨int_text_fits (KPt.hd2 hj), ?_⟩)
  refine wpAny_bind (wpAny_of_eq (a := some _) rfl ?_)
  refine wpAny_pure ?_; refine wpAny_pure ?_
  refine after_intZ (K := 60) (by kpc_g) rfl rfl rfl rfl rfl lj rfl (by kpc_none) ?_; intro _ _
  refine KPc.turn ?_; kpc_check; (repeat kpc_if)
  kpc_close
end Mine
end PctPart

section Plain1Part
open PySem PySem.W PyProof.Rows PySem.Calls PySem.Spec PySem.NumText
set_option maxRecDepth 100000
namespace Mine
/-! figures: by int and by the law -/
theorem fig_alph : ∀ c ∈ alph, (48 ≤ c ∧ c ≤ 57 ∧ fig c = ((c - 48 : Nat) : Int)) ∨ (¬ (48 ≤ c ∧ c ≤ 57) ∧ fig c = -1) := by
  have h : ∀ c ∈ alph, (decide (48 ≤ c ∧ c ≤ 57 ∧ fig c = ((c - 48 : Nat) : Int)) || decide (¬ (48 ≤ c ∧ c ≤ 57) ∧ fig c = -1)) = true := by decide +kernel
  intro c hc
  have := h c hc
  rcases Bool.or_eq_true_iff.mp this with h | h
  · exact .inl (of_decide_eq_true h)
  · exact .inr (of_decide_eq_true h)
theorem step_bad : ∀ c ∈ alph, ¬ (48 ≤ c ∧ c ≤ 57) → c ≠ 95 → ∀ p : Array Nat × Bool, NumText.step 10 p c = none := by
  intro c hc h1 h2 p
  have hd : ∀ c ∈ alph, ¬ (48 ≤ c ∧ c ≤ 57) → c ≠ 95 → (digit? c = none ∨ digit? c = some 33) := by decide
  unfold NumText.step
  rw [if_neg (by simpa using h2)]
  rcases hd c hc h1 h2 with e | e
  · rw [e]
  · rw [e]; rfl
def val (ds : Array Nat) : Int := ((ds.foldl (fun acc d => acc * 10 + d) 0 : Nat) : Int)
theorem val_push (ds : Array Nat) (d : Nat) : val (ds.push d) = 10 * val ds + (d : Int) := by
  unfold val
  rw [Array.foldl_push]
  push_cast
  omega
theorem val_nil : val #[] = 0 := rfl
theorem fold_piece : ∀ (p : List Nat) (ds : Array Nat) (b : Bool), (∀ c ∈ p, c ∈ alph) → 95 ∉ p →
    (p.foldlM (NumText.step 10) (ds, b) = none ∧ p.foldlM figStep (val ds) = none) ∨
    ∃ ds', p.foldlM (NumText.step 10) (ds, b) = some (ds', b || !p.isEmpty) ∧ p.foldlM figStep (val ds) = some (val ds')
  | [], ds, b, _, _ => .inr ⟨ds, by simp, rfl⟩
  | c :: r, ds, b, ha, hn => by
    have hc := ha c (.head _)
    have h95 : c ≠ 95 := fun e => hn (e ▸ List.Mem.head _)
    rcases fig_alph c hc with ⟨h1, h2, h3⟩ | ⟨h1, h3⟩
    · have e1 : NumText.step 10 (ds, b) c = some (ds.push (c - 48), true) := step_digit ⟨h1, h2⟩
      have e2 : figStep (val ds) c = some (val (ds.push (c - 48))) := by
        unfold figStep
        rw [h3, if_neg (by omega), val_push]
      rcases fold_piece r (ds.push (c - 48)) true (fun d hd => ha d (.tail _ hd)) (fun h => hn (.tail _ h)) with ⟨g1, g2⟩ | ⟨ds', g1, g2⟩
      · refine .inl ⟨?_, ?_⟩
        · rw [List.foldlM_cons, e1]; exact g1
        · rw [List.foldlM_cons, e2]; exact g2
      · refine .inr ⟨ds', ?_, ?_⟩
        · rw [List.foldlM_cons, e1]
          show List.foldlM (NumText.step 10) (ds.push (c - 48), true) r = _
          rw [g1]
          simp
        · rw [List.foldlM_cons, e2]; exact g2
    · refine .inl ⟨?_, ?_⟩
      · rw [List.foldlM_cons, step_bad c hc h1 h95]; rfl
      · rw [List.foldlM_cons]
        have : figStep (val ds) c = none := by unfold figStep; rw [h3]; rfl
        rw [this]; rfl
/-- pieces glued by one sign -/
def jn (c : Nat) : List (List Nat) → List Nat
  | [] => []
  | [p] => p
  | p :: q :: r => p ++ c :: jn c (q :: r)
def pieceL (a : Int) (p : List Nat) : Option Int := if p.isEmpty then none else p.foldlM figStep a
theorem fold_pieces : ∀ (ps : List (List Nat)) (ds : Array Nat), ps ≠ [] → (∀ p ∈ ps, (∀ c ∈ p, c ∈ alph) ∧ 95 ∉ p) →
    (((jn 95 ps).foldlM (NumText.step 10) (ds, false)).bind fun p => if p.2 then some p.1 else none).map val = ps.foldlM pieceL (val ds)
  | [], _, h, _ => absurd rfl h
  | [p], ds, _, h => by
    obtain ⟨h1, h2⟩ := h p (.head _)
    show ((p.foldlM (NumText.step 10) (ds, false)).bind _).map val = (pieceL (val ds) p).bind fun a => some a
    unfold pieceL
    rcases fold_piece p ds false h1 h2 with ⟨g1, g2⟩ | ⟨ds', g1, g2⟩
    · rw [g1, g2]
      cases p <;> rfl
    · rw [g1, g2]
      cases p <;> rfl
  | p :: q :: r, ds, _, h => by
    obtain ⟨h1, h2⟩ := h p (.head _)
    have ih := fun ds => fold_pieces (q :: r) ds (by simp) fun p hp => h p (.tail _ hp)
    show (((p ++ 95 :: jn 95 (q :: r)).foldlM (NumText.step 10) (ds, false)).bind _).map val = (pieceL (val ds) p).bind fun a => (q :: r).foldlM pieceL a
    rw [List.foldlM_append]
    unfold pieceL
    rcases fold_piece p ds false h1 h2 with ⟨g1, g2⟩ | ⟨ds', g1, g2⟩
    · rw [g1, g2]
      cases p <;> rfl
    · rw [g1, g2]
      cases p with
      | nil => rfl
      | cons c p =>
        show ((List.foldlM (NumText.step 10) (ds', true) (95 :: jn 95 (q :: r))).bind _).map val = _
        rw [List.foldlM_cons]
        show ((List.foldlM (NumText.step 10) (ds', false) (jn 95 (q :: r))).bind _).map val = _
        exact ih ds'
theorem digits_pieces {ps : List (List Nat)} (hne : ps ≠ []) (h : ∀ p ∈ ps, (∀ c ∈ p, c ∈ alph) ∧ 95 ∉ p) : (digits? 10 (jn 95 ps)).map val = ps.foldlM pieceL 0 := fold_pieces ps #[] hne h
end Mine
end Plain1Part

section Plain2Part
open PySem PySem.W PyProof.Rows PySem.Calls PySem.Spec PySem.NumText
open PySem.Builtin PySem.Builtin.Str
set_option maxRecDepth 100000
namespace Mine
/-! splitting at one sign -/
theorem join_jn (c : Nat) : ∀ ps : List PySem.Str, (PySem.Str.join ⟨#[c]⟩ ps).cps.toList = jn c (ps.map fun p => p.cps.toList)
  | [] => rfl
  | [p] => rfl
  | p :: q :: r => by
    show (p ++ ⟨#[c]⟩ ++ PySem.Str.join ⟨#[c]⟩ (q :: r)).cps.toList = p.cps.toList ++ c :: jn c ((q :: r).map fun p => p.cps.toList)
    rw [PySem.Str.cps_append, PySem.Str.cps_append, Array.toList_append, Array.toList_append, join_jn c (q :: r)]
    simp
theorem split_jn (x : PySem.Str) (c : Nat) : jn c ((Txt.split x ⟨#[c]⟩).map fun p => p.cps.toList) = x.cps.toList := by
  rw [← join_jn, StrLaws.join_split]
theorem split_ne (x y : PySem.Str) : Txt.split x y ≠ [] := by
  unfold Txt.split
  split
  · simp
  · split
    · simp
    · rw [StrLaws.partsBetween_eq]
      obtain ⟨p, r, e⟩ := StrLaws.partsFrom_ne x y.length 0 (occurrences x y 0 x.length (x.length + 1))
      rw [e]; simp
theorem jn_mem {c d : Nat} : ∀ {ps : List (List Nat)} {p : List Nat}, p ∈ ps → d ∈ p → d ∈ jn c ps
  | [q], p, hp, hd => by rw [List.mem_singleton.mp hp] at hd; exact hd
  | q :: q' :: r, p, hp, hd => by
    show d ∈ q ++ c :: jn c (q' :: r)
    rcases List.mem_cons.mp hp with rfl | hp
    · exact List.mem_append_left _ hd
    · exact List.mem_append_right _ (.tail _ (jn_mem hp hd))
/-- pieces of a text over the law's signs -/
theorem numPieces_digits {x : PySem.Str} (h : ∀ c ∈ x.cps.toList, c ∈ alph) : numPieces (Txt.split x (PySem.Str.ofString "_")) = (digits? 10 x.cps.toList).map val := by
  have e0 : PySem.Str.ofString "_" = ⟨#[95]⟩ := by decide
  rw [e0]
  have hj := split_jn x 95
  have hfree := StrLaws.split_free x 95
  have hne := split_ne x ⟨#[95]⟩
  generalize Txt.split x ⟨#[95]⟩ = ps at hj hfree hne
  rw [← hj, digits_pieces (by simpa using hne)]
  · unfold numPieces
    rw [List.foldlM_map]
    congr 1
    funext a p
    unfold pieceVal pieceL
    have e : (p == PySem.Str.ofString "") = p.cps.toList.isEmpty := by
      have e1 : PySem.Str.ofString "" = ⟨#[]⟩ := by decide
      rw [e1]
      cases hp : p.cps.toList with
      | nil =>
        have : p = ⟨#[]⟩ := PySem.Str.ext' (Array.toList_inj.mp (by rw [hp]))
        rw [this]; decide
      | cons c r =>
        have : p ≠ ⟨#[]⟩ := fun e => by rw [e] at hp; cases hp
        simpa using this
    rw [e]
  · intro q hq
    obtain ⟨p, hp, rfl⟩ := List.mem_map.mp hq
    refine ⟨fun c hc => h c ?_, hfree p hp⟩
    rw [← hj]
    exact jn_mem hq hc
/-! stripping blanks -/
def sp (c : Nat) : Bool := c == 32
theorem strip_list (goes : Nat → Bool) (x : PySem.Str) : (Txt.stripBy goes true true x).cps.toList = ((x.cps.toList.dropWhile goes).reverse.dropWhile goes).reverse := by
  rw [PyProof.Rows.stripBy_eq, StrLaws.strSub_toList]
  have e1 : x.cps.toList.drop (stripLo goes true x) = x.cps.toList.dropWhile goes := by
    show x.cps.toList.drop (x.cps.toList.takeWhile goes).length = _
    have := List.takeWhile_append_dropWhile (p := goes) (l := x.cps.toList)
    conv => lhs; arg 2; rw [← this]
    rw [List.drop_left]
  have e2 : stripHi goes true x (stripLo goes true x) - stripLo goes true x = (x.cps.toList.dropWhile goes).length - ((x.cps.toList.dropWhile goes).reverse.takeWhile goes).length := by
    show x.length - ((x.cps.toList.drop (stripLo goes true x)).reverse.takeWhile goes).length - stripLo goes true x = _
    rw [e1]
    have l1 : (x.cps.toList.dropWhile goes).length = x.length - stripLo goes true x := by
      rw [← e1, List.length_drop]; rfl
    omega
  rw [e1, e2]
  generalize x.cps.toList.dropWhile goes = d
  have := List.takeWhile_append_dropWhile (p := goes) (l := d.reverse)
  have hr : d = (d.reverse.dropWhile goes).reverse ++ (d.reverse.takeWhile goes).reverse := by
    rw [← List.reverse_append, this, List.reverse_reverse]
  have hlen : d.length - (d.reverse.takeWhile goes).length = ((d.reverse.dropWhile goes).reverse).length := by
    have := congrArg List.length hr
    simp only [List.length_append, List.length_reverse] at this
    simp only [List.length_reverse]
    omega
  rw [hlen]
  conv => lhs; arg 2; rw [hr]
  rw [List.take_left]
theorem dropWhile_congr {p q : Nat → Bool} : ∀ {l : List Nat}, (∀ c ∈ l, p c = q c) → l.dropWhile p = l.dropWhile q
  | [], _ => rfl
  | c :: r, h => by
    rw [List.dropWhile_cons, List.dropWhile_cons, h c (.head _), dropWhile_congr fun d hd => h d (.tail _ hd)]
theorem blank_alph : ∀ c ∈ alph, blank c = sp c := by decide
theorem mem_dropWhile {p : Nat → Bool} {l : List Nat} {c : Nat} (h : c ∈ l.dropWhile p) : c ∈ l := by
  have := List.takeWhile_append_dropWhile (p := p) (l := l)
  rw [← this]; exact List.mem_append_right _ h
theorem rstrip_cons {c : Nat} {r : List Nat} (hc : sp c = false) : (((c :: r).reverse).dropWhile sp).reverse = c :: (r.reverse.dropWhile sp).reverse := by
  rw [List.reverse_cons]
  have key : ∀ l : List Nat, (l ++ [c]).dropWhile sp = l.dropWhile sp ++ [c] := by
    intro l
    induction l with
    | nil => simp [hc]
    | cons d t ih =>
      rw [List.cons_append, List.dropWhile_cons, List.dropWhile_cons]
      split
      · exact ih
      · rfl
  rw [key, List.reverse_append]
  rfl
theorem dropWhile_head {p : Nat → Bool} : ∀ {l : List Nat} {c : Nat} {r : List Nat}, l.dropWhile p = c :: r → p c = false
  | [], _, _, h => by cases h
  | d :: t, c, r, h => by
    rw [List.dropWhile_cons] at h
    split at h
    · exact dropWhile_head h
    · rename_i hd
      injection h with h1 h2
      rw [← h1]
      simpa using hd
end Mine
end Plain2Part

section Plain3Part
open PySem PySem.W PyProof.Rows PySem.Calls PySem.Spec PySem.NumText
open PySem.Builtin PySem.Builtin.Str
set_option maxRecDepth 100000
namespace Mine
theorem slice_to (x : PySem.Str) (k : Nat) (hk : k ≤ x.length) : (Txt.slice x none (some (k : Int))).cps.toList = x.cps.toList.take k := by
  have e : Txt.slice x none (some (k : Int)) = StrLaws.sliceText x none (some (k : Int)) := rfl
  have hl : x.cps.toList.length = x.length := Array.length_toList
  rw [e, StrLaws.sliceText_to ⟨by omega, by omega⟩]
  have : ((k : Int) - 0).toNat = k := by omega
  rw [this]
  simp
theorem slice_from (x : PySem.Str) (k : Nat) (hk : k ≤ x.length) : (Txt.slice x (some (k : Int)) none).cps.toList = x.cps.toList.drop k := by
  have e : Txt.slice x (some (k : Int)) none = StrLaws.sliceText x (some (k : Int)) none := rfl
  have hl : x.cps.toList.length = x.length := Array.length_toList
  rw [e, StrLaws.sliceText_from ⟨by omega, by omega⟩]
  have e2 : ((k : Int)).toNat = k := by omega
  have e3 : ((x.cps.toList.length : Int) - (k : Int)).toNat = (x.cps.toList.drop k).length := by rw [List.length_drop]; omega
  rw [e2, e3, List.take_length]
theorem str_of_list {x : PySem.Str} {l : List Nat} (h : x.cps.toList = l) : x = ⟨l.toArray⟩ := StrLaws.mk_of_toList h
theorem head_slice {b : PySem.Str} {c : Nat} {r : List Nat} (h : b.cps.toList = c :: r) : Txt.slice b none (some 1) = ⟨#[c]⟩ := by
  have hl : b.cps.toList.length = b.length := Array.length_toList
  rw [h] at hl
  have := slice_to b 1 (by simp at hl; omega)
  rw [h] at this
  exact str_of_list this
theorem tail_slice {b : PySem.Str} {c : Nat} {r : List Nat} (h : b.cps.toList = c :: r) : Txt.slice b (some 1) none = ⟨r.toArray⟩ := by
  have hl : b.cps.toList.length = b.length := Array.length_toList
  rw [h] at hl
  have := slice_from b 1 (by simp at hl; omega)
  rw [h] at this
  exact str_of_list this
theorem intText_alph {x : PySem.Str} (h : ∀ c ∈ x.cps.toList, c ∈ alph) (hl : x.length ≤ 4300) :
    PySem.intText? x = (digits? 10 (core x.cps.toList)).map fun ds => worth (NumText.sign (x.cps.toList.dropWhile blank)).1 ds := by
  have h1 : numTextOf x = x.cps.toList := by
    show (if x.cps.all (· < 128) then x.cps.toList else Unicode.numberText x.cps.toList) = _
    rw [if_pos]
    rw [Array.all_eq_true']
    intro c hc
    exact decide_eq_true (alph_lt c (h c (by simpa using hc)))
  have h2 : numSeenOf x = x.cps.toList := by
    show (numTextOf x).takeWhile (· != 0) = _
    rw [h1]
    have hz : ∀ c ∈ alph, (c != 0) = true := by decide
    exact NumText.takeWhile_all fun c hc => hz c (h c hc)
  unfold PySem.intText?
  rw [h1, h2, if_pos (by simp)]
  cases hd : digits? 10 (core x.cps.toList) with
  | none => rfl
  | some ds =>
    have l1 := digits_size hd
    have l2 := core_length x.cps.toList
    have l3 : x.cps.toList.length = x.length := Array.length_toList
    show (if ds.size ≤ 4300 then _ else _) = _
    rw [if_pos (by omega)]
    rfl
theorem worth_neg (ds : Array Nat) : worth true ds = -1 * val ds := by
  unfold worth val
  simp
theorem worth_pos (ds : Array Nat) : worth false ds = 1 * val ds := by
  unfold worth val
  simp
theorem map_worth {o : Option (Array Nat)} (n : Bool) (k : Int) (hk : ∀ ds, worth n ds = k * val ds) : o.map (fun ds => worth n ds) = (o.map val).map (k * ·) := by
  cases o with
  | none => rfl
  | some ds => simp [hk]
theorem ofS_minus : PySem.Str.ofString "-" = ⟨#[45]⟩ := by decide
theorem ofS_plus : PySem.Str.ofString "+" = ⟨#[43]⟩ := by decide
theorem ofS_blank : PySem.Str.ofString " " = ⟨#[32]⟩ := by decide
theorem one_beq (c d : Nat) : ((⟨#[c]⟩ : PySem.Str) == ⟨#[d]⟩) = (c == d) := by
  cases h : c == d with
  | true => have : c = d := by simpa using h
            rw [this]; exact beq_self_eq_true _
  | false =>
    have hne : c ≠ d := by simpa using h
    have : (⟨#[c]⟩ : PySem.Str) ≠ ⟨#[d]⟩ := fun e => hne (by injection e with e; simpa using e)
    simpa using this
/-- the law's reading of a number is int's -/
theorem lawNum_int {x : PySem.Str} (h : ∀ c ∈ x.cps.toList, c ∈ alph) (hl : x.length ≤ 4300) : lawNum x = PySem.intText? x := by
  rw [intText_alph h hl]
  have hb : (Txt.stripChars x (PySem.Str.ofString " ")).cps.toList = ((x.cps.toList.dropWhile sp).reverse.dropWhile sp).reverse := by
    have e : Txt.stripChars x (PySem.Str.ofString " ") = Txt.stripBy (fun c => (#[32] : Array Nat).contains c) true true x := by rw [ofS_blank]; rfl
    rw [e, strip_list]
    have : (fun c => (#[32] : Array Nat).contains c) = sp := by funext c; simp [sp, Array.contains]; 
    rw [this]
  have hd1 : x.cps.toList.dropWhile blank = x.cps.toList.dropWhile sp := dropWhile_congr fun c hc => blank_alph c (h c hc)
  have hcore : core x.cps.toList = ((NumText.sign (x.cps.toList.dropWhile sp)).2.reverse.dropWhile sp).reverse := by
    unfold core
    rw [hd1]
    refine congrArg List.reverse (dropWhile_congr fun c hc => blank_alph c (h c ?_))
    have hm : c ∈ (NumText.sign (x.cps.toList.dropWhile sp)).2 := by simpa using hc
    refine mem_dropWhile (p := sp) ?_
    revert hm
    unfold NumText.sign
    split
    · rename_i r e; intro hm; rw [e]; exact .tail _ hm
    · rename_i r e; intro hm; rw [e]; exact .tail _ hm
    · exact fun hm => hm
  rw [hcore, hd1]
  have hmem : ∀ c ∈ x.cps.toList.dropWhile sp, c ∈ alph := fun c hc => h c (mem_dropWhile hc)
  cases hl0 : x.cps.toList.dropWhile sp with
  | nil =>
    rw [hl0] at hb
    have hb0 : Txt.stripChars x (PySem.Str.ofString " ") = ⟨#[]⟩ := str_of_list hb
    have e0 : lawNum x = none := by
      unfold lawNum
      rw [hb0]
      decide +kernel
    rw [e0]
    rfl
  | cons c r =>
    have hc := dropWhile_head hl0
    rw [hl0, rstrip_cons hc] at hb
    have hr : ∀ d ∈ (r.reverse.dropWhile sp).reverse, d ∈ alph := fun d hd => hmem d (by
      rw [hl0]
      refine .tail _ ?_
      have := mem_dropWhile (List.mem_reverse.mp hd)
      exact List.mem_reverse.mp this)
    have hca : c ∈ alph := hmem c (by rw [hl0]; exact .head _)
    have h1 := head_slice hb
    have h2 := tail_slice hb
    by_cases c45 : c = 45
    · subst c45
      rw [lawNum_neg (by rw [h1, ofS_minus]; exact beq_self_eq_true _), h2, numPieces_digits (by simpa using hr)]
      show _ = Option.map (fun ds => worth true ds) (digits? 10 (r.reverse.dropWhile sp).reverse)
      rw [map_worth true (-1) worth_neg]
    · have g1 : (Txt.slice (Txt.stripChars x (PySem.Str.ofString " ")) none (some 1) == PySem.Str.ofString "-") = false := by
        rw [h1, ofS_minus, one_beq]; simpa using c45
      by_cases c43 : c = 43
      · subst c43
        rw [lawNum_plus g1 (by rw [h1, ofS_plus]; simp), h2, numPieces_digits (by simpa using hr)]
        show _ = Option.map (fun ds => worth false ds) (digits? 10 (r.reverse.dropWhile sp).reverse)
        rw [map_worth false 1 worth_pos]
      · have g2 : ([PySem.Str.ofString "-", PySem.Str.ofString "+"].any fun y => y == Txt.slice (Txt.stripChars x (PySem.Str.ofString " ")) none (some 1)) = false := by
          rw [h1, ofS_minus, ofS_plus]
          simp only [List.any_cons, List.any_nil, one_beq, Bool.or_false, Bool.or_eq_false_iff]
          exact ⟨by simpa using Ne.symm c45, by simpa using Ne.symm c43⟩
        rw [lawNum_bare g1 g2, numPieces_digits (by rw [hb]; intro d hd; rcases List.mem_cons.mp hd with rfl | hd; exact hca; exact hr d hd), hb]
        have es : NumText.sign (c :: r) = (false, c :: r) := sign_of c45 c43
        rw [es]
        show _ = Option.map (fun ds => worth false ds) (digits? 10 ((c :: r).reverse.dropWhile sp).reverse)
        rw [rstrip_cons hc, map_worth false 1 worth_pos]
end Mine
end Plain3Part

section Plain4Part
open PySem PySem.W PyProof.Rows PySem.Calls PySem.Spec PySem.NumText
open PySem.Builtin PySem.Builtin.Str
set_option maxRecDepth 100000
namespace Mine
theorem ofS_dot : PySem.Str.ofString "." = ⟨#[46]⟩ := by decide
theorem getD_at {x : PySem.Str} {l : List Nat} (h : x.cps.toList = l) (v : Nat) : x.cps.getD v 0 = l.getD v 0 := by
  rw [← h, getD_list]
theorem find_eq3 (x y : PySem.Str) : Txt.find x y = Txt.find3 x y 0 := by
  have e : fromIndex x.length 0 = 0 := by unfold fromIndex; simp
  unfold Txt.find Txt.find3
  rw [e]
  cases occurrences x y 0 x.length 1 <;> rfl
theorem find_no {x : PySem.Str} (h : 46 ∉ x.cps.toList) : Txt.find x (PySem.Str.ofString ".") = -1 := by
  rw [ofS_dot, find_eq3]
  rcases StrLaws.find3_spec x 46 0 with ⟨h1, _⟩ | ⟨k, h1, _, h2, h3, _⟩
  · exact h1
  · exfalso
    apply h
    have hl : x.cps.toList.length = x.length := Array.length_toList
    rw [getD_at rfl] at h3
    have : x.cps.toList[k]? = some 46 := by
      rw [List.getD, List.getElem?_eq_getElem (by omega)] at h3
      rw [List.getElem?_eq_getElem (by omega)]
      simpa using h3
    exact List.mem_of_getElem? this
theorem find_at {x : PySem.Str} {p q : List Nat} (h : x.cps.toList = p ++ 46 :: q) (hp : 46 ∉ p) : Txt.find x (PySem.Str.ofString ".") = (p.length : Int) := by
  have hl : x.cps.toList.length = x.length := Array.length_toList
  rw [h] at hl
  simp at hl
  have e : fromIndex x.length 0 = 0 := by unfold fromIndex; simp
  rw [ofS_dot, find_eq3]
  rcases StrLaws.find3_spec x 46 0 with ⟨_, h1⟩ | ⟨k, h1, h0, h2, h3, h4⟩
  · exfalso
    refine h1 p.length (by omega) (by omega) ?_
    rw [getD_at h]
    simp
  · rw [h1]
    have hk : k = p.length := by
      rcases Nat.lt_trichotomy k p.length with g | g | g
      · exfalso
        apply hp
        rw [getD_at h, List.getD, List.getElem?_append_left g, List.getElem?_eq_getElem g] at h3
        have h3' : p[k] = 46 := h3
        rw [← h3']
        exact List.getElem_mem g
      · exact g
      · exfalso
        refine h4 p.length (by omega) g ?_
        rw [getD_at h]
        simp
    rw [hk]
theorem from_succ {x : PySem.Str} (n : Nat) : fromIndex x.length ((n : Int) + 1) = n + 1 := by
  unfold fromIndex
  rw [if_neg (by omega)]
  omega
theorem find3_no {x : PySem.Str} {p q : List Nat} (h : x.cps.toList = p ++ 46 :: q) (hq : 46 ∉ q) : ¬ 0 ≤ Txt.find3 x (PySem.Str.ofString ".") ((p.length : Int) + 1) := by
  have hl : x.cps.toList.length = x.length := Array.length_toList
  rw [h] at hl
  simp at hl
  rw [ofS_dot]
  rcases StrLaws.find3_spec x 46 ((p.length : Int) + 1) with ⟨h1, _⟩ | ⟨k, h1, h0, h2, h3, _⟩
  · rw [h1]; decide
  · exfalso
    rw [from_succ] at h0
    apply hq
    rw [getD_at h, List.getD, List.getElem?_append_right (by omega)] at h3
    obtain ⟨j, hj⟩ : ∃ j, k - p.length = j + 1 := ⟨k - p.length - 1, by omega⟩
    rw [hj, List.getElem?_cons_succ, List.getElem?_eq_getElem (by omega)] at h3
    have h3' : q[j]'(by omega) = 46 := h3
    rw [← h3']
    exact List.getElem_mem _
theorem find3_more {x : PySem.Str} {p q : List Nat} (h : x.cps.toList = p ++ 46 :: q) (hq : 46 ∈ q) : 0 ≤ Txt.find3 x (PySem.Str.ofString ".") ((p.length : Int) + 1) := by
  have hl : x.cps.toList.length = x.length := Array.length_toList
  rw [h] at hl
  simp at hl
  rw [ofS_dot]
  rcases StrLaws.find3_spec x 46 ((p.length : Int) + 1) with ⟨_, h1⟩ | ⟨k, h1, _⟩
  · exfalso
    rw [from_succ] at h1
    obtain ⟨j, hj, e⟩ := List.mem_iff_getElem.mp hq
    refine h1 (p.length + 1 + j) (by omega) (by omega) ?_
    rw [getD_at h, List.getD, List.getElem?_append_right (by omega)]
    have : p.length + 1 + j - p.length = j + 1 := by omega
    rw [this, List.getElem?_cons_succ, List.getElem?_eq_getElem hj]
    simpa using e
  · rw [h1]; omega
/-- the two readings agree -/
theorem plain {x : PySem.Str} (h : Good x) : lawPair x = told x := by
  obtain ⟨hlen, ha⟩ := h
  unfold told
  have hj := split_jn x 46
  have hfree := StrLaws.split_free x 46
  rw [ofS_dot]
  generalize Txt.split x ⟨#[46]⟩ = ps at hj hfree
  match ps, hj, hfree with
  | [], hj, hfree =>
    rw [lawPair_no (by rw [find_no (by rw [← hj]; simp [jn])]; decide)]
    rfl
  | [p], hj, hfree =>
    rw [lawPair_no (by rw [find_no (by rw [← hj]; exact hfree p (.head _))]; decide)]
    rfl
  | [p, q], hj, hfree =>
    have hx : x.cps.toList = p.cps.toList ++ 46 :: q.cps.toList := hj.symm
    have hp := hfree p (.head _)
    have hq := hfree q (.tail _ (.head _))
    have hf := find_at hx hp
    have hl : x.cps.toList.length = x.length := Array.length_toList
    have hpl : p.cps.toList.length = p.length := Array.length_toList
    have hql : q.cps.toList.length = q.length := Array.length_toList
    rw [hx] at hl
    simp only [List.length_append, List.length_cons] at hl
    have s1 : Txt.slice x none (some (Txt.find x (PySem.Str.ofString "."))) = p := by
      rw [hf]
      have := slice_to x p.cps.toList.length (by omega)
      rw [hx, List.take_left] at this
      exact PySem.Str.ext' (Array.toList_inj.mp this)
    have s2 : Txt.slice x (some (Txt.find x (PySem.Str.ofString ".") + 1)) none = q := by
      rw [hf]
      have := slice_from x (p.cps.toList.length + 1) (by omega)
      rw [hx] at this
      have e : (p.cps.toList ++ 46 :: q.cps.toList).drop (p.cps.toList.length + 1) = q.cps.toList := by
        rw [← List.drop_drop, List.drop_left]; rfl
      rw [e] at this
      exact PySem.Str.ext' (Array.toList_inj.mp this)
    have ap : ∀ c ∈ p.cps.toList, c ∈ alph := fun c hc => ha c (by rw [hx]; exact List.mem_append_left _ hc)
    have aq : ∀ c ∈ q.cps.toList, c ∈ alph := fun c hc => ha c (by rw [hx]; exact List.mem_append_right _ (.tail _ hc))
    rw [lawPair_one (by rw [hf]; omega) (by rw [hf]; exact find3_no hx hq), s1, s2, lawNum_int ap (by omega), lawNum_int aq (by omega)]
    rfl
  | p :: q :: r :: rest, hj, hfree =>
    have hx : x.cps.toList = p.cps.toList ++ 46 :: (q.cps.toList ++ 46 :: jn 46 ((r :: rest).map fun p => p.cps.toList)) := hj.symm
    have hp := hfree p (.head _)
    have hf := find_at hx hp
    rw [lawPair_more (by rw [hf]; omega) (by rw [hf]; exact find3_more hx (List.mem_append_right _ (.head _)))]
    rfl
/-! the third text -/
theorem jn_inj {c : Nat} : ∀ {ps qs : List (List Nat)}, ps ≠ [] → qs ≠ [] → (∀ p ∈ ps, c ∉ p) → (∀ q ∈ qs, c ∉ q) → jn c ps = jn c qs → ps = qs
  | [], _, h, _, _, _, _ => absurd rfl h
  | _, [], _, h, _, _, _ => absurd rfl h
  | [p], [q], _, _, _, _, e => by rw [show p = q from e]
  | [p], q :: q' :: r, _, _, hp, _, e => by
    exfalso
    apply hp p (.head _)
    rw [show p = q ++ c :: jn c (q' :: r) from e]
    exact List.mem_append_right _ (.head _)
  | p :: p' :: r, [q], _, _, _, hq, e => by
    exfalso
    apply hq q (.head _)
    rw [← show p ++ c :: jn c (p' :: r) = q from e]
    exact List.mem_append_right _ (.head _)
  | p :: p' :: r, q :: q' :: r', _, _, hp, hq, e => by
    have e' : p ++ c :: jn c (p' :: r) = q ++ c :: jn c (q' :: r') := e
    have key : ∀ (a b x y : List Nat), c ∉ a → c ∉ b → a ++ c :: x = b ++ c :: y → a = b ∧ x = y := by
      intro a
      induction a with
      | nil =>
        intro b x y _ hb e
        cases b with
        | nil => injection e with _ e; exact ⟨rfl, e⟩
        | cons d b => injection e with e _; exact absurd (e ▸ List.Mem.head _) hb
      | cons d a ih =>
        intro b x y ha hb e
        cases b with
        | nil => injection e with e _; exact absurd (e ▸ List.Mem.head _) ha
        | cons d' b =>
          injection e with e1 e2
          obtain ⟨h1, h2⟩ := ih b x y (fun h => ha (.tail _ h)) (fun h => hb (.tail _ h)) e2
          exact ⟨by rw [e1, h1], h2⟩
    obtain ⟨h1, h2⟩ := key p q _ _ (hp p (.head _)) (hq q (.head _)) e'
    rw [h1, jn_inj (by simp) (by simp) (fun p h => hp p (.tail _ h)) (fun q h => hq q (.tail _ h)) h2]
theorem split_two {x p q : PySem.Str} (hx : x.cps.toList = p.cps.toList ++ 46 :: q.cps.toList) (hp : 46 ∉ p.cps.toList) (hq : 46 ∉ q.cps.toList) : Txt.split x ⟨#[46]⟩ = [p, q] := by
  have hj := split_jn x 46
  have hfree := StrLaws.split_free x 46
  have hne := split_ne x ⟨#[46]⟩
  have e : (Txt.split x ⟨#[46]⟩).map (fun p => p.cps.toList) = [p, q].map fun p => p.cps.toList := by
    refine jn_inj (c := 46) (by simpa using hne) (by simp) ?_ ?_ ?_
    · intro l hl
      obtain ⟨z, hz, rfl⟩ := List.mem_map.mp hl
      exact hfree z hz
    · intro l hl
      simp at hl
      rcases hl with rfl | rfl
      · exact hp
      · exact hq
    · rw [hj, hx]; rfl
  have inj : ∀ (a b : List PySem.Str), a.map (fun p => p.cps.toList) = b.map (fun p => p.cps.toList) → a = b := by
    intro a
    induction a with
    | nil => intro b h; cases b with
      | nil => rfl
      | cons _ _ => cases h
    | cons z a ih => intro b h; cases b with
      | nil => cases h
      | cons y b =>
        injection h with h1 h2
        rw [ih b h2, PySem.Str.ext' (Array.toList_inj.mp h1)]
  exact inj _ _ e
theorem numeral_nat (m : Nat) : (∀ c ∈ (PySem.Str.ofString (toString (m : Int))).cps.toList, 48 ≤ c ∧ c ≤ 57) ∧ (PySem.Str.ofString (toString (m : Int))).cps.toList ≠ [] ∧ digitsVal (PySem.Str.ofString (toString (m : Int))).cps.toList = m := by
  refine ⟨?_, ?_, ?_⟩
  · intro c hc
    rw [KIN.signs_num] at hc
    obtain ⟨ch, hch, e⟩ := List.mem_map.mp hc
    have r := digit_range (Nat.isDigit_of_mem_toDigits (by decide) (by decide) hch)
    rw [← e]
    exact r
  · rw [KIN.signs_num]
    intro e
    have h := toDigits_len_ge 10 m
    rw [List.map_eq_nil_iff.mp e] at h
    exact absurd h (by decide)
  · rw [KIN.signs_num, KIN.val_back]
/-- a number written out and read again -/
theorem numeral {n : Int} (h : n.natAbs < 10 ^ 50) : PySem.intText? (PySem.Str.ofString (toString n)) = some n ∧ (∀ c ∈ (PySem.Str.ofString (toString n)).cps.toList, c = 45 ∨ (48 ≤ c ∧ c ≤ 57)) ∧ (PySem.Str.ofString (toString n)).length ≤ 60 := by
  by_cases hn : 0 ≤ n
  · obtain ⟨m, rfl⟩ := Int.eq_ofNat_of_zero_le hn
    obtain ⟨h1, h2, h3⟩ := numeral_nat m
    have hm : m < 10 ^ 50 := by simpa using h
    have hl : (PySem.Str.ofString (toString (m : Int))).length ≤ 50 := toString_length_le hn (by decide) (by exact_mod_cast hm)
    refine ⟨?_, fun c hc => .inr (h1 c hc), by omega⟩
    have := intText_digits h1 h2 (by omega)
    rw [h3] at this
    exact this
  · obtain ⟨m, hm⟩ : ∃ m : Nat, n = -(m : Int) := ⟨n.natAbs, by omega⟩
    subst hm
    have hm0 : m ≠ 0 := by omega
    obtain ⟨h1, h2, h3⟩ := numeral_nat m
    have hm : m < 10 ^ 50 := by have : (-(m : Int)).natAbs = m := by omega
                                rw [this] at h; exact h
    have hl : (PySem.Str.ofString (toString (m : Int))).length ≤ 50 := toString_length_le (by omega) (by decide) (by exact_mod_cast hm)
    have e : PySem.Str.ofString (toString (-(m : Int))) = PySem.Str.ofString "-" ++ PySem.Str.ofString (toString (m : Int)) := by
      rw [toString_neg m hm0, ofString_append]; rfl
    have ec : (PySem.Str.ofString (toString (-(m : Int)))).cps.toList = 45 :: (PySem.Str.ofString (toString (m : Int))).cps.toList := by
      rw [e, PySem.Str.cps_append, Array.toList_append, ofS_minus]; rfl
    have el : (PySem.Str.ofString (toString (-(m : Int)))).length ≤ 60 := by
      rw [e, PySem.Str.length_append, ofS_minus]
      have : (⟨#[45]⟩ : PySem.Str).length = 1 := rfl
      omega
    refine ⟨?_, ?_, el⟩
    · have := intText_neg ec h1 h2 (by omega)
      rw [h3] at this
      exact this
    · intro c hc
      rw [ec] at hc
      rcases List.mem_cons.mp hc with rfl | hc
      · exact .inl rfl
      · exact .inr (h1 c hc)
theorem dd_list (i j : Int) : (dd i j).cps.toList = (PySem.Str.ofString (toString i)).cps.toList ++ 46 :: (PySem.Str.ofString (toString j)).cps.toList := by
  unfold dd
  rw [PySem.Str.empty_append, PySem.Str.cps_append, PySem.Str.cps_append, Array.toList_append, Array.toList_append, ofS_dot]
  simp
theorem dd_told {i j : Int} (hi : i.natAbs < 10 ^ 50) (hj : j.natAbs < 10 ^ 50) : told (dd i j) = some (i, j) ∧ Ok (dd i j) ∧ (dd i j).length ≤ 640 := by
  obtain ⟨a1, a2, a3⟩ := numeral hi
  obtain ⟨b1, b2, b3⟩ := numeral hj
  have no : ∀ {l : List Nat}, (∀ c ∈ l, c = 45 ∨ (48 ≤ c ∧ c ≤ 57)) → 46 ∉ l := fun h hm => by have := h 46 hm; omega
  refine ⟨?_, ?_, ?_⟩
  · unfold told
    rw [ofS_dot, split_two (dd_list i j) (no a2) (no b2)]
    show (match PySem.intText? _, PySem.intText? _ with | some i, some j => some (i, j) | _, _ => none) = _
    rw [a1, b1]
  · intro d hd
    rw [dd_list] at hd
    rcases List.mem_append.mp hd with h | h
    · have := a2 d h; omega
    · rcases List.mem_cons.mp h with rfl | h
      · decide
      · have := b2 d h; omega
  · have hl : (dd i j).cps.toList.length = (dd i j).length := Array.length_toList
    have e1 : (PySem.Str.ofString (toString i)).cps.toList.length = (PySem.Str.ofString (toString i)).length := Array.length_toList
    have e2 : (PySem.Str.ofString (toString j)).cps.toList.length = (PySem.Str.ofString (toString j)).length := Array.length_toList
    rw [dd_list, List.length_append, List.length_cons] at hl
    omega
theorem log2_small {n : Nat} (h : n < 10 ^ 50) : n.log2 < 1920 := by
  by_cases h0 : n = 0
  · subst h0; decide
  · rw [Nat.log2_lt h0]
    exact Nat.lt_trans h (by decide +kernel)
end Mine
end Plain4Part

section Law2Part
open PySem PySem.W PyProof.Rows PySem.Calls PySem.Spec
set_option maxRecDepth 100000
set_option maxHeartbeats 8000000
namespace Mine
def capped (x : Int) : Int := if 0 ≤ x then x.fmod (10 ^ 50) else -((-x).fmod (10 ^ 50))
theorem capped_pos {x : Int} (h : 0 ≤ x) : capped x = x.fmod (10 ^ 50) := if_pos h
theorem capped_neg {x : Int} (h : ¬ 0 ≤ x) : capped x = -((-x).fmod (10 ^ 50)) := if_neg h
theorem capped_call {w : World} {mean : ExcName → Option Value} {mg mb : Str → Option Value}
   {cn : Str} {cs : Scope} {a : Addr} {ccd : Value} {base : Heap} {L : Addr} {m : Str → Option Value} {news : List (Addr × Obj)} {s : Shared} {Q E : Value → Shared → Prop} {x : Int} {u : Tok}
   (B : Below callerA base [] base) (F : Fr base L s.heap m) (X : (hd.heap_39 w.params).In base) (N : News base L s.heap news) (T : Top hd.view_39 (looseW hd.view_39 []) mean mg mb base) (hk : cs.kind = .function)
   (hret : ∀ t h' tk, Fr base L h' m → News base L h' news → Q (.int (capped x) t) { s with heap := h', toks := tk }) :
   wpAny (model Challenge.rw_ki0032_01.row.prog w) (callerA.deeper (envOf cn cs L a ccd)) (call (.ref 49) [.int x u]) Q E s := by
  w_top off
  revert X; k_fill; intro X
  obtain ⟨kd, c2, c3, c4, c5⟩ := cs
  dsimp only at hk
  subst hk
  k_steps
  · have e := capped_pos (x := x) (by with_reducible assumption)
    rw [e] at hret
    exact hret _ _ _ (by k_asm) (by k_asm)
  · have e := capped_neg (x := x) (by with_reducible assumption)
    rw [e] at hret
    exact hret _ _ _ (by k_asm) (by k_asm)

/-- behind the law's first statement -/
def LawCut (base : Heap) (L : Addr) (s : Shared) (f : Flow) (s' : Shared) : Prop :=
  f = .next ∧ ∃ h tk m D vs ns, s' = { s with heap := h, toks := tk } ∧ Fr base L h m ∧ News base L h [(D, W.listOf (List.toArray vs) 0)] ∧ m (Str.ofString "numbers") = some (.ref D) ∧ IntsAre vs ns ∧ 1 ≤ ns.length ∧ ns.length ≤ 16
theorem lawCut_intro {base : Heap} {L : Addr} {s : Shared} {h : Heap} {tk : Nat} {m : Str → Option Value} {D : Addr} {vs : List Value} {ns : List Int} {news' : List (Addr × Obj)} (F : Fr base L h m) (N : News base L h news') (hs : (D, W.listOf (List.toArray vs) 0) ∈ news') (h1 : m (Str.ofString "numbers") = some (.ref D))
    (hi : IntsAre vs ns) (h2 : 1 ≤ ns.length) (h3 : ns.length ≤ 16) : LawCut base L s .next { s with heap := h, toks := tk } :=
  ⟨rfl, h, tk, m, D, vs, ns, rfl, F, fun p hp => N p (by rw [List.mem_singleton.mp hp]; exact hs), h1, hi, h2, h3⟩
theorem num_eq {m : Str → Option Value} {D : Addr} (h1 : m (Str.ofString "numbers") = some (.ref D)) : (fun y => if y = Str.ofString "numbers" then some (.ref D) else m y) = m := by
  funext y
  by_cases e : y = Str.ofString "numbers"
  · rw [if_pos e, e, h1]
  · rw [if_neg e]

/-- behind the names: signs, line, col -/
def LawCut2 (base : Heap) (L : Addr) (s : Shared) (f : Flow) (s' : Shared) : Prop :=
  f = .next ∧ ∃ h tk m D ys a ta b tb, s' = { s with heap := h, toks := tk } ∧ Fr base L h m ∧ News base L h [(D, LCg.lst ys)] ∧ Signs ys ∧ m (Str.ofString "signs") = some (.ref D) ∧ m (Str.ofString "line") = some (.int (capped a) ta) ∧ m (Str.ofString "col") = some (.int (capped b) tb)
theorem lawCut2_intro {base : Heap} {L : Addr} {s : Shared} {h : Heap} {tk : Nat} {m : Str → Option Value} {D : Addr} {ys : List Value} {a b : Int} {ta tb : Tok} {news' : List (Addr × Obj)} (F : Fr base L h m) (N : News base L h news') (hs : (D, LCg.lst ys) ∈ news') (hS : Signs ys) (h1 : m (Str.ofString "signs") = some (.ref D))
    (h2 : m (Str.ofString "line") = some (.int (capped a) ta)) (h3 : m (Str.ofString "col") = some (.int (capped b) tb)) : LawCut2 base L s .next { s with heap := h, toks := tk } :=
  ⟨rfl, h, tk, m, D, ys, a, ta, b, tb, rfl, F, fun p hp => N p (by rw [List.mem_singleton.mp hp]; exact hs), hS, h1, h2, h3⟩
theorem slc_eq {m : Str → Option Value} {D : Addr} {a b : Int} {ta tb : Tok} (h1 : m (Str.ofString "signs") = some (.ref D)) (h2 : m (Str.ofString "line") = some (.int a ta)) (h3 : m (Str.ofString "col") = some (.int b tb)) :
    (fun y => if y = Str.ofString "signs" then some (.ref D) else if y = Str.ofString "line" then some (.int a ta) else if y = Str.ofString "col" then some (.int b tb) else m y) = m := by
  funext y
  by_cases e : y = Str.ofString "signs"
  · rw [if_pos e, e, h1]
  · rw [if_neg e]
    by_cases e2 : y = Str.ofString "line"
    · rw [if_pos e2, e2, h2]
    · rw [if_neg e2]
      by_cases e3 : y = Str.ofString "col"
      · rw [if_pos e3, e3, h3]
      · rw [if_neg e3]
/-- behind the loop -/
def LawCut3 (base : Heap) (L : Addr) (s : Shared) (a b : Int) (ta tb : Tok) (f : Flow) (s' : Shared) : Prop :=
  f = .next ∧ ∃ h tk m, s' = { s with heap := h, toks := tk } ∧ Fr base L h m ∧ m (Str.ofString "line") = some (.int (capped a) ta) ∧ m (Str.ofString "col") = some (.int (capped b) tb)
theorem lawCut3_intro {base : Heap} {L : Addr} {s : Shared} {h : Heap} {tk : Nat} {m : Str → Option Value} {a b : Int} {ta tb : Tok} (F : Fr base L h m)
    (h2 : m (Str.ofString "line") = some (.int (capped a) ta)) (h3 : m (Str.ofString "col") = some (.int (capped b) tb)) : LawCut3 base L s a b ta tb .next { s with heap := h, toks := tk } :=
  ⟨rfl, h, tk, m, rfl, F, h2, h3⟩
theorem lc_eq {m : Str → Option Value} {a b : Int} {ta tb : Tok} (h2 : m (Str.ofString "line") = some (.int a ta)) (h3 : m (Str.ofString "col") = some (.int b tb)) :
    (fun y => if y = Str.ofString "line" then some (.int a ta) else if y = Str.ofString "col" then some (.int b tb) else m y) = m := by
  funext y
  by_cases e2 : y = Str.ofString "line"
  · rw [if_pos e2, e2, h2]
  · rw [if_neg e2]
    by_cases e3 : y = Str.ofString "col"
    · rw [if_pos e3, e3, h3]
    · rw [if_neg e3]
def RetTrue (base : Heap) (L : Addr) (s : Shared) (f : Flow) (s' : Shared) : Prop := f = .ret (.bool true) ∧ ∃ h tk m, s' = { s with heap := h, toks := tk } ∧ Fr base L h m
theorem retTrue_intro {base : Heap} {L : Addr} {s : Shared} {h : Heap} {tk : Nat} {m : Str → Option Value} (F : Fr base L h m) : RetTrue base L s (.ret (.bool true)) { s with heap := h, toks := tk } := ⟨rfl, h, tk, m, rfl, F⟩
theorem capped_small (x : Int) : (capped x).natAbs < 10 ^ 50 := by
  unfold capped
  split
  · have h0 : 0 ≤ x.fmod (10 ^ 50) := Int.fmod_nonneg_of_pos x (by decide)
    have h1 : x.fmod (10 ^ 50) < 10 ^ 50 := Int.fmod_lt_of_pos x (by decide)
    omega
  · have h0 : 0 ≤ (-x).fmod (10 ^ 50) := Int.fmod_nonneg_of_pos (-x) (by decide)
    have h1 : (-x).fmod (10 ^ 50) < 10 ^ 50 := Int.fmod_lt_of_pos (-x) (by decide)
    omega
theorem mod_dd {prog : Program} {w : World} {A : Around} {E : Value → Shared → Prop} {s : Shared} {t t1 t2 : Tok} {Q : Value → Shared → Prop} {b L : Addr} {n : Nat} {h₀ : Heap} {news : List (Addr × Obj)} {i j : Int} (N : News h₀ L s.heap news) (hb : (b, ({ cls := .type "tuple", data := .seq #[.int (capped i) t1, .int (capped j) t2] n } : Obj)) ∈ news)
    (h : ∀ t' k, Q (.str (dd (capped i) (capped j)) t') { s with toks := k }) : wpAny (model prog w) A (binaryOp .Mod (.str (Str.ofString "%d.%d") t) (.ref b)) Q E s :=
  KPt.mod_tuple N hb (by decide) (meets_dd (log2_small (capped_small i)) (log2_small (capped_small j)) (numeral (capped_small i)).2.2 (numeral (capped_small j)).2.2) h
theorem glc_dd {w : World} {mean : ExcName → Option Value} {mg mb : Str → Option Value}
   {cn : Str} {cs : Scope} {a : Addr} {ccd : Value} {base : Heap} {L : Addr} {m : Str → Option Value} {news : List (Addr × Obj)} {s : Shared} {Q E : Value → Shared → Prop} {u : Tok} {i j : Int}
   (B : Below callerA base [] base) (F : Fr base L s.heap m) (X : (hd.heap_39 w.params).In base) (N : News base L s.heap news) (T : Top hd.view_39 (looseW hd.view_39 []) mean mg mb base) (hk : cs.kind = .function)
   (hsome : ∀ D t u h' tk, Fr base L h' m → News base L h' ((D, tupOf (capped i) t (capped j) u) :: news) → Q (.ref D) { s with heap := h', toks := tk }) :
   wpAny (model Challenge.rw_ki0032_01.row.prog w) (callerA.deeper (envOf cn cs L a ccd)) (call (.ref 21) [.str (dd (capped i) (capped j)) u]) Q E s :=
  let g := dd_told (capped_small i) (capped_small j)
  glc_call B F X N T hk g.2.2 g.2.1 g.1 hsome
theorem pair_none {w : World} {mean : ExcName → Option Value} {mg mb : Str → Option Value}
   {cn : Str} {cs : Scope} {a : Addr} {ccd : Value} {base : Heap} {L : Addr} {m : Str → Option Value} {news : List (Addr × Obj)} {s : Shared} {Q E : Value → Shared → Prop} {x : Str} {u : Tok}
   (B : Below callerA base [] base) (F : Fr base L s.heap m) (X : (hd.heap_39 w.params).In base) (N : News base L s.heap news) (T : Top hd.view_39 (looseW hd.view_39 []) mean mg mb base) (hk : cs.kind = .function)
   (g : Good x) (ht : told x = none)
   (hnone : ∀ h' tk, Fr base L h' m → News base L h' news → Q .none { s with heap := h', toks := tk }) :
   wpAny (model Challenge.rw_ki0032_01.row.prog w) (callerA.deeper (envOf cn cs L a ccd)) (call (.ref 35) [.str x u]) Q E s :=
  pair_call B F X N T hk (Nat.le_trans g.1 (by decide)) (fun h' tk _ => hnone h' tk) fun D i t j u h' tk e => by rw [plain g, ht] at e; cases e
theorem pair_some {w : World} {mean : ExcName → Option Value} {mg mb : Str → Option Value}
   {cn : Str} {cs : Scope} {a : Addr} {ccd : Value} {base : Heap} {L : Addr} {m : Str → Option Value} {news : List (Addr × Obj)} {s : Shared} {Q E : Value → Shared → Prop} {x : Str} {u : Tok} {i j : Int}
   (B : Below callerA base [] base) (F : Fr base L s.heap m) (X : (hd.heap_39 w.params).In base) (N : News base L s.heap news) (T : Top hd.view_39 (looseW hd.view_39 []) mean mg mb base) (hk : cs.kind = .function)
   (g : Good x) (ht : told x = some (i, j))
   (hsome : ∀ D t u h' tk, Fr base L h' m → News base L h' ((D, tupOf i t j u) :: news) → Q (.ref D) { s with heap := h', toks := tk }) :
   wpAny (model Challenge.rw_ki0032_01.row.prog w) (callerA.deeper (envOf cn cs L a ccd)) (call (.ref 35) [.str x u]) Q E s :=
  pair_call B F X N T hk (Nat.le_trans g.1 (by decide)) (fun h' tk e => by rw [plain g, ht] at e; cases e) fun D i' t j' u h' tk e => by
    rw [plain g, ht] at e
    injection e with e
    injection e with e1 e2
    subst e1 e2
    exact hsome D t u h' tk
theorem told_good {w : World} {mean : ExcName → Option Value} {mg mb : Str → Option Value}
   {cn : Str} {cs : Scope} {a : Addr} {ccd : Value} {base : Heap} {L : Addr} {m : Str → Option Value} {news : List (Addr × Obj)} {s : Shared} {Q E : Value → Shared → Prop} {x : Str} {u : Tok}
   (B : Below callerA base [] base) (F : Fr base L s.heap m) (X : (hd.heap_39 w.params).In base) (N : News base L s.heap news) (T : Top hd.view_39 (looseW hd.view_39 []) mean mg mb base) (hk : cs.kind = .function)
   (g : Good x)
   (hnone : ∀ h' tk, told x = none → Fr base L h' m → News base L h' news → Q .none { s with heap := h', toks := tk })
   (hsome : ∀ D i t j u h' tk, told x = some (i, j) → Fr base L h' m → News base L h' ((D, tupOf i t j u) :: news) → Q (.ref D) { s with heap := h', toks := tk }) :
   wpAny (model Challenge.rw_ki0032_01.row.prog w) (callerA.deeper (envOf cn cs L a ccd)) (call (.ref 42) [.str x u]) Q E s :=
  told_call B F X N T hk (Nat.le_trans g.1 (by decide)) g.ok hnone hsome

local macro_rules | `(tactic| walk_at "CompSrc") => `(tactic| (k_here; k_dflt (refine LCg.CompSrc.ledger (by rfl) (by k_asm) (by k_asm) (by k_mem) (by rw [PySem.sizeLine_eq, List.size_toArray, IntsAre.length (by assumption)]; omega) ?_; intro g'; (refine' kct_list (fun k => Txt.item signText (k.fmod 16)) (by assumption) (fun k' t' I' oI' C' oC' D' m' ys' h' tk' E' hk' hC' hx' F' N' off' ne' => ?_) ?_); (all_goals (try (simp only [LCg.Off3, and_true] at off'))); (all_goals (try ((show KPfMark → _); intro hMark'))); kcf_last)))
local macro_rules | `(tactic| walk_at "call ref") => `(tactic| (k_here; (with_reducible show wpAny _ _ (call (Value.ref 49) [Value.int _ _]) _ _ _); k_dflt (refine' capped_call ?k1 ?k2 ?k3 ?k4 ?k5 ?k6 ?_; (case k1 => k_asm); (case k2 => k_asm); (case k3 => k_asm); (case k4 => k_asm); (case k5 => k_asm); (case k6 => exact rfl)); intros))
local macro_rules | `(tactic| walk_at "call builtin:str.join") => `(tactic| (k_here; (with_reducible show wpAny _ _ (call (Value.builtin "str.join") [Value.str _ _, Value.ref _]) _ _ _); (refine join_signs (by exact News.isList (by k_asm) (by k_mem)) (by first | with_reducible assumption | exact signs_of (by with_reducible assumption) (by omega)) ?_); intro y' t' k' hy' hc'))
local macro_rules | `(tactic| walk_at "subscriptTail Name Slice ref ref") => `(tactic| (k_here; (with_reducible show wpAny _ _ (subscriptTail _ (PySem.Expr.Slice _ _ (some _) _) (Value.ref _) (Value.ref _)) _ _ _); k_dflt (refine' slice_signs ?F ?N ?l ?g ?p ?q ?k ?o ?_ ?s ?t; (case F => k_asm); (case N => k_asm); (case l => kmk_list); (case g => first | with_reducible assumption | exact signs_of (by with_reducible assumption) (by omega)); (case p => kmk_part); (case q => kmk_part); (case k => kmk_part); (case o => decide); (case s => with_unfolding_all rfl); (case t => kmk_pure)); intro D' h' ws' F' N' hS' l1; (try k_lt l1)))
local macro_rules | `(tactic| walk_at "call ref") => `(tactic| (k_here; (with_reducible show wpAny _ _ (call (Value.ref 42) [Value.str _ _]) _ _ _); k_dflt (refine' told_good ?k1 ?k2 ?k3 ?k4 ?k5 ?k6 ?g ?_ ?_; (case k1 => k_asm); (case k2 => k_asm); (case k3 => k_asm); (case k4 => k_asm); (case k5 => k_asm); (case k6 => exact rfl); (case g => first | exact good_one (by with_reducible assumption) (by with_reducible assumption) | exact good_cat (by with_reducible assumption) (by with_reducible assumption) (by with_reducible assumption) (by with_reducible assumption))); (all_goals intros)))
local macro_rules | `(tactic| walk_at "call ref") => `(tactic| (k_here; (with_reducible show wpAny _ _ (call (Value.ref 35) [Value.str _ _]) _ _ _); k_dflt (first
  | (refine' pair_none ?k1 ?k2 ?k3 ?k4 ?k5 ?k6 ?g ?t ?_; (case t => with_reducible assumption); (case k1 => k_asm); (case k2 => k_asm); (case k3 => k_asm); (case k4 => k_asm); (case k5 => k_asm); (case k6 => exact rfl); (case g => first | exact good_one (by with_reducible assumption) (by with_reducible assumption) | exact good_cat (by with_reducible assumption) (by with_reducible assumption) (by with_reducible assumption) (by with_reducible assumption)))
  | (refine' pair_some ?k1 ?k2 ?k3 ?k4 ?k5 ?k6 ?g ?t ?_; (case t => with_reducible assumption); (case k1 => k_asm); (case k2 => k_asm); (case k3 => k_asm); (case k4 => k_asm); (case k5 => k_asm); (case k6 => exact rfl); (case g => first | exact good_one (by with_reducible assumption) (by with_reducible assumption) | exact good_cat (by with_reducible assumption) (by with_reducible assumption) (by with_reducible assumption) (by with_reducible assumption)))); (all_goals intros)))
local macro_rules | `(tactic| walk_at "call ref") => `(tactic| (k_here; (with_reducible show wpAny _ _ (call (Value.ref 21) [Value.str _ _]) _ _ _); k_dflt (refine' glc_dd ?k1 ?k2 ?k3 ?k4 ?k5 ?k6 ?_; (case k1 => k_asm); (case k2 => k_asm); (case k3 => k_asm); (case k4 => k_asm); (case k5 => k_asm); (case k6 => exact rfl)); intros))
local macro_rules | `(tactic| walk_at "binaryOp Mod str ref") => `(tactic| (k_here; (with_reducible show wpAny _ _ (binaryOp Operator.Mod (Value.str _ _) (Value.ref _)) _ _ _); k_dflt (refine' mod_dd ?k1 ?k2 ?_; (case k1 => k_asm); (case k2 => k_mem)); intros))
theorem look : PySem.Challenge.rw_ki0032_01.Holds := hd (by
  k_go0
  all_goals try k_fold
  rename_i w s₀ s₁ mg mb G Y fa o pm doc kV ho hg KX X V GL T B TE TW bm bo M cd1 cd2 hcd ns hs hlay0 hLa hr1 hl2 as1 as2 lS vS asS hL ra wl r0 hI hr hc1 hc2 K0 hD h₁ F N0
  have hEnd : ∀ (h' : Heap) (tk : Nat) m', Fr s₁.heap s₁.heap.objs.size h' m' → GoodW Challenge.rw_ki0032_01.row.claim (classAt s₀.heap) (ExcName.means s₀.heap) [ofPy (PyData.list (List.map PyData.int ns))] s₁ (Except.ok (Flow.ret (Value.bool true))) { s₁ with heap := h', toks := tk } := by
    intro h' tk m' F'
    clear F N0
    wrow_close
  change wpAny _ _ (execs ([_] ++ [_, _, _, _, _]) _) _ _ _
  refine execs_cut (LawCut s₁.heap s₁.heap.objs.size s₁) (fun _ _ h => h.1) ?_ ?_
  · k_steps
    all_goals (
      refine' lawCut_intro ?k1 ?k2 ?k3 ?k4 ?k5 ?k6 ?k7
      case k1 => k_asm
      case k2 => k_asm
      case k4 => exact rfl
      case k3 => k_mem
      case k5 => first | with_reducible assumption | exact IntsAre.cons _ _ (IntsAre.cons _ _ IntsAre.nil)
      case k6 => first | (simp only [List.length_take]; omega) | decide
      case k7 => first | (simp only [List.length_take]; omega) | decide)
  · clear F N0
    rintro s' ⟨_, h, tk, m', D, vs, ks, rfl, F, N, hm, hI', h1, h16⟩
    rw [← num_eq hm] at F
    clear hm
    have K1 : Below callerA s₁.heap [] s₁.heap := K0
    clear G Y ho hs hlay0 hLa hr1 hl2 hL ra wl r0 hI hr hc1 hc2 X V GL B TE TW M hcd hD K0
    refine wpAny_mono (Q := RetTrue s₁.heap s₁.heap.objs.size s₁) (E := fun _ _ => False) ?_ (fun f s' h => ?_) (fun _ _ h => h.elim)
    · clear hEnd
      change wpAny _ _ (execs ([_, _, _] ++ [_, _]) _) _ _ _
      refine execs_cut (LawCut2 s₁.heap s₁.heap.objs.size s₁) (fun _ _ h => h.1) ?_ ?_
      · k_steps
        refine' lawCut2_intro ?k1 ?k2 ?k3 ?k4 ?k5 ?k6 ?k7
        case k1 => k_asm
        case k2 => k_asm
        case k5 => exact rfl
        case k6 => exact rfl
        case k7 => exact rfl
        case k4 => exact signs_of (by with_reducible assumption) h16
        case k3 => exact List.Mem.head _
      · clear F N hI' h1 h16
        rintro s' ⟨_, h, tk, m', D, ys, a, ta, b, tb, rfl, F, N, hS, hm1, hm2, hm3⟩
        rw [← slc_eq hm1 hm2 hm3] at F
        clear hm1 hm2 hm3
        change wpAny _ _ (execs ([_] ++ [_]) _) _ _ _
        refine execs_cut (LawCut3 s₁.heap s₁.heap.objs.size s₁ a b ta tb) (fun _ _ h => h.1) ?_ ?_
        · k_steps
          all_goals exact lawCut3_intro (by k_asm) (by exact rfl) (by exact rfl)
        · clear F N hS
          rintro s' ⟨_, h, tk, m', rfl, F, hm2, hm3⟩
          rw [← lc_eq hm2 hm3] at F
          clear hm2 hm3
          have N : News s₁.heap s₁.heap.objs.size h [] := News.nil
          k_steps
          exact retTrue_intro (by k_asm)
    · obtain ⟨rfl, h', tk', m'', rfl, F''⟩ := h
      exact hEnd h' tk' m'' F'')
end Mine
end Law2Part

theorem PySem.Challenge.cw_ki0032_01_holds : PySem.Challenge.rw_ki0032_01.Holds := by
  exact Mine.look
