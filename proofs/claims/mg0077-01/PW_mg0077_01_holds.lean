import PyProof.Rows.All
import Wide.All
import OpenK.AllK
import Wide.FinOn
import PySem.Challenge.RW_mg0077_01
set_option Elab.async false
section
open PySem PySem.W PyProof.Rows
namespace Mine
set_option maxRecDepth 100000
set_option maxHeartbeats 8000000
open_top hd for PySem.Challenge.rw_mg0077_01
end Mine
end
section
open PySem PySem.W PySem.Calls PySem.NumText PyProof.Rows
open PySem.Sem (wp)
set_option maxRecDepth 100000
namespace Mine

/-- a 'map.__next__' stands in the stack above the first activation of Python code -/
def Blk (codes : List Code) : Prop := ∃ pre args post, codes = pre ++ Code.builtin "map.__next__" args :: post ∧ ∀ c ∈ pre, c.env? = none

theorem Blk.head (args : Args) (post : List Code) : Blk (Code.builtin "map.__next__" args :: post) := ⟨[], args, post, rfl, fun _ h => nomatch h⟩
theorem Blk.cons {c : Code} {l : List Code} (h : Blk l) (hc : c.env? = none) : Blk (c :: l) := by
  obtain ⟨pre, args, post, rfl, hp⟩ := h
  exact ⟨c :: pre, args, post, rfl, fun d hd => by
    rcases List.mem_cons.mp hd with e | hd
    · rw [e]; exact hc
    · exact hp d hd⟩
theorem takeWhile_mem {l pre post : List Code} {c : Code} (p : Code → Bool) (e : l = pre ++ c :: post) (hp : ∀ d ∈ pre, p d = true) (hc : p c = true) : c ∈ l.takeWhile p := by
  subst e
  induction pre with
  | nil => rw [List.nil_append, List.takeWhile_cons, if_pos hc]; exact List.mem_cons_self
  | cons d pre ih =>
    rw [List.cons_append, List.takeWhile_cons, if_pos (hp d List.mem_cons_self)]
    exact List.mem_cons_of_mem _ (ih fun d' hd' => hp d' (List.mem_cons_of_mem _ hd'))
theorem Blk.no {l : List Code} (h : Blk l) : pythonCodeMadeTheCall ["int.__new__"] l = false := by
  obtain ⟨pre, args, post, e, hp⟩ := h
  have hm := takeWhile_mem (fun c => c.env?.isNone) e (fun d hd => by rw [hp d hd]; rfl) rfl
  unfold pythonCodeMadeTheCall
  rw [Bool.and_eq_false_iff]
  refine Or.inr ?_
  rw [List.all_eq_false]
  refine ⟨_, hm, ?_⟩
  have h1 : (["int.__new__"].contains "map.__next__") = false := by decide
  have h2 : ("map.__next__" == "type.__call__") = false := by decide
  show ¬ ((["int.__new__"].contains "map.__next__") || (("map.__next__" == "type.__call__") && _)) = true
  rw [h1, h2]
  simp

def wpN {α : Type} (M : Model) (A : Around) (t : Sem α) (Q : α → Shared → Prop) (E : Value → Shared → Prop) (s : Shared) : Prop :=
  ∀ Γ p, Γ.In A → Blk (Γ.code :: Γ.below.map (·.1)) → wp M Γ t (fun a _ s' => Q a s') (fun e _ s' => E e s') p s
def codeN (M : Model) (A : Around) (c : Code) (R : Result → Shared → Prop) (s : Shared) : Prop :=
  ∀ Γ p, Γ.code = c → Γ.Below A → Blk (Γ.below.map (·.1)) → wpCode M Γ R p s

section
variable {α β : Type} {M : Model} {A : Around} {E : Value → Shared → Prop} {s : Shared}
theorem wpN_any {t : Sem α} {Q : α → Shared → Prop} (h : wpAny M A t Q E s) : wpN M A t Q E s := fun Γ p hΓ _ => h Γ p hΓ
theorem wpN_pure {a : α} {Q : α → Shared → Prop} (h : Q a s) : wpN M A (pure a) Q E s := fun _ _ _ _ => h
theorem wpN_mono {t : Sem α} {Q Q' : α → Shared → Prop} {E' : Value → Shared → Prop} (h : wpN M A t Q E s)
    (hQ : ∀ a s, Q a s → Q' a s) (hE : ∀ e s, E e s → E' e s) : wpN M A t Q' E' s :=
  fun Γ p hΓ hb => Sem.wp_mono M Γ t (fun a _ s => hQ a s) (fun e _ s => hE e s) p s (h Γ p hΓ hb)
theorem wpN_bind {m : Sem α} {f : α → Sem β} {Q : β → Shared → Prop} (h : wpN M A m (fun a s' => wpN M A (f a) Q E s') E s) :
    wpN M A (m >>= f) Q E s := fun Γ p hΓ hb => by
  rw [Sem.wp_bind']
  exact Sem.wp_mono M Γ m (fun a p' s' h' => h' Γ p' hΓ hb) (fun _ _ _ h' => h') p s (h Γ p hΓ hb)
/-- a first part that the plain rules know -/
theorem wpN_step {m : Sem α} {f : α → Sem β} {Q : β → Shared → Prop} (h : wpAny M A m (fun a s' => wpN M A (f a) Q E s') E s) :
    wpN M A (m >>= f) Q E s := wpN_bind (wpN_any h)
theorem wpN_holding {vs : List Value} {m : Sem α} {Q : α → Shared → Prop} (h : wpN M A m Q E s) : wpN M A (holding vs m) Q E s :=
  fun Γ p hΓ hb => by rw [Sem.wp_holding]; exact h Γ p hΓ hb
theorem wpN_ite_true {c : Prop} [Decidable c] {a b : Sem α} {Q : α → Shared → Prop} (hc : c) (h : wpN M A a Q E s) : wpN M A (if c then a else b) Q E s := by
  rw [if_pos hc]; exact h
theorem wpN_ite_false {c : Prop} [Decidable c] {a b : Sem α} {Q : α → Shared → Prop} (hc : ¬ c) (h : wpN M A b Q E s) : wpN M A (if c then a else b) Q E s := by
  rw [if_neg hc]; exact h
theorem wpN_runValue {c : Code} {Q : Value → Shared → Prop} (hc : codeN M A c (fun r s' => match r with | .ok (.ret v) => Q v s' | .ok _ => False | .error e => E e s') s) :
    wpN M A (runValue c) Q E s := fun Γ p hΓ hb => by
  rw [Sem.wp_runValue]; exact hc _ p rfl (hΓ.enter c none p (by intro x; cases x)) hb
theorem codeN_of_tree {c : Code} {R : Result → Shared → Prop} (hc : c.env? = none)
    (h : wpN M (A.under c) (M.den c) (fun fin s' => match fin with | .done f => R (.ok f) s' | .again c' => c'.quiet = true ∧ codeN M A c' R s')
      (fun e s' => R (.error e) s') s) : codeN M A c R s := fun Γ p hcc hΓ hb => by
  rw [wpCode_iff_wp, hcc]
  refine Sem.wp_mono M Γ _ (fun fin p' s' h' => ?_) (fun _ _ _ h' => h') p s (h Γ p (hcc ▸ hΓ.in) (by rw [hcc]; exact hb.cons hc))
  cases fin with
  | done f => exact h'
  | again c' => exact ⟨h'.1, h'.2 (Γ.goto c') p' rfl (hΓ.goto c') hb⟩
theorem codeAny_of_N {args : Args} {R : Result → Shared → Prop}
    (h : wpN M (A.under (.builtin "map.__next__" args)) (M.den (.builtin "map.__next__" args)) (fun fin s' => match fin with | .done f => R (.ok f) s' | .again c' => c'.quiet = true ∧ codeAny M A c' R s')
      (fun e s' => R (.error e) s') s) : codeAny M A (.builtin "map.__next__" args) R s := fun Γ p hcc hΓ => by
  rw [wpCode_iff_wp, hcc]
  refine Sem.wp_mono M Γ _ (fun fin p' s' h' => ?_) (fun _ _ _ h' => h') p s (h Γ p (hcc ▸ hΓ.in) (by rw [hcc]; exact Blk.head _ _))
  cases fin with
  | done f => exact h'
  | again c' => exact ⟨h'.1, h'.2 (Γ.goto c') p' rfl (hΓ.goto c')⟩
theorem wpN_markTheRefusal {e : Value} {Q : Unit → Shared → Prop} (h : Q () s) : wpN M A (markTheRefusal ["int.__new__"] e) Q E s := fun Γ p hΓ hb => by
  unfold markTheRefusal
  rw [Sem.wp_bind']
  show wp M Γ (if pythonCodeMadeTheCall ["int.__new__"] (((Γ.code, p) :: Γ.below).map (·.1)) = true then _ else _) _ _ p s
  have hb' := Blk.no hb
  rw [if_neg (by show ¬ pythonCodeMadeTheCall ["int.__new__"] (Γ.code :: Γ.below.map (·.1)) = true; rw [hb']; exact Bool.false_ne_true)]
  exact h
end
section
variable {prog : Program} {w : World} {A : Around} {R : Result → Shared → Prop} {s : Shared}
theorem codeN_builtin {id : String} {args : Args} {b : Builtin} (hb : entryFor table id = some b)
    (h : wpN (model prog w) (A.under (.builtin id args)) (b args)
      (fun fin s' => match fin with | .done f => R (.ok f) s' | .again c' => c'.quiet = true ∧ codeN (model prog w) A c' R s') (fun e s' => R (.error e) s') s) :
    codeN (model prog w) A (.builtin id args) R s := by
  refine codeN_of_tree rfl ?_
  show wpN _ _ (match entryFor table id with | some b => b args | none => unsupported ((withoutEnding? id "#data").getD id)) _ _ s
  rw [hb]; exact h
theorem mapNext_den {args : Args} {b : Builtin} {id : String} (hb : entryFor table id = some b) : (model prog w).den (.builtin id args) = b args := by
  show (match entryFor table id with | some b => b args | none => unsupported ((withoutEnding? id "#data").getD id)) = _
  rw [hb]
end
end Mine
end
section
open PySem PySem.W PySem.Calls PySem.NumText PyProof.Rows
open PySem.Sem (wp)
set_option maxRecDepth 100000
namespace Mine
section
variable {prog : Program} {w : World} {A : Around} {E : Value → Shared → Prop} {s : Shared}

/-- the refusal itself: the text is shown, the error made, not marked, raised -/
theorem tail_refused {x : PySem.Str} {u : Tok} {Q : Value → Shared → Prop} (hl : x.length ≤ 640) (hx : ∀ c ∈ x.cps.toList, c < 128) (hh : A.handled = none)
    (h : ∀ h' tk e, Heap.NewExc s.heap h' e "ValueError" → E (.ref e) { s with heap := h', toks := tk }) :
    wpN (model prog w) A (pyRepr (.str x u) >>= fun shown => do
      let m ← mkStr (Str.ofString (toString "invalid literal for int() with base " ++ toString 10 ++ toString ": ") ++ { cps := shown.cps.extract 0 200 })
      let refusal ← newExc (Value.type "ValueError") [m]
      markTheRefusal ["int.__new__"] refusal
      (raiseNew refusal : Sem Value)) Q E s := by
  have hr := PySem.StrLaws.reprText_len x fun c hc => Nat.lt_trans (hx c hc) (by decide)
  refine wpN_step (wpAny_pyRepr_str ?_ (by rw [sizeLine_eq]; omega))
  · refine wpN_step (wpAny_mkStr ?_ ?_)
    · refine wpN_step ?_
      unfold newExc newTuple
      refine wpAny_bind (wpAny_newObj_type ?_)
      refine wpAny_bind (m := firstArgMember _ _) (wpAny_of_eq (a := Value.none) (by simp only [firstArgMember, plainExc_ValueError.first]; rfl) ?_)
      rw [plainExc_ValueError.own]
      refine wpAny_newObj_type ?_
      refine wpN_bind (wpN_markTheRefusal ?_)
      refine wpN_any ?_
      unfold raiseNew
      refine wpAny_bind (wpAny_handled ?_)
      rw [hh]
      first
        | refine wpAny_throw ?_
        | refine wpAny_bind (wpAny_pure (wpAny_throw ?_))
      exact h _ _ _ ⟨fun b o hb => Heap.get?_push_of_some _ (Heap.get?_push_of_some _ hb), Heap.get?_none_of_le (by simp), _, .ref s.heap.objs.size, Heap.get?_push_size _ rfl, rfl, by simp⟩
    · rw [Str.length_append, PySem.ofString_length, sizeLine_eq]
      have e1 : (toString "invalid literal for int() with base " ++ toString 10 ++ toString ": ").length ≤ 100 := by decide
      have e2 : ({ cps := (reprText x).cps.extract 0 200 } : PySem.Str).length ≤ 200 := by
        show ((reprText x).cps.extract 0 200).size ≤ 200
        rw [Array.size_extract]; omega
      omega

theorem text_refused {x : PySem.Str} {u : Tok} {Q : Value → Shared → Prop} (hl : x.length ≤ 640) (hx : ∀ c ∈ x.cps.toList, c < 128) (hn : PySem.intText? x = none) (hh : A.handled = none)
    (h : ∀ h' tk e, Heap.NewExc s.heap h' e "ValueError" → E (.ref e) { s with heap := h', toks := tk }) :
    wpN (model prog w) A ((int_private% "intFromText") (.str x u) (numTextOf x) 10) Q E s := by
  have hs : (numSeenOf x).length ≤ 640 := Nat.le_trans (seen_length x) hl
  refine wpN_ite_true (c := (numSeenOf x).length ≤ 640) hs ?_
  refine wpN_step (wpAny_pure ?_)
  rcases read0 x hs with ⟨n, h1, _, _⟩ | ⟨_, hr⟩
  · rw [hn] at h1; cases h1
  dsimp only
  rcases hr with hr | ⟨i, hr, hi⟩
  · rw [hr]
    dsimp only
    refine wpN_step (wpAny_pure ?_)
    refine wpN_ite_false (by simp) ?_
    refine wpN_step (wpAny_rule ?_)
    refine wpN_step (wpAny_pure ?_)
    exact tail_refused hl hx hh h
  · rw [hr]
    dsimp only
    refine wpN_ite_false hi ?_
    refine wpN_step (wpAny_rule ?_)
    refine wpN_step (wpAny_pure ?_)
    exact tail_refused hl hx hh h

theorem new_refused {x : PySem.Str} {u : Tok} {Q : Fin → Shared → Prop} (hl : x.length ≤ 640) (hx : ∀ c ∈ x.cps.toList, c < 128) (hn : PySem.intText? x = none) (hh : A.handled = none)
    (h : ∀ h' tk e, Heap.NewExc s.heap h' e "ValueError" → E (.ref e) { s with heap := h', toks := tk }) :
    wpN (model prog w) A (Builtin.«int.__new__» ⟨[.type "int", .str x u], []⟩) Q E s := by
  have f1 := F.conv_sub_int
  have f2 := F.madeHere_int
  have f3 := KIN.str_int
  have f4 := KIN.str_idx
  have f5 := KIN.str_trunc
  have f6 : typeOf (.str x u) = pure (.type "str") := rfl
  unfold Builtin.«int.__new__»
  refine wpN_step (wpAny_of_eq (a := true) rfl ?_)
  refine wpN_ite_false (by simp) ?_
  refine wpN_step (wpAny_of_eq f1 ?_)
  refine wpN_ite_false (by simp) ?_
  refine wpN_step (wpAny_of_eq f2 ?_)
  refine wpN_ite_false (by simp) ?_
  refine wpN_ite_false (by simp) ?_
  refine wpN_step (wpAny_pure ?_)
  refine wpN_bind ?_
  refine wpN_step (m := callSpecial? (.str x u) (Str.ofString "__int__")) ?_
  repeat (first | assumption | wp_step)
  refine wpN_step (m := specialOf (.str x u) (Str.ofString "__index__")) ?_
  repeat (first | assumption | wp_step)
  refine wpN_ite_false (by simp) ?_
  refine wpN_step (m := specialOf (.str x u) (Str.ofString "__trunc__")) ?_
  repeat (first | assumption | wp_step)
  refine wpN_step (m := (int_private% "numeralText?") (.str x u)) ?_
  refine wpAny_of_eq (a := some (numTextOf x)) rfl ?_
  exact text_refused hl hx hn hh h

theorem call_refused {x : PySem.Str} {u : Tok} {Q : Value → Shared → Prop} (hl : x.length ≤ 640) (hx : ∀ c ∈ x.cps.toList, c < 128) (hn : PySem.intText? x = none) (hh : A.handled = none)
    (h : ∀ h' tk e, Heap.NewExc s.heap h' e "ValueError" → E (.ref e) { s with heap := h', toks := tk }) :
    wpN (model prog w) A (call (.type "int") [.str x u]) Q E s := by
  have ft := F.called_int
  obtain ⟨c, tl, hmro⟩ := ft.mro
  have hmade := ft.made
  have h1 := ft.notType
  have h2 := ft.canCreate
  refine wpN_runValue (codeN_of_tree rfl ?_)
  show wpN _ _ (callAny (.type "int") _) _ _ _
  refine wpN_pure ⟨Code.quiet_builtin _ (by decide +kernel), codeN_builtin F.entry_type_call ?_⟩
  unfold Builtin.«type.__call__»
  refine wpN_ite_false (by simp [h1]) ?_
  refine wpN_ite_false (by rw [Bool.not_eq_true]; exact h2) ?_
  refine wpN_step (wpAny_of_eq (F.typeCall_int_1 _) ?_)
  refine wpN_step (wpAny_of_eq hmro ?_)
  refine wpN_ite_false (by simp) ?_
  refine wpN_step (wpAny_of_eq hmade ?_)
  refine wpN_step (wpAny_pure ?_)
  refine wpN_bind (wpN_holding (wpN_runValue (codeN_of_tree rfl ?_)))
  have hden2 : (model prog w).den (.call (.builtin "int.__new__") ⟨[.type "int", .str x u], []⟩) = (do checkBuiltinCall "int.__new__" ⟨[.type "int", .str x u], []⟩; again (.builtin "int.__new__" ⟨[.type "int", .str x u], []⟩)) := rfl
  rw [hden2]
  refine wpN_step (wpAny_of_eq (F.newCall_int_1 _) ?_)
  refine wpN_pure ⟨plainId_quiet (by decide +kernel) _, codeN_builtin F.entry_int_new ?_⟩
  exact new_refused hl hx hn hh h
end
end Mine
end
section
open PySem PySem.W PySem.Calls PySem.NumText PyProof.Rows
open PySem.Sem (wp)
set_option maxRecDepth 100000
namespace Mine
theorem slot_map_next : Slot "map" "__next__" "map.__next__" :=
  .of (owner := "map") (n := "__next__") (by rw [typeLookup_type, builtinLookup_eq_fast]; kernel_rfl) (by decide +kernel) (by decide +kernel) (by decide +kernel)
    (by first | exact .inl (by decide +kernel) | exact .inr (by decide +kernel)) (by rw [isSubtype_type]; kernel_rfl)
theorem slot_map_iter : Slot "map" "__iter__" "map.__iter__" :=
  .of (owner := "map") (n := "__iter__") (by rw [typeLookup_type, builtinLookup_eq_fast]; kernel_rfl) (by decide +kernel) (by decide +kernel) (by decide +kernel)
    (by first | exact .inl (by decide +kernel) | exact .inr (by decide +kernel)) (by rw [isSubtype_type]; kernel_rfl)
theorem slot_map_init : Slot "map" "__init__" "object.__init__" :=
  .of (owner := "object") (n := "__init__") (by rw [typeLookup_type, builtinLookup_eq_fast]; kernel_rfl) (by decide +kernel) (by decide +kernel) (by decide +kernel)
    (by first | exact .inl (by decide +kernel) | exact .inr (by decide +kernel)) (by rw [isSubtype_type]; kernel_rfl)
theorem owner_map : Manifest.owners.lookup (String.ofList ['p', 'a', 'm'].reverse) = some Manifest.sig_map := by kernel_rfl
theorem args_map_next (a : Value) : argsOk "map.__next__" ⟨[a], []⟩ := by
  unfold argsOk; rw [signature?_of (id := "map.__next__") (n := ['_', '_', 't', 'x', 'e', 'n', '_', '_']) (o := ['p', 'a', 'm']) (by kernel_rfl) owner_map]; kernel_rfl
theorem args_map_iter (a : Value) : argsOk "map.__iter__" ⟨[a], []⟩ := by
  unfold argsOk; rw [signature?_of (id := "map.__iter__") (n := ['_', '_', 'r', 'e', 't', 'i', '_', '_']) (o := ['p', 'a', 'm']) (by kernel_rfl) owner_map]; kernel_rfl
theorem entry_map_next : entryFor table "map.__next__" = some Builtin.«map.__next__» := entryFor_of_tree (by kernel_rfl)
theorem entry_map_new : entryFor table "map.__new__" = some Builtin.«map.__new__» := entryFor_of_tree (by kernel_rfl)
theorem entry_map_iter : entryFor table "map.__iter__" = some Builtin.«dict_keyiterator.__iter__» :=
  entryFor_alias (id' := "dict_keyiterator.__iter__") (by kernel_rfl) (by first | rfl | decide +kernel | (unfold String.splitOn; simp +decide [String.splitOnAux])) (by decide +kernel) (by kernel_rfl)
theorem mro_map : mroOf (.type "map") = pure [.type "map", .type "object"] := by rw [mroOf_type]; kernel_rfl
theorem lookup_map_new : typeLookup (.type "map") "__new__" = pure (some (.builtin "map.__new__")) := by rw [typeLookup_type, builtinLookup_eq_fast]; kernel_rfl
theorem called_map : TypeCalled "map" "map.__new__" "object.__init__" :=
  ⟨by decide +kernel, by decide +kernel, ⟨_, _, mro_map⟩, madeBy_type mro_map lookup_map_new (by decide +kernel), by decide +kernel, by rw [isSubtype_type]; kernel_rfl, slot_map_init⟩
theorem typeCall_map_2 (a b : Value) : checkTypeCall "map" ⟨[a, b], []⟩ = pure () := by kernel_rfl
theorem newCall_map_2 (a b : Value) : checkBuiltinCall "map.__new__" ⟨[.type "map", a, b], []⟩ = pure () := by kernel_rfl
theorem sub_map : isSubtype (.type "map") (.type "map") = pure true := by rw [isSubtype_type]; kernel_rfl
theorem map_no_len : typeLookup (.type "map") "__len__" = pure none := by rw [typeLookup_type, builtinLookup_eq_fast]; kernel_rfl
theorem map_no_hint : typeLookup (.type "map") "__length_hint__" = pure none := by rw [typeLookup_type, builtinLookup_eq_fast]; kernel_rfl

/-- a map object: the tuple of its iterators, its function -/
abbrev IsMap (h : Heap) (m T : Addr) (f : Value) : Prop := h.get? m = some { cls := .type "map", dict := none, data := .fields #[.ref T, f], slots := #[] }
abbrev IsOne (h : Heap) (T it : Addr) : Prop := h.get? T = some { cls := .type "tuple", data := .seq #[.ref it] }

abbrev mapL1 (h : Heap) (l : Addr) : Heap := h.push { cls := .type "list_iterator", data := .fields #[.ref l, .int 0 0] }
abbrev mapL2 (h : Heap) (l : Addr) : Heap := (mapL1 h l).push { cls := .type "tuple", data := .seq #[.ref h.objs.size] }
abbrev mapL3 (h : Heap) (l : Addr) (f : Value) : Heap := (mapL2 h l).push { cls := .type "map", data := .fields #[.ref (mapL1 h l).objs.size, f] }
abbrev mapM1 (h : Heap) (m : Addr) : Heap := h.push { cls := .type "tuple", data := .seq #[.ref m] }
abbrev mapM2 (h : Heap) (m : Addr) (f : Value) : Heap := (mapM1 h m).push { cls := .type "map", data := .fields #[.ref h.objs.size, f] }

section
variable {prog : Program} {w : World} {A : Around} {E : Value → Shared → Prop} {s : Shared}
theorem pyIter_map {m T : Addr} {f : Value} {Q : Value → Shared → Prop} (hm : IsMap s.heap m T f) (h : Q (.ref m) s) : wpAny (model prog w) A (pyIter (.ref m)) Q E s := by
  have hT : s.TypeIs (.ref m) "map" := ⟨_, hm, rfl⟩
  refine wpAny_pyIter_slot hT slot_map_iter (wpAny_call_entry slot_map_iter hT entry_map_iter ?_ (args_map_iter _))
  show wpAny _ _ (ret (.ref m)) _ _ s
  exact wpAny_pure ⟨_, rfl, "map", _, hT, slot_map_next.lookup, h⟩
end

theorem meets_map_list (f : Value) (l : Addr) (xs : Array Value) :
    Meets (Builtin.«map.__new__» ⟨[.type "map", f, .ref l], []⟩) (fun _ R s => s.heap.IsList l xs ∧
      R (.ok (.ret (.ref (mapL2 s.heap l).objs.size))) { s with heap := mapL3 s.heap l f }) :=
  .of_wp fun prog w A R s h => by
    obtain ⟨hp, g, d, tk, os⟩ := s; obtain ⟨hl1, h⟩ := h
    have hsub := sub_map
    have hL1 : Heap.IsList (Shared.heap ⟨hp, g, d, tk, os⟩) l xs := hl1
    wp_walk using wpAny_pyIter_list hL1
    exact ⟨_, rfl, h⟩
theorem meets_map_map (f g : Value) (m T : Addr) :
    Meets (Builtin.«map.__new__» ⟨[.type "map", f, .ref m], []⟩) (fun _ R s => IsMap s.heap m T g ∧
      R (.ok (.ret (.ref (mapM1 s.heap m).objs.size))) { s with heap := mapM2 s.heap m f }) :=
  .of_wp fun prog w A R s h => by
    obtain ⟨hp, g, d, tk, os⟩ := s; obtain ⟨hl1, h⟩ := h
    have hsub := sub_map
    have hL1 : IsMap (Shared.heap ⟨hp, g, d, tk, os⟩) m T _ := hl1
    wp_walk using pyIter_map hL1
    exact ⟨_, rfl, h⟩
section
variable {prog : Program} {w : World} {A : Around} {E : Value → Shared → Prop} {s : Shared}
theorem call_map_list {f : Value} {l : Addr} {xs : Array Value} {Q : Value → Shared → Prop} (hl : s.heap.IsList l xs)
    (h : ∀ h', h'.IsListIter s.heap.objs.size l 0 → IsOne h' (s.heap.objs.size + 1) s.heap.objs.size → IsMap h' (s.heap.objs.size + 2) (s.heap.objs.size + 1) f → h'.objs.size = s.heap.objs.size + 3 →
      (∀ c o, s.heap.get? c = some o → h'.get? c = some o) → Q (.ref (s.heap.objs.size + 2)) { s with heap := h' }) :
    wpAny (model prog w) A (call (.type "map") [f, .ref l]) Q E s := by
  refine callType_new called_map (by decide) (typeCall_map_2 _ _) (newCall_map_2 _ _) (fun obj => F.args_object_init_3 obj _ _) entry_map_new (meets_map_list f l xs) ⟨hl, ?_⟩
  have z1 : (mapL1 s.heap l).objs.size = s.heap.objs.size + 1 := Heap.size_push ..
  have z2 : (mapL2 s.heap l).objs.size = s.heap.objs.size + 2 := by rw [Heap.size_push, z1]
  have z3 : (mapL3 s.heap l f).objs.size = s.heap.objs.size + 3 := by rw [Heap.size_push, z2]
  have g3 : (mapL3 s.heap l f).get? (mapL2 s.heap l).objs.size = some _ := Heap.get?_push_size _ rfl
  have g2 : (mapL3 s.heap l f).get? (mapL1 s.heap l).objs.size = some _ := Heap.get?_push_of_some _ (Heap.get?_push_size _ rfl)
  have g1 : (mapL3 s.heap l f).get? s.heap.objs.size = some _ := Heap.get?_push_of_some _ (Heap.get?_push_of_some _ (Heap.get?_push_size _ rfl))
  show _ ∧ _
  rw [z1, z2] at g3
  rw [z1] at g2
  rw [z2]
  exact ⟨⟨_, g3, rfl⟩, h _ ⟨_, g1, rfl, rfl⟩ g2 g3 z3 fun c o x => Heap.get?_push_of_some _ (Heap.get?_push_of_some _ (Heap.get?_push_of_some _ x))⟩
theorem call_map_map {f g : Value} {m T : Addr} {Q : Value → Shared → Prop} (hm : IsMap s.heap m T g)
    (h : ∀ h', IsOne h' s.heap.objs.size m → IsMap h' (s.heap.objs.size + 1) s.heap.objs.size f → h'.objs.size = s.heap.objs.size + 2 →
      (∀ c o, s.heap.get? c = some o → h'.get? c = some o) → Q (.ref (s.heap.objs.size + 1)) { s with heap := h' }) :
    wpAny (model prog w) A (call (.type "map") [f, .ref m]) Q E s := by
  refine callType_new called_map (by decide) (typeCall_map_2 _ _) (newCall_map_2 _ _) (fun obj => F.args_object_init_3 obj _ _) entry_map_new (meets_map_map f g m T) ⟨hm, ?_⟩
  have z1 : (mapM1 s.heap m).objs.size = s.heap.objs.size + 1 := Heap.size_push ..
  have z2 : (mapM2 s.heap m f).objs.size = s.heap.objs.size + 2 := by rw [Heap.size_push, z1]
  have g2 : (mapM2 s.heap m f).get? (mapM1 s.heap m).objs.size = some _ := Heap.get?_push_size _ rfl
  have g1 : (mapM2 s.heap m f).get? s.heap.objs.size = some _ := Heap.get?_push_of_some _ (Heap.get?_push_size _ rfl)
  show _ ∧ _
  rw [z1] at g2
  rw [z1]
  exact ⟨⟨_, g2, rfl⟩, h _ g1 g2 z2 fun c o x => Heap.get?_push_of_some _ (Heap.get?_push_of_some _ x)⟩
end
end Mine
end
section
open PySem PySem.W PySem.Calls PySem.NumText PyProof.Rows
open PySem.Sem (wp)
set_option maxRecDepth 100000
namespace Mine
/-! the number's size -/
theorem foldl_lt (b : Nat) : ∀ (l : List Nat) (a k : Nat), (∀ d ∈ l, d < b) → a < b ^ k → l.foldl (fun acc d => acc * b + d) a < b ^ (k + l.length)
  | [], a, k, _, h => h
  | d :: l, a, k, hd, h => by
    rw [List.foldl_cons, List.length_cons, show k + (l.length + 1) = (k + 1) + l.length by omega]
    refine foldl_lt b l _ (k + 1) (fun e he => hd e (List.mem_cons_of_mem _ he)) ?_
    have h0 := hd d List.mem_cons_self
    have h1 : (a + 1) * b ≤ b ^ k * b := Nat.mul_le_mul_right b h
    rw [Nat.pow_succ]
    have h2 : (a + 1) * b = a * b + b := Nat.succ_mul a b
    omega
theorem step_lt {p q : Array Nat × Bool} {c : Nat} (h : NumText.step 10 p c = some q) (hp : ∀ d ∈ p.1.toList, d < 10) : ∀ d ∈ q.1.toList, d < 10 := by
  unfold NumText.step at h
  repeat' split at h
  all_goals first
    | (cases h; exact hp)
    | (cases h; intro d hd; rw [Array.toList_push] at hd; rcases List.mem_append.mp hd with hd | hd
       · exact hp d hd
       · rw [List.mem_singleton.mp hd]; assumption)
    | cases h
theorem foldM_lt : ∀ (cs : List Nat) {p q : Array Nat × Bool}, cs.foldlM (NumText.step 10) p = some q → (∀ d ∈ p.1.toList, d < 10) → ∀ d ∈ q.1.toList, d < 10
  | [], p, q, h, hp => by
    have e : p = q := Option.some.inj h
    subst e; exact hp
  | c :: cs, p, q, h, hp => by
    rw [List.foldlM_cons] at h
    cases hs : NumText.step 10 p c with
    | none => rw [hs] at h; exact absurd h (by simp)
    | some p' => rw [hs] at h; exact foldM_lt cs (p := p') h (step_lt hs hp)
theorem digits_lt {cs : List Nat} {ds : Array Nat} (h : digits? 10 cs = some ds) : ∀ d ∈ ds.toList, d < 10 := by
  unfold digits? at h
  cases hf : cs.foldlM (NumText.step 10) ((#[] : Array Nat), false) with
  | none => rw [hf] at h; exact absurd h (by simp)
  | some q =>
    rw [hf] at h
    have h2 : (if q.2 = true then some q.1 else none) = some ds := h
    have hq := foldM_lt cs hf (by simp)
    split at h2
    · cases h2; exact hq
    · cases h2
theorem int_small {x : PySem.Str} {n : Int} (h : PySem.intText? x = some n) (hl : x.length ≤ 100) : n.natAbs.log2 < 1920 := by
  unfold PySem.intText? at h
  split at h
  · cases hd : digits? 10 (core (numSeenOf x)) with
    | none => rw [hd] at h; cases h
    | some ds =>
      rw [hd] at h
      have h' : (if ds.size ≤ 4300 then some (worth (sign ((numSeenOf x).dropWhile blank)).1 ds) else none) = some n := h
      split at h'
      · have e := Option.some.inj h'
        have hs : ds.size ≤ 100 := Nat.le_trans (digits_size hd) (Nat.le_trans (core_length _) (Nat.le_trans (seen_length x) hl))
        have hb := foldl_lt 10 ds.toList 0 0 (digits_lt hd) (by decide)
        rw [Array.foldl_toList] at hb
        have hw : n.natAbs = ds.foldl (fun acc d => acc * 10 + d) 0 := by
          rw [← e]
          unfold worth
          split <;> simp
        have hlt : n.natAbs < 10 ^ 100 := by
          rw [hw]
          refine Nat.lt_of_lt_of_le hb ?_
          rw [Nat.zero_add, Array.length_toList]
          exact Nat.pow_le_pow_right (by decide) hs
        have h3 : n.natAbs < 2 ^ 1920 := Nat.lt_of_lt_of_le hlt (by decide +kernel)
        by_cases hz : n.natAbs = 0
        · rw [hz]; decide
        · exact (Nat.log2_lt hz).mpr h3
      · cases h'
  · cases h
section
variable {prog : Program} {w : World} {A : Around} {E : Value → Shared → Prop} {s : Shared}

theorem nextOf_list_item {it l : Addr} {i : Nat} {items} {x : Value} {Q : Value → Shared → Prop} (hit : s.heap.IsListIter it l i)
    (hl : s.heap.IsList l items) (hx : items[i]? = some x)
    (hQ : ∀ h', h'.IsListIter it l (i + 1) → Heap.SameBut it s.heap h' → Q x { s with heap := h' }) :
    wpAny (model prog w) A (Builtin.SmallTypes.nextOf (.ref it)) Q E s := by
  obtain ⟨o, ho, hc, hd⟩ := id hit
  obtain ⟨ol, hol, _, nl, hdl⟩ := hl
  unfold Builtin.SmallTypes.nextOf
  refine wpAny_bind (wpAny_callSpecial?_slot (name := Str.ofString "__next__") hit.typeIs slot_listiter_next
    (wpAny_call_entry slot_listiter_next hit.typeIs entry_listiter_next ?_ (args_listiter_next _)))
  show wpAny _ _ (field (.ref it) 0 >>= _) _ _ s
  refine wpAny_bind (wpAny_field ho hd (x := .ref l) rfl ?_)
  show wpAny _ _ (if (Value.ref l == Value.none) = true then _ else _) _ _ s
  rw [if_neg (show ¬ ((Value.ref l == Value.none) = true) from Bool.false_ne_true)]
  show wpAny _ _ (field (.ref it) 1 >>= _) _ _ s
  refine wpAny_bind (wpAny_field ho hd (x := .int i 0) rfl ?_)
  show wpAny _ _ (seqItems? (.ref l) >>= _) _ _ s
  refine wpAny_bind (wpAny_seqItems hol hdl ?_)
  simp only [Int.toNat_natCast, hx]
  refine wpAny_bind (wpAny_setField ho hd (by simp) (wpAny_pure ⟨x, rfl, wpAny_pure (hQ _ ?_ (Heap.SameBut.update ..))⟩))
  exact ⟨_, Heap.get?_update_self _ ho (Obj.isFreed_of_fields (Obj.data_mapFields hd _)), (Obj.cls_mapFields ..).trans hc, by
    rw [Obj.data_mapFields hd]; simp [rawInt]⟩

theorem nextOf_list_end {it l : Addr} {i : Nat} {items} {Q : Value → Shared → Prop} (hh : A.handled = none)
    (hit : s.heap.IsListIter it l i) (hl : s.heap.IsList l items) (hx : items[i]? = none)
    (hE : ∀ h' e, Heap.ExtBut it s.heap h' → (∃ o, h'.get? e = some o ∧ o.cls = .type "StopIteration") → E (.ref e) { s with heap := h' }) :
    wpAny (model prog w) A (Builtin.SmallTypes.nextOf (.ref it)) Q E s := by
  obtain ⟨o, ho, hc, hd⟩ := id hit
  obtain ⟨ol, hol, _, nl, hdl⟩ := hl
  unfold Builtin.SmallTypes.nextOf
  refine wpAny_bind (wpAny_callSpecial?_slot (name := Str.ofString "__next__") hit.typeIs slot_listiter_next
    (wpAny_call_entry slot_listiter_next hit.typeIs entry_listiter_next ?_ (args_listiter_next _)))
  show wpAny _ _ (field (.ref it) 0 >>= _) _ _ s
  refine wpAny_bind (wpAny_field ho hd (x := .ref l) rfl ?_)
  show wpAny _ _ (if (Value.ref l == Value.none) = true then _ else _) _ _ s
  rw [if_neg (show ¬ ((Value.ref l == Value.none) = true) from Bool.false_ne_true)]
  show wpAny _ _ (field (.ref it) 1 >>= _) _ _ s
  refine wpAny_bind (wpAny_field ho hd (x := .int i 0) rfl ?_)
  show wpAny _ _ (seqItems? (.ref l) >>= _) _ _ s
  refine wpAny_bind (wpAny_seqItems hol hdl ?_)
  simp only [Int.toNat_natCast, hx]
  refine wpAny_bind (wpAny_rule (wpAny_bind (wpAny_setField ho hd (by simp) ?_)))
  show wpAny _ _ (newExc (.type "StopIteration") [] >>= _) _ _ _
  refine wpAny_bind ?_
  simp only [newExc, newTuple]
  refine wpAny_bind (wpAny_newObj_type ?_ (by size_fits))
  refine wpAny_bind (m := firstArgMember _ _) (wpAny_of_eq (a := Value.none) (by first | rfl | (simp only [firstArgMember]; rfl)) ?_)
  refine wpAny_newObj_type ?_ (by size_fits)
  simp only [raiseNew]
  refine wpAny_bind (wpAny_handled ?_)
  rw [show A.in1.handled = none from hh]
  refine wpAny_bind (wpAny_pure (wpAny_throw ?_))
  exact hE _ _ (((Heap.SameBut.update ..).extBut.push _).push _) ⟨_, Heap.get?_push_size _ rfl, rfl⟩

/-- the code of map.__next__ of the inner map -/
abbrev finR (M : Model) (A : Around) (R : Result → Shared → Prop) : PySem.Fin → Shared → Prop := fun fin s' => match fin with | .done f => R (.ok f) s' | .again c' => c'.quiet = true ∧ codeAny M A c' R s'

theorem map_call {m T : Addr} {f : Value} {R : Result → Shared → Prop} (hm : IsMap s.heap m T f)
    (h : codeAny (model prog w) A (.builtin "map.__next__" ⟨[.ref m], []⟩) R s) : codeAny (model prog w) A (.call (.builtin "map.__next__") ⟨[.ref m], []⟩) R s := by
  refine codeAny_of_tree ?_
  show wpAny _ A.in1 (do checkBuiltinCall "map.__next__" ⟨[.ref m], []⟩; again (.builtin "map.__next__" ⟨[.ref m], []⟩)) _ _ s
  refine wpAny_bind (slot_map_next.check _ _ _ _ _ _ _ _ ⟨_, hm, rfl⟩ (args_map_next _) ?_)
  exact wpAny_pure ⟨plainId_quiet slot_map_next.plain _, h⟩
end
section
variable {prog : Program} {w : World} {A : Around} {R : Result → Shared → Prop} {s : Shared}
theorem map_int_body {m T it l : Addr} {i : Nat} {items : Array Value} (hh : A.handled = none) (hm : IsMap s.heap m T (.type "int")) (hT : IsOne s.heap T it)
    (hit : s.heap.IsListIter it l i) (hl : s.heap.IsList l items) (hmi : m ≠ it)
    (h0 : items[i]? = none → ∀ h' e, Heap.ExtBut it s.heap h' → (∃ o, h'.get? e = some o ∧ o.cls = .type "StopIteration") → R (.error (.ref e)) { s with heap := h' })
    (h1 : ∀ x u n h' tk, items[i]? = some (.str x u) → PySem.intText? x = some n → h'.IsListIter it l (i + 1) → Heap.SameBut it s.heap h' → R (.ok (.ret (.int n tk))) { s with heap := h', toks := tk + 1 })
    (h2 : ∀ x u h₁ h' tk e, items[i]? = some (.str x u) → PySem.intText? x = none → Heap.SameBut it s.heap h₁ → Heap.NewExc h₁ h' e "ValueError" → R (.error (.ref e)) { s with heap := h', toks := tk })
    (hs : ∀ v, items[i]? = some v → ∃ x u, v = .str x u ∧ x.length ≤ 100 ∧ ∀ c ∈ x.cps.toList, c < 128) :
    codeAny (model prog w) A (.builtin "map.__next__" ⟨[.ref m], []⟩) R s := by
  refine codeAny_of_N ?_
  rw [mapNext_den entry_map_next, Around.under_plainId slot_map_next.plain]
  unfold Builtin.«map.__next__»
  refine wpN_step (wpAny_of_eq (a := (Value.ref m, [])) rfl ?_)
  refine wpN_step (wpAny_field hm rfl (x := .ref T) rfl ?_)
  refine wpN_step (wpAny_seqItems hT rfl ?_)
  show wpN _ _ (forIn #[Value.ref it] (#[] : Array Value) _ >>= _) _ _ _
  refine wpN_step ?_
  rw [← Array.forIn_toList]
  show wpAny _ _ (forIn [Value.ref it] (#[] : Array Value) _) _ _ _
  rw [List.forIn_cons]
  refine wpAny_bind (wpAny_bind (wpAny_holding ?_))
  cases hi : items[i]? with
  | none => exact nextOf_list_end hh hit hl hi (h0 hi)
  | some v =>
    obtain ⟨x, u, rfl, hlen, hasc⟩ := hs v hi
    refine nextOf_list_item hit hl hi fun h' hit' hsb => ?_
    refine wpAny_pure ?_
    show wpAny _ _ (forIn [] _ _) _ _ _
    rw [List.forIn_nil]
    refine wpAny_pure ?_
    have hm' : IsMap h' m T (.type "int") := (hsb.2 m hmi).trans hm
    refine wpN_step (wpAny_field (s := { s with heap := h' }) hm' rfl (x := .type "int") rfl ?_)
    show wpN _ _ (holding [Value.str x u] (call (.type "int") [.str x u]) >>= _) _ _ _
    refine wpN_bind (wpN_holding ?_)
    cases hn : PySem.intText? x with
    | none => exact call_refused (Nat.le_trans hlen (by decide)) hasc hn hh fun h'' tk e hx => h2 x u h' h'' tk e hi hn hsb hx
    | some n =>
      refine wpN_any (KIN.call_text hn (Nat.le_trans hlen (by decide)) ?_)
      refine wpN_step (wpAny_letGo ?_)
      exact wpN_pure (h1 x u n h' s.toks hi hn hit' hsb)
end
end Mine
end
section
open PySem PySem.W PySem.Calls PySem.NumText PyProof.Rows
open PySem.Sem (wp)
set_option maxRecDepth 100000
namespace Mine
theorem sub_value_stop : isSubtype (.type "ValueError") (.type "StopIteration") = pure false := by rw [isSubtype_type]; kernel_rfl

structure Nest (h : Heap) (M2 T2 M1 T1 I l : Addr) (i : Nat) (items : Array Value) : Prop where
  m2 : IsMap h M2 T2 (.type "str")
  t2 : IsOne h T2 M1
  m1 : IsMap h M1 T1 (.type "int")
  t1 : IsOne h T1 I
  it : h.IsListIter I l i
  ls : h.IsList l items
structure Off (M2 T2 M1 T1 I l : Addr) : Prop where
  m2 : M2 ≠ I
  t2 : T2 ≠ I
  m1 : M1 ≠ I
  t1 : T1 ≠ I
  ls : l ≠ I
theorem Nest.keeps {h h' : Heap} {M2 T2 M1 T1 I l : Addr} {i : Nat} {items : Array Value} (N : Nest h M2 T2 M1 T1 I l i items) (k : ∀ b o, h.get? b = some o → h'.get? b = some o) : Nest h' M2 T2 M1 T1 I l i items :=
  ⟨k _ _ N.m2, k _ _ N.t2, k _ _ N.m1, k _ _ N.t1, N.it.at fun o e => k _ o e, N.ls.at fun o e => k _ o e⟩
theorem Nest.keepsBut {h h' : Heap} {M2 T2 M1 T1 I l S : Addr} {i : Nat} {items : Array Value} (N : Nest h M2 T2 M1 T1 I l i items) (k : ∀ b o, b ≠ S → h.get? b = some o → h'.get? b = some o)
    (n1 : M2 ≠ S) (n2 : T2 ≠ S) (n3 : M1 ≠ S) (n4 : T1 ≠ S) (n5 : I ≠ S) (n6 : l ≠ S) : Nest h' M2 T2 M1 T1 I l i items :=
  ⟨k _ _ n1 N.m2, k _ _ n2 N.t2, k _ _ n3 N.m1, k _ _ n4 N.t1, N.it.at fun o e => k _ o n5 e, N.ls.at fun o e => k _ o n6 e⟩
theorem Nest.next {h h' : Heap} {M2 T2 M1 T1 I l : Addr} {i : Nat} {items : Array Value} (N : Nest h M2 T2 M1 T1 I l i items) (O : Off M2 T2 M1 T1 I l) (k : Heap.SameBut I h h') (ni : h'.IsListIter I l (i + 1)) : Nest h' M2 T2 M1 T1 I l (i + 1) items :=
  ⟨(k.2 _ O.m2).trans N.m2, (k.2 _ O.t2).trans N.t2, (k.2 _ O.m1).trans N.m1, (k.2 _ O.t1).trans N.t1, ni, N.ls.at fun o e => (k.2 _ O.ls).trans e⟩

def Texts (items : Array Value) : Prop := ∀ (i : Nat) v, items[i]? = some v → ∃ x u, v = .str x u ∧ x.length ≤ 100 ∧ ∀ c ∈ x.cps.toList, c < 128

section
variable {prog : Program} {w : World} {A : Around} {E : Value → Shared → Prop} {s : Shared}
theorem nextOf_map_int {m T it l : Addr} {i : Nat} {items : Array Value} {Q : Value → Shared → Prop} (hh : A.handled = none) (hm : IsMap s.heap m T (.type "int")) (hT : IsOne s.heap T it)
    (hit : s.heap.IsListIter it l i) (hl : s.heap.IsList l items) (hmi : m ≠ it) (hs : Texts items)
    (h0 : items[i]? = none → ∀ h' e, Heap.ExtBut it s.heap h' → (∃ o, h'.get? e = some o ∧ o.cls = .type "StopIteration") → E (.ref e) { s with heap := h' })
    (h1 : ∀ x u n h' tk, items[i]? = some (.str x u) → PySem.intText? x = some n → h'.IsListIter it l (i + 1) → Heap.SameBut it s.heap h' → Q (.int n tk) { s with heap := h', toks := tk + 1 })
    (h2 : ∀ x u h₁ h' tk e, items[i]? = some (.str x u) → PySem.intText? x = none → Heap.SameBut it s.heap h₁ → Heap.NewExc h₁ h' e "ValueError" → E (.ref e) { s with heap := h', toks := tk }) :
    wpAny (model prog w) A (Builtin.SmallTypes.nextOf (.ref m)) Q E s := by
  unfold Builtin.SmallTypes.nextOf
  refine wpAny_bind (wpAny_callSpecial?_slot (name := Str.ofString "__next__") ⟨_, hm, rfl⟩ slot_map_next (wpAny_call (map_call hm ?_)))
  refine map_int_body hh hm hT hit hl hmi h0 (fun x u n h' tk a b c d => ?_) h2 (hs i)
  exact wpAny_pure (h1 x u n h' tk a b c d)

theorem pyNext_nest {M2 T2 M1 T1 I l : Addr} {i : Nat} {items : Array Value} {Q : Option Value → Shared → Prop} (hh : A.handled = none) (N : Nest s.heap M2 T2 M1 T1 I l i items) (O : Off M2 T2 M1 T1 I l) (hs : Texts items)
    (h0 : items[i]? = none → ∀ h', Heap.ExtBut I s.heap h' → Q none { s with heap := h' })
    (h1 : ∀ x u n h' tk, items[i]? = some (.str x u) → PySem.intText? x = some n → Nest h' M2 T2 M1 T1 I l (i + 1) items → Heap.SameBut I s.heap h' → Q (some (.str (Str.ofString (toString n)) tk)) { s with heap := h', toks := tk + 1 })
    (h2 : ∀ x u h₁ h' tk e, items[i]? = some (.str x u) → PySem.intText? x = none → Heap.SameBut I s.heap h₁ → Heap.NewExc h₁ h' e "ValueError" → E (.ref e) { s with heap := h', toks := tk }) :
    wpAny (model prog w) A (pyNext (.ref M2)) Q E s := by
  unfold pyNext
  refine wpAny_bind (wpAny_attempt (wpAny_callSpecial?_slot (name := Str.ofString "__next__") ⟨_, N.m2, rfl⟩ slot_map_next (wpAny_call_entry slot_map_next ⟨_, N.m2, rfl⟩ entry_map_next ?_ (args_map_next _))))
  unfold Builtin.«map.__next__»
  refine wpAny_bind (wpAny_of_eq (a := (Value.ref M2, [])) rfl ?_)
  refine wpAny_bind (wpAny_field N.m2 rfl (x := .ref T2) rfl ?_)
  refine wpAny_bind (wpAny_seqItems N.t2 rfl ?_)
  show wpAny _ _ (forIn #[Value.ref M1] (#[] : Array Value) _ >>= _) _ _ _
  refine wpAny_bind ?_
  rw [← Array.forIn_toList]
  show wpAny _ _ (forIn [Value.ref M1] (#[] : Array Value) _) _ _ _
  rw [List.forIn_cons]
  refine wpAny_bind (wpAny_bind (wpAny_holding ?_))
  refine nextOf_map_int hh N.m1 N.t1 N.it N.ls O.m1 hs ?_ ?_ ?_
  · intro hi h' e hx ho
    refine wpAny_bind (wpAny_isInstance (T := "StopIteration") (b := true) ho isSubtype_stop ?_)
    exact wpAny_pure (h0 hi h' hx)
  · intro x u n h' tk hi hn hit' hsb
    refine wpAny_pure ?_
    show wpAny _ _ (forIn [] _ _) _ _ _
    rw [List.forIn_nil]
    refine wpAny_pure ?_
    have N' := N.next O hsb hit'
    refine wpAny_bind (wpAny_field (s := { s with heap := h', toks := tk + 1 }) N'.m2 rfl (x := .type "str") rfl ?_)
    show wpAny _ _ (holding [Value.int n tk] (call (.type "str") [.int n tk]) >>= _) _ _ _
    refine wpAny_bind (wpAny_holding (P.str_of_int (int_small hn ?_) ?_))
    · obtain ⟨x', u', e, hl, _⟩ := hs i _ hi
      cases e; exact hl
    refine wpAny_bind (wpAny_letGo ?_)
    refine wpAny_pure ⟨_, rfl, wpAny_pure ?_⟩
    exact h1 x u n h' (tk + 1) hi hn N' hsb
  · intro x u h₁ h' tk e hi hn hsb hx
    obtain ⟨ob, t, he, hc, _⟩ := hx.there
    refine wpAny_bind (wpAny_isInstance (T := "ValueError") (b := false) ⟨ob, he, hc⟩ sub_value_stop ?_)
    exact wpAny_throw (h2 x u h₁ h' tk e hi hn hsb hx)
end
end Mine
end
section
open PySem PySem.W PySem.Calls PySem.NumText PyProof.Rows
open PySem.Sem (wp)
set_option maxRecDepth 100000
namespace Mine
/-- the texts' numbers, as texts; none where a text is no number -/
def strInts : List PySem.Str → Option (List PySem.Str)
  | [] => some []
  | x :: r => match PySem.intText? x with
    | none => none
    | some n => match strInts r with
      | none => none
      | some ys => some (PySem.Str.ofString (toString n) :: ys)

def KeepsBut (S I : Addr) (h h' : Heap) : Prop := ∀ b o, b ≠ S → b ≠ I → h.get? b = some o → h'.get? b = some o
theorem KeepsBut.trans {S I : Addr} {h h' h'' : Heap} (a : KeepsBut S I h h') (b : KeepsBut S I h' h'') : KeepsBut S I h h'' := fun c o n1 n2 e => b c o n1 n2 (a c o n1 n2 e)

abbrev lst (acc : Array Value) (c : Nat) : Obj := { cls := .type "list", dict := none, data := .seq acc c, slots := #[] }

section
variable {prog : Program} {w : World} {A : Around} {R : Result → Shared → Prop} {M2 T2 M1 T1 I l S : Addr} {vs : List Value} {xs : List PySem.Str}
theorem ext_loop (hh : A.handled = none) (hv : StrsAre vs xs) (hx : Texts vs.toArray) (O : Off M2 T2 M1 T1 I l) (hn : vs.length ≤ sizeLine)
    (n1 : M2 ≠ S) (n2 : T2 ≠ S) (n3 : M1 ≠ S) (n4 : T1 ≠ S) (n5 : I ≠ S) (n6 : l ≠ S) (res : Value) :
    ∀ (rest : List PySem.Str) (i : Nat) (s : Shared) (acc : List Value) (ys : List PySem.Str) (c : Nat), xs.drop i = rest → acc.length = i → i ≤ xs.length → Nest s.heap M2 T2 M1 T1 I l i vs.toArray → s.heap.get? S = some (lst acc.toArray c) → StrsAre acc ys →
      (∀ zs h' tk acc' c', strInts rest = some zs → StrsAre acc' (ys ++ zs) → h'.get? S = some (lst acc'.toArray c') → KeepsBut S I s.heap h' → R (.ok (.ret res)) { s with heap := h', toks := tk }) →
      (∀ h₁ h' tk e, strInts rest = none → KeepsBut S I s.heap h₁ → Heap.NewExc h₁ h' e "ValueError" → R (.error (.ref e)) { s with heap := h', toks := tk }) →
      codeAny (model prog w) A (.builtin "list.extend.loop" ⟨[.ref S, .ref M2, res], []⟩) R s := by
  intro rest
  induction rest with
  | nil =>
    intro i s acc ys c hd hi hil N hS ha ok bad
    refine codeAny_builtin F.entry_extend_loop ?_
    rw [Around.under_plainId F.plain_extend_loop _]
    show wpAny _ A.in1 (pyNext (.ref M2) >>= _) _ _ s
    have hnone : vs.toArray[i]? = none := by
      have h1 : xs.length ≤ i := List.drop_eq_nil_iff.mp hd
      simp [hv.length, h1]
    refine wpAny_bind (pyNext_nest hh N O hx ?_ ?_ ?_)
    · intro _ h' hx'
      refine wpAny_pure (ok [] h' s.toks acc c rfl (by rw [List.append_nil]; exact ha) (hx' S _ (Ne.symm n5) hS) fun b o h1 h2 e => hx' b o h2 e)
    · intro x u n h' tk hi'; rw [hnone] at hi'; cases hi'
    · intro x u h₁ h' tk e hi'; rw [hnone] at hi'; cases hi'
  | cons x rest ih =>
    intro i s acc ys c hd hi hil N hS ha ok bad
    have hlt : i < xs.length := by
      rcases Nat.lt_or_ge i xs.length with h | h
      · exact h
      · rw [List.drop_eq_nil_iff.mpr h] at hd; cases hd
    have hxi : xs[i]? = some x := by
      have := congrArg List.head? hd
      rwa [List.head?_drop] at this
    have hd' : xs.drop (i + 1) = rest := by
      rw [← List.tail_drop, hd]; rfl
    obtain ⟨u, hvi⟩ := hv.get i x hxi
    have hvi' : vs.toArray[i]? = some (.str x u) := by simpa using hvi
    refine codeAny_builtin F.entry_extend_loop ?_
    rw [Around.under_plainId F.plain_extend_loop _]
    show wpAny _ A.in1 (pyNext (.ref M2) >>= _) _ _ s
    refine wpAny_bind (pyNext_nest hh N O hx ?_ ?_ ?_)
    · intro hi'; rw [hvi'] at hi'; cases hi'
    · intro x' u' n h' tk hi' hnum N' hsb
      rw [hvi'] at hi'
      cases hi'
      show wpAny _ A.in1 (updateSeq S (·.push _) >>= _) _ _ _
      have hS' : h'.get? S = some (lst acc.toArray c) := (hsb.2 S (Ne.symm n5)).trans hS
      have hlen : acc.length ≤ sizeLine := by have := hv.length; omega
      refine wpAny_bind (wpAny_updateSeq (s := { s with heap := h', toks := tk + 1 }) hS' rfl (wpAny_pure ⟨plainId_quiet F.plain_extend_loop _, ?_⟩) (by simpa using hlen) (by simp; omega))
      have hk : KeepsBut S I s.heap (h'.update S (Obj.mapSeq (·.push (.str (PySem.Str.ofString (toString n)) tk)))) := fun b o h1 h2 e =>
        (Heap.get?_update_other _ _ (Ne.symm h1)).trans ((hsb.2 b h2).trans e)
      refine ih (i + 1) _ (acc ++ [.str (PySem.Str.ofString (toString n)) tk]) (ys ++ [PySem.Str.ofString (toString n)]) (c + 1) hd' (by simp [hi]) hlt
        (N'.keepsBut (S := S) (fun b o h1 e => (Heap.get?_update_other _ _ (Ne.symm h1)).trans e) n1 n2 n3 n4 n5 n6) ?_ (ha.append' (.cons _ _ .nil)) ?_ ?_
      · have := Heap.get?_update_self (Obj.mapSeq (·.push (.str (PySem.Str.ofString (toString n)) tk))) hS' rfl
        rw [this]
        simp [Obj.mapSeq]
      · intro zs h'' tk' acc' c' hz ha' hS'' hk''
        refine ok (PySem.Str.ofString (toString n) :: zs) h'' tk' acc' c' (by unfold strInts; rw [hnum, hz]) (by rw [List.append_assoc] at ha'; exact ha') hS'' (hk.trans hk'')
      · intro h₁ h'' tk' e hz hk'' hx''
        exact bad h₁ h'' tk' e (by unfold strInts; rw [hnum, hz]) (hk.trans hk'') hx''
    · intro x' u' h₁ h' tk e hi' hnum hsb hx''
      rw [hvi'] at hi'
      cases hi'
      exact bad h₁ h' tk e (by unfold strInts; rw [hnum]) (fun b o _ h2 e' => (hsb.2 b h2).trans e') hx''
end
end Mine
end
section
open PySem PySem.W PySem.Calls PySem.NumText PyProof.Rows
open PySem.Sem (wp)
set_option maxRecDepth 100000
namespace Mine
section
variable {prog : Program} {w : World} {A : Around} {E : Value → Shared → Prop} {s : Shared} {M2 T2 M1 T1 I l : Addr} {vs : List Value} {xs : List PySem.Str}
set_option maxHeartbeats 4000000 in
theorem call_list_nest {Q : Value → Shared → Prop} (hh : A.handled = none) (hv : StrsAre vs xs) (hx : Texts vs.toArray) (O : Off M2 T2 M1 T1 I l) (hn : vs.length ≤ sizeLine) (N : Nest s.heap M2 T2 M1 T1 I l 0 vs.toArray)
    (ok : ∀ zs h' tk acc' c', strInts xs = some zs → StrsAre acc' zs → h'.get? s.heap.objs.size = some (lst acc'.toArray c') → KeepsBut s.heap.objs.size I s.heap h' → Q (.ref s.heap.objs.size) { s with heap := h', toks := tk })
    (bad : ∀ h₁ h' tk e, strInts xs = none → KeepsBut s.heap.objs.size I s.heap h₁ → Heap.NewExc h₁ h' e "ValueError" → E (.ref e) { s with heap := h', toks := tk }) :
    wpAny (model prog w) A (call (.type "list") [.ref M2]) Q E s := by
  have lt : ∀ {b o}, s.heap.get? b = some o → b ≠ s.heap.objs.size := fun e => Nat.ne_of_lt (Heap.lt_size e)
  obtain ⟨oI, hoI, _⟩ := id N.it
  obtain ⟨ol, hol, _⟩ := id N.ls
  have n1 := lt N.m2
  have n2 := lt N.t2
  have n3 := lt N.m1
  have n4 := lt N.t1
  have n5 := lt hoI
  have n6 := lt hol
  refine callType_codes (Q₁ := fun obj s₁ => obj = .ref s.heap.objs.size ∧ s₁ = { s with heap := s.heap.push { cls := .type "list", data := .seq #[] } }) F.called_list (F.typeCall_list_1 _) F.entry_list_init
    (code_list_new _ ⟨rfl, rfl⟩) fun obj s₁ h₁ => ?_
  obtain ⟨rfl, rfl⟩ := h₁
  have hS : (s.heap.push { cls := .type "list", data := .seq #[] }).get? s.heap.objs.size = some { cls := .type "list", data := .seq #[] } := Heap.get?_push_size _ rfl
  refine ⟨⟨_, hS, rfl⟩, F.args_list_init_2 _ _, ?_⟩
  generalize hSz : s.heap.objs.size = S at *
  have N₁ : Nest (s.heap.push { cls := .type "list", data := .seq #[] }) M2 T2 M1 T1 I l 0 vs.toArray := N.keeps fun b o e => Heap.get?_push_of_some _ e
  have k₁ : ∀ b o, s.heap.get? b = some o → (s.heap.push { cls := .type "list", data := .seq #[] }).get? b = some o := fun b o e => Heap.get?_push_of_some _ e
  generalize s.heap.push { cls := .type "list", data := .seq #[] } = H at *
  show wpAny _ A.in1.in1 (do let old ← Builtin.List.listItems (.ref S); Builtin.List.listUpdate (.ref S) (fun _ => #[]); letGo old.toList.reverse; Builtin.List.listExtendWith (.ref S) (.ref M2) .none) _ _ _
  refine wpAny_bind ?_
  unfold Builtin.List.listItems
  refine wpAny_bind (wpAny_seqItems hS rfl (wpAny_pure ?_))
  show wpAny _ A.in1.in1 (updateSeq S (fun _ => #[]) >>= fun _ => letGo (#[] : Array Value).toList.reverse >>= fun _ => Builtin.List.listExtendWith (.ref S) (.ref M2) .none) _ _ _
  refine wpAny_bind (wpAny_updateSeq hS rfl ?_)
  have hS₂ := Heap.get?_update_self (Obj.mapSeq (fun _ => (#[] : Array Value))) hS rfl
  have oth : ∀ b o, b ≠ S → H.get? b = some o → (H.update S (Obj.mapSeq (fun _ => (#[] : Array Value)))).get? b = some o :=
    fun b o hb e => (Heap.get?_update_other _ _ (Ne.symm hb)).trans e
  have N₂ := N₁.keepsBut oth n1 n2 n3 n4 n5 n6
  have k₂ : ∀ b o, b ≠ S → s.heap.get? b = some o → (H.update S (Obj.mapSeq (fun _ => (#[] : Array Value)))).get? b = some o := fun b o hb e => oth b o hb (k₁ b o e)
  refine wpAny_bind (wpAny_letGo ?_)
  clear oth hS
  dsimp only
  generalize H.update S (Obj.mapSeq (fun _ => (#[] : Array Value))) = H₂ at *
  unfold Builtin.List.listExtendWith
  refine wpAny_bind (wpAny_typeOf ⟨_, N₂.m2, rfl⟩ ?_)
  have h1 : Builtin.List.listSameRef (.ref S) (.ref M2) = false := by simp [Builtin.List.listSameRef, Ne.symm n1]
  have h2 : (Value.type "map" == Value.type "list") = false := by decide
  have h3 : (Value.type "map" == Value.type "tuple") = false := by decide
  simp only [h1, h2, h3, Bool.or_false, Bool.false_eq_true, if_false]
  refine wpAny_bind (pyIter_map (s := { s with heap := H₂ }) N₂.m2 ?_)
  refine wpAny_bind (wpAny_holding ?_)
  unfold Builtin.List.listLengthHint
  refine wpAny_bind (wpAny_specialOf ⟨_, N₂.m2, rfl⟩ map_no_len ?_)
  show wpAny _ A.in1.in1 (specialOf (Value.ref M2) (Str.ofString "__length_hint__") >>= _) _ _ _
  refine wpAny_bind (wpAny_specialOf ⟨_, N₂.m2, rfl⟩ map_no_hint ?_)
  refine wpAny_pure ?_
  show wpAny _ A.in1.in1 (rule "list.extend.makes-room" >>= fun _ => Builtin.List.listTouch (.ref S) >>= fun _ =>
    again (.builtin "list.extend.loop" ⟨[.ref S, .ref M2, .none], []⟩)) _ _ _
  refine wpAny_bind (wpAny_rule ?_)
  refine wpAny_bind ?_
  show wpAny _ A.in1.in1 (updateSeq S (·.push .none) >>= fun _ => updateSeq S (·.pop)) _ _ _
  refine wpAny_bind (wpAny_updateSeq (s := { s with heap := H₂ }) hS₂ rfl ?_)
  have hS₃ := Heap.get?_update_self (Obj.mapSeq (·.push Value.none)) hS₂ rfl
  refine wpAny_updateSeq (hz := by seq_fits) hS₃ rfl ?_
  have hS₄ := Heap.get?_update_self (Obj.mapSeq (·.pop)) hS₃ rfl
  have oth : ∀ b o, b ≠ S → H₂.get? b = some o → ((H₂.update S (Obj.mapSeq (·.push Value.none))).update S (Obj.mapSeq (·.pop))).get? b = some o :=
    fun b o hb e => (Heap.get?_update_other _ _ (Ne.symm hb)).trans ((Heap.get?_update_other _ _ (Ne.symm hb)).trans e)
  refine wpAny_pure ⟨plainId_quiet F.plain_extend_loop _, ext_loop (A := A.in1) (prog := prog) (w := w) (R := wants (fun r s₂ => r = .none ∧ Q (.ref S) s₂) E) hh hv hx O hn n1 n2 n3 n4 n5 n6 .none xs 0 _ [] [] _ rfl rfl (Nat.zero_le _)
    (N₂.keepsBut oth n1 n2 n3 n4 n5 n6) hS₄ .nil ?_ ?_⟩
  · intro zs h' tk acc' c' hz ha hS' hk
    exact ⟨rfl, ok zs h' tk acc' c' hz ha hS' fun b o b1 b2 e => hk b o b1 b2 (oth b o b1 (k₂ b o b1 e))⟩
  · intro h₁ h' tk e hz hk hx'
    exact bad h₁ h' tk e hz (fun b o b1 b2 e => hk b o b1 b2 (oth b o b1 (k₂ b o b1 e))) hx'
end
end Mine
end
section
open PySem PySem.W PySem.Calls PyProof.Rows
set_option maxRecDepth 100000
namespace Mine
/-- the facts about the module's top -/
abbrev TopN (s₀ : Shared) (mg mb : PySem.Str → Option Value) (h : Heap) : Prop :=
  Top Mine.hd.view_39 (looseW Mine.hd.view_39 [PySem.Str.ofString "_norm_version"]) (ExcName.means s₀.heap) mg mb h

/-- a goal that the walk leaves alone -/
structure Cut (P : Prop) : Prop where
  out : P
section
variable {M : Model} {A : Around} {E : Value → Shared → Prop} {s : Shared} {env : Env}
/-- a cut between two statements, closed to the walk -/
theorem execs_cutC {st : Stmt} {rest : List Stmt} {Q : Flow → Shared → Prop} {J : Shared → Prop}
    (h1 : wpAny M A (exec st env) (fun f s' => Cut (f = .next ∧ J s')) E s) (h2 : ∀ s', J s' → wpAny M A (execs rest env) Q E s') : wpAny M A (execs (st :: rest) env) Q E s := by
  refine wpAny_execs_cons (wpAny_mono h1 (fun f s' h => ?_) fun _ _ x => x)
  obtain ⟨rfl, hJ⟩ := h.out
  exact h2 s' hJ
/-- a cut between two statements -/
theorem execs_cut {st : Stmt} {rest : List Stmt} {Q : Flow → Shared → Prop} {J : Shared → Prop}
    (h1 : wpAny M A (exec st env) (fun f s' => f = .next ∧ J s') E s) (h2 : ∀ s', J s' → wpAny M A (execs rest env) Q E s') : wpAny M A (execs (st :: rest) env) Q E s := by
  refine wpAny_execs_cons (wpAny_mono h1 (fun f s' h => ?_) fun _ _ x => x)
  obtain ⟨rfl, hJ⟩ := h
  exact h2 s' hJ
end
theorem News.sub {h₀ h : Heap} {L : Addr} {l l' : List (Addr × Obj)} (N : News h₀ L h l) (hs : ∀ p ∈ l', p ∈ l) : News h₀ L h l' := fun p hp => N p (hs p hp)
theorem News.stays {h₀ h h' : Heap} {L : Addr} {l : List (Addr × Obj)} (N : News h₀ L h l) (k : ∀ b o, h.get? b = some o → h'.get? b = some o) : News h₀ L h' l := fun p hp => ⟨k _ _ (N p hp).1, (N p hp).2⟩
theorem Fr.stays {h₀ h h' : Heap} {L : Addr} {m : PySem.Str → Option Value} (F : Fr h₀ L h m) (k : ∀ b o, h.get? b = some o → h'.get? b = some o) : Fr h₀ L h' m :=
  ⟨F.ns.at' fun o e => k L o e, fun b o e => k b o (F.keep b o e), F.above⟩
/-- kept but for addresses that neither the frame nor the ledger names -/
theorem Fr.staysBut {h₀ h h' : Heap} {L : Addr} {m : PySem.Str → Option Value} {bad : Addr → Prop} (F : Fr h₀ L h m) (k : ∀ b o, ¬ bad b → h.get? b = some o → h'.get? b = some o) (hL : ¬ bad L) (h0 : ∀ b o, h₀.get? b = some o → ¬ bad b) : Fr h₀ L h' m :=
  ⟨F.ns.at' fun o e => k L o hL e, fun b o e => k b o (h0 b o e) (F.keep b o e), F.above⟩
theorem Fr.know {h₀ h : Heap} {L : Addr} {m : PySem.Str → Option Value} (F : Fr h₀ L h m) {x : PySem.Str} {v : Value} (hv : m x = some v) : Fr h₀ L h (fun y => if y = x then some v else m y) := by
  have e : m = fun y => if y = x then some v else m y := funext fun y => by
    by_cases hy : y = x
    · rw [if_pos hy, hy, hv]
    · rw [if_neg hy]
  rw [← e]; exact F
end Mine
end
section
open PySem PySem.W PySem.Calls PyProof.Rows
set_option maxRecDepth 100000
set_option maxHeartbeats 8000000
namespace Mine
def vtexts (t b : PySem.Str) : List PySem.Str := Txt.split t (PySem.Str.ofString ".") ++ (if b.length = 0 then [] else [b])
def vstrs (t b : PySem.Str) : List PySem.Str := match strInts (vtexts t b) with | some zs => zs | none => vtexts t b
abbrev nvM0 (t b : PySem.Str) (u v : Tok) : PySem.Str → Option Value := fun y => List.lookup y [(PySem.Str.ofString "build", .str b v), (PySem.Str.ofString "version", .str t u)]
abbrev nvM1 (t b : PySem.Str) (u v : Tok) (D : Addr) : PySem.Str → Option Value := fun y => if y = PySem.Str.ofString "l" then some (.ref D) else nvM0 t b u v y
theorem pick3 (vs : List Value) : slicePick vs.toArray none (some 3) none = (vs.take 3).toArray := by
  have e : sliceBounds none (some 3) none vs.toArray.size = (((0 : Nat) : Int), ((min 3 vs.toArray.size : Nat) : Int), 1) := by
    simp only [sliceBounds, Option.getD_none, show (1 : Int) > 0 by decide, if_true, if_neg (show ¬ ((3 : Int) < 0) by omega)]
    congr 1
    congr 1
    omega
  rw [kmk_pick_nat _ e]
  show ((vs.drop 0).take (min 3 vs.toArray.size - 0)).toArray = _
  rw [List.drop_zero, Nat.sub_zero, List.size_toArray, kmk_take_min]
theorem norm_call {w : World} {s₀ : Shared} {mg mb : PySem.Str → Option Value} {A : Around} {cn : PySem.Str} {cs : Scope} {a : Addr} {ccd : Value} {h₀ : Heap} {L : Addr} {m : PySem.Str → Option Value} {news : List (Addr × Obj)} {s : Shared} {Q E : Value → Shared → Prop} {t b : PySem.Str} {u v : Tok} {args : List Value} (hargs : args = [.str t u, .str b v] ∨ (args = [.str t u] ∧ b = PySem.Str.ofString "" ∧ v = 189))
   (F : Fr h₀ L s.heap m) (KX : (Mine.hd.heap_39 w.params).In h₀) (N : News h₀ L s.heap news) (T : TopN s₀ mg mb h₀) (hA : A.frames = some [envOf cn cs L a ccd]) (hck : cs.kind = .function) (hh : A.handled = none)
   (hd : A.depth < recursionLimit) (ht : t.length ≤ 100) (hb : b.length ≤ 100) (htx' : ∀ vs, StrsAre vs (vtexts t b) → Texts vs.toArray ∧ vs.length ≤ sizeLine) (htw : ∀ ws, StrsAre ws (vstrs t b) → (((vstrs t b).take 3).map (·.length)).sum + ((vstrs t b).take 3).length * (PySem.Str.ofString ".").length ≤ 16777216 ∧ ws.length ≤ sizeLine)
   (hret : ∀ (tok : Tok) (h' : Heap) (tk' : Nat), Fr h₀ L h' m → News h₀ L h' news → Q (.str (Txt.join (PySem.Str.ofString ".") ((vstrs t b).take 3)) tok) { s with heap := h', toks := tk' }) :
   wpAny (model Challenge.rw_mg0077_01.row.prog w) A (call (.ref 22) args) Q E s := by
  revert KX; k_fill; intro KX
  refine wpAny_call ?_
  k_dflt (refine TLgL.code_def (binds := [(PySem.Str.ofString "version", .str t u), (PySem.Str.ofString "build", .str b v)]) F KX N T hA (by k_is) (by k_is) hd (by rcases hargs with rfl | ⟨rfl, rfl, rfl⟩ <;> exact binds_K (by k_in) rfl (by k_is) rfl rfl rfl) (locs rfl) ?_ hck)
  intro oL' h' tiC' tiF' tiE' F' N'
  have F₀ : Fr h₀ s.heap.objs.size h' (nvM0 t b u v) := F'
  clear F'
  have lt0 : ∀ p ∈ news ++ [(L, oL')], p.1 < s.heap.objs.size := by
    intro p hp
    rcases List.mem_append.mp hp with hp | hp
    · exact Heap.lt_size (N p hp).1
    · rw [List.mem_singleton.mp hp]; exact F.ns.lt
  generalize hLz : s.heap.objs.size = L' at *
  generalize hrest : news ++ [(L, oL')] = rest at *
  dsimp only
  refine execs_cut (J := fun s₁ => ∃ h₁ tk l D, s₁ = { s with heap := h₁, toks := tk } ∧ l.map (·.1) = Txt.split t (PySem.Str.ofString ".") ∧ (∀ a ∈ l.map (·.1), a.length ≤ t.length) ∧ Fr h₀ L' h₁ (nvM1 t b u v D) ∧
    News h₀ L' h₁ ((D, lst (strValues l).toArray 0) :: rest) ∧ ∀ p ∈ rest, p.1 ≠ D) ?_ ?_
  · have hlt0 : ∀ p ∈ rest, p.1 < h'.objs.size := fun p hp => Heap.lt_size (N' p hp).1
    iterate 10 (first | walk1 | (dsimp only; walk1))
    rename_i l' h₁' k' e1 e2 e3 e4 h₂' F₂' N₂'
    exact ⟨trivial, _, _, l', _, rfl, e1, e3, F₂', N₂', fun p hp => Nat.ne_of_lt (hlt0 p hp)⟩
  · rintro s₁ ⟨h₁, tk, l, D, rfl, hl, hlen, F₁, N₁, hD⟩
    refine execs_cut (J := fun s₂ => ∃ h₂ tk c vs, s₂ = { s with heap := h₂, toks := tk } ∧ StrsAre vs (vtexts t b) ∧ Fr h₀ L' h₂ (nvM1 t b u v D) ∧ News h₀ L' h₂ ((D, lst vs.toArray c) :: rest)) ?_ ?_
    · iterate 4 (first | walk1 | (dsimp only; walk1))
      by_cases hb0 : b.length = 0
      · rw [if_neg (by simp [hb0])]
        refine wpAny_execs_nil ⟨rfl, h₁, _, 0, strValues l, rfl, ?_, F₁, N₁⟩
        unfold vtexts
        rw [if_pos hb0, List.append_nil, ← hl]
        exact strsAre_of_values l
      · rw [if_pos (by simp [hb0])]
        iterate 10 (first | walk1 | (dsimp only; walk1))
        refine append_K F₁ N₁ (.head hD) (fun h₂ F₂ N₂ => ?_) (by have := htie; have := hfact; rw [sizeLine_eq]; simp [strValues]; omega)
        refine wpAny_execs_nil ⟨rfl, h₂, _, 0 + 1, strValues l ++ [.str b v], rfl, ?_, F₂, ?_⟩
        · unfold vtexts
          rw [if_neg hb0, ← hl]
          exact (strsAre_of_values l).append' (.cons _ _ .nil)
        · simpa using N₂
    · rintro s₂ ⟨h₂, tk₂, c, vs, rfl, hvs, F₂, N₂⟩
      refine execs_cut (J := fun s₃ => ∃ h₃ tk S c vs sl, s₃ = { s with heap := h₃, toks := tk } ∧ StrsAre vs (vstrs t b) ∧ Fr h₀ L' h₃ (fun y => if y = PySem.Str.ofString "strings" then some (.ref S) else nvM1 t b u v D y) ∧ News h₀ L' h₃ ((S, lst vs.toArray c) :: (news ++ [(L, { oL' with slots := sl })]))) ?_ ?_
      · refine wpAny_Try_except ?_
        obtain ⟨htx, hvn⟩ := htx' vs hvs
        iterate 20 (first | walk1 | (dsimp only; walk1))
        refine call_map_list (xs := vs.toArray) (News.isList N₂ (.head _)) (fun h₃ it3 t3 m3 z3 k3 => ?_)
        dsimp only at it3 t3 m3 z3 k3 ⊢
        iterate 1 (first | walk1 | (dsimp only; walk1))
        refine call_map_map (g := .type "int") m3 (fun h₄ t4 m4 z4 k4 => ?_)
        dsimp only at t4 m4 z4 k4 ⊢
        iterate 1 (first | walk1 | (dsimp only; walk1))
        have hDlt : D < h₂.objs.size := Heap.lt_size (N₂ _ (.head _)).1
        have hLlt : L' < h₂.objs.size := F₂.ns.lt
        have h0lt : ∀ b o, h₀.get? b = some o → b < h₂.objs.size := fun b o e => Heap.lt_size (F₂.keep b o e)
        have NE : Nest h₄ (h₃.objs.size + 1) h₃.objs.size (h₂.objs.size + 2) (h₂.objs.size + 1) h₂.objs.size D 0 vs.toArray :=
          ⟨m4, t4, k4 _ _ m3, k4 _ _ t3, it3.at fun o e => k4 _ o e, (News.isList N₂ (.head _)).at fun o e => k4 _ o (k3 _ o e)⟩
        have OF : Off (h₃.objs.size + 1) h₃.objs.size (h₂.objs.size + 2) (h₂.objs.size + 1) h₂.objs.size D := by
          constructor
          · exact Nat.ne_of_gt (by omega)
          · exact Nat.ne_of_gt (by omega)
          · exact Nat.ne_of_gt (by omega)
          · exact Nat.ne_of_gt (by omega)
          · exact Nat.ne_of_lt hDlt
        have hz24 : h₂.objs.size < h₄.objs.size := by rw [z4, z3]; omega
        have kk : ∀ h' : Heap, KeepsBut h₄.objs.size h₂.objs.size h₄ h' → ∀ b o, h₂.get? b = some o → h'.get? b = some o := fun h' k b o e => by
          have hlt := Heap.lt_size e
          exact k b o (Nat.ne_of_lt (Nat.lt_trans hlt hz24)) (Nat.ne_of_lt hlt) (k4 b o (k3 b o e))
        refine call_list_nest hh hvs htx OF hvn NE ?_ ?_
        · intro zs h₅ tk₅ acc c₅ hz ha hS hk
          dsimp only at hS hk ⊢
          have F₅ : Fr h₀ L' h₅ (nvM1 t b u v D) := Fr.stays F₂ (kk h₅ hk)
          have N₅ : News h₀ L' h₅ ((h₄.objs.size, lst acc.toArray c₅) :: rest) := by
            intro p hp
            rcases List.mem_cons.mp hp with rfl | hp
            · refine ⟨hS, Nat.ne_of_gt (Nat.lt_trans hLlt hz24), ?_⟩
              cases e : h₀.get? h₄.objs.size with
              | none => rfl
              | some o => exact absurd (h0lt _ _ e) (Nat.lt_asymm hz24)
            · exact (News.stays N₂ (kk h₅ hk)) p (.tail _ hp)
          refine stN (s := { s with heap := h₅, toks := tk₅ }) F₅ N₅ (fun h₆ F₆ N₆ => ?_)
          refine wpAny_execs_nil (wpAny_execs_nil ⟨rfl, h₆, _, _, c₅, acc, oL'.slots, rfl, ?_, F₆, ?_⟩)
          · unfold vstrs; rw [hz]; exact ha
          · rw [hrest]; exact N₆
        · intro h₅ h₆ tk₆ e hz hk hx
          have hx' : Heap.NewExc h₂ h₆ e "ValueError" := by
            refine ⟨fun b o q => hx.keeps b o (kk h₅ hk b o q), ?_, hx.there⟩
            cases q : h₂.get? e with
            | none => rfl
            | some o => have := kk h₅ hk e o q; rw [hx.new] at this; cases this
          subst hrest
          refine TLg.noted_new1 (new := (D, lst vs.toArray c) :: news) hA tiF' hx' F₂ N₂ (TLgL.allNe_of ?_) (fun h₇ sl Fs₇ H₇ => ?_)
          · intro p hp
            rcases List.mem_cons.mp hp with rfl | hp
            · exact fun q => hD _ (List.mem_append_right _ (.head _)) q.symm
            · exact tiE' p hp
          refine TT.HeldNA.land H₇ (fun h₈ H₈ => ?_)
          refine TT.clause_hitTN H₈ T (k := ?_) (hv := by boot_by_name)
          intro h₉ F₉ N₉
          clear F₂ N₂ F₁ N₁ F₀
          iterate 5 (first | walk1 | (dsimp only; walk1))
          rename_i h10 F10 N10
          refine wpAny_execs_nil ⟨rfl, h10, _, _, c, vs, sl, rfl, ?_, F10, N10⟩
          unfold vstrs; rw [hz]; exact hvs
      · rintro s₃ ⟨h₃, tk₃, S, c₃, ws, sl, rfl, hws, F₃, N₃⟩
        clear F₂ N₂ F₁ N₁ F₀
        iterate 14 (first | walk1 | (dsimp only; walk1))
        obtain ⟨hsum, hwl⟩ := htw ws hws
        refine slice_list (s := { s with heap := h₃, toks := tk₃ + 2 }) F₃ N₃ (News.isList N₃ (.head _)) .none (.int 3 _) (fun h₄ F₄ N₄ => ?_) (hsz := by simpa using hwl)
        rw [pick3] at N₄
        iterate 1 (first | walk1 | (dsimp only; walk1))
        refine join_list (News.isList N₄ (.head _)) (hws.take' 3) hsum ?_
        intro t' k
        refine stN (s := { s with heap := h₄, toks := k }) F₄ N₄ (fun h₅ F₅ N₅ => ?_)
        refine wpAny_execs_cons (wpAny_Return_some (ld F₅ rfl ?_))
        refine TLg.leave_back (new := news) (sl := sl) tiC' F₅ (News.sub N₅ fun p hp => .tail _ (.tail _ hp)) (TLgL.allNe_of tiE') (fun F₆ N₆ => ?_)
        exact hret _ _ _ F₆ N₆
end Mine
end
section
open PySem PySem.W PySem.Calls PyProof.Rows
set_option maxRecDepth 100000
namespace Mine
/-- a def of the text is entered over the heap as it is -/
theorem enter_def {prog : Program} {w : World} {A : Around} {s : Shared} {K : Frag} {p : Program} {loose : List PySem.Str} {mean : ExcName → Option Value} {mg mb : PySem.Str → Option Value} {R : Result → Shared → Prop} {name qual : PySem.Str} {params : Arguments} {body : List Stmt} {scope : Scope} {dV kV doc pm cdv ct oc : Value} {an od : Option Addr} {osl : Array (Option Value)} {f : Addr} {args : Args} {binds : List (PySem.Str × Value)}
    (X : K.In s.heap) (T : Top p loose mean mg mb s.heap) (hroom : A.depth < recursionLimit)
    (ho : K.lookup f = some ⟨oc, od, .func (fnOf name qual params body scope dV kV doc pm an cdv ct), osl⟩) (hcd : codeIn K cdv qual = true)
    (hbind : BindsTo s (fnOf name qual params body scope dV kV doc pm an cdv ct) args binds) (hloc : ∀ y ∈ binds, scope.names.lookup y.1 = some .local)
    (h : ∀ h₁, Fr s.heap s.heap.objs.size h₁ (fun y => binds.reverse.lookup y) →
      wpAny (model prog w) (A.deeper (envOf qual scope s.heap.objs.size f cdv)) (execs body (envOf qual scope s.heap.objs.size f cdv))
        (fun fl s' => R (.ok (.ret (match fl with | .ret v => v | _ => .none))) s')
        (fun e s' => wpAny (model prog w) (A.deeper (envOf qual scope s.heap.objs.size f cdv)) (leaving (envOf qual scope s.heap.objs.size f cdv) e) (fun _ s'' => R (.error e) s'') (fun e' s'' => R (.error e') s'') s')
        { s with heap := h₁, toks := s.toks + binds.length })
    (hco : scope.isCoroutine = false := by rfl) (hgen : scope.isGenerator = false := by rfl) (hk : scope.kind = .function := by rfl)
    (hcell : ∀ x ∈ scope.names, x.2 ≠ .cell := by decide) : codeAny (model prog w) A (.call (.ref f) args) R s := by
  refine codeAny_call_def (fd := fnOf name qual params body scope dV kV doc pm an cdv ct) (body := body) (binds := binds) hroom (X _ _ ho) rfl T.nolimit (codeRec_of X hcd) rfl hbind hcell hloc (fun h₁ hns hk₁ => ?_) hco hgen hk
  exact h h₁ ⟨hns, hk₁, Nat.le_refl _⟩
end Mine
end
section
open PySem PySem.W PySem.Calls PyProof.Rows
set_option maxRecDepth 100000
namespace Mine
theorem Fr.congr {h₀ h : Heap} {L : Addr} {m m' : PySem.Str → Option Value} (F : Fr h₀ L h m) (e : ∀ y, m y = m' y) : Fr h₀ L h m' := by
  have : m = m' := funext e
  rw [← this]; exact F
theorem upd_append {d : Addr} {o o' : Obj} {r r' : List (Addr × Obj)} (U : Upd d o o' r r') : ∀ {own : List (Addr × Obj)}, (∀ p ∈ own, p.1 ≠ d) → Upd d o o' (own ++ r) (own ++ r')
  | [], _ => U
  | p :: own, h => .tail (h p List.mem_cons_self) (upd_append U fun q hq => h q (List.mem_cons_of_mem _ hq))
section
variable {prog : Program} {w : World} {A : Around} {E : Value → Shared → Prop} {s : Shared} {env : Env} {h₀ : Heap} {x : PySem.Str} {body : List Stmt} {Q : Flow → Shared → Prop} {m : PySem.Str → Option Value} {news : List (Addr × Obj)}

/-- a loop over a text's signs, by what holds before the turn of each number -/
theorem iter_strJ {r : PySem.Str} {t : Tok} (J : Nat → (PySem.Str → Option Value) → List (Addr × Obj) → Prop) (hh : A.handled = none) (F : Fr h₀ env.locals s.heap m) (N : News h₀ env.locals s.heap news) (h0 : J 0 m news)
    (turn : ∀ i c tc m₁ news₁ own h tk, r.cps[i]? = some c → J i m₁ news₁ → (∀ p ∈ news₁, p.1 ≠ s.heap.objs.size) → (∀ p ∈ own, p.1 = s.heap.objs.size) →
      Fr h₀ env.locals h (fun y => if y = x then some (.str ⟨#[c]⟩ tc) else m₁ y) → News h₀ env.locals h (own ++ news₁) →
      wpAny (model prog w) A (execs body env) (LoopStepV h₀ env.locals [s.heap.objs.size] own (J (i + 1)) { s with heap := h, toks := tk } (fun v s' => Q (.ret v) s') fun s' => Q .next s') E { s with heap := h, toks := tk })
    (done : ∀ h tk m₁ news₁, Fr h₀ env.locals h m₁ → News h₀ env.locals h news₁ → J r.cps.size m₁ news₁ → Q .next { s with heap := h, toks := tk }) :
    wpAny (model prog w) A (pyIter (.str r t)) (fun it s₂ => LoopAtV prog w A h₀ env x body Q E it s₂) E s := by
  refine wpAny_pyIter_str fun o St hW hst => ?_
  refine ⟨_, _, _, _, _, St, m, news, J, rfl, hW A hh, ?_, ?_, ?_, hst, F.push _, (fun p hp => ⟨Heap.get?_push_of_some _ (N p hp).1, (N p hp).2⟩), h0, ?_, ?_⟩
  · intro hm
    exact absurd F.ns.lt ((List.mem_singleton.mp hm) ▸ Nat.lt_irrefl _)
  · intro b' hb
    rw [List.mem_singleton.mp hb]
    exact next_is_new F
  · intro p hp hI
    exact absurd (Heap.lt_size (N p hp).1) ((List.mem_singleton.mp hI) ▸ Nat.lt_irrefl _)
  · rintro i v m₁ news₁ s₁ own ⟨h, tk, rfl⟩ hi ⟨c, u, hc, rfl⟩ hJ hoff hown _ _ _ F₁ N₁
    exact turn i c u m₁ news₁ own h tk hc hJ (fun p hp e => hoff p hp (List.mem_singleton.mpr e)) (fun p hp => List.mem_singleton.mp (hown p hp)) F₁ N₁
  · intro h' tk m' news' F' N' _ hJ
    exact done h' tk m' news' F' N' hJ

/-- a loop over a list -/
theorem iter_listJ {l : Addr} {vs : List Value} (J : Nat → (PySem.Str → Option Value) → List (Addr × Obj) → Prop) (hh : A.handled = none) (hl : s.heap.IsList l vs.toArray) (hlL : l ≠ env.locals) (F : Fr h₀ env.locals s.heap m) (N : News h₀ env.locals s.heap news) (h0 : J 0 m news)
    (turn : ∀ i v m₁ news₁ own h tk, vs[i]? = some v → J i m₁ news₁ → (∀ p ∈ news₁, p.1 ≠ s.heap.objs.size) → (∀ p ∈ own, p.1 = s.heap.objs.size ∨ p.1 = l) →
      Fr h₀ env.locals h (fun y => if y = x then some v else m₁ y) → News h₀ env.locals h (own ++ news₁) →
      wpAny (model prog w) A (execs body env) (LoopStepV h₀ env.locals [s.heap.objs.size] own (J (i + 1)) { s with heap := h, toks := tk } (fun v s' => Q (.ret v) s') fun s' => Q .next s') E { s with heap := h, toks := tk })
    (done : ∀ h tk m₁ news₁, Fr h₀ env.locals h m₁ → News h₀ env.locals h news₁ → J vs.length m₁ news₁ → Q .next { s with heap := h, toks := tk }) :
    wpAny (model prog w) A (pyIter (.ref l)) (fun it s₂ => LoopAtV prog w A h₀ env x body Q E it s₂) E s := by
  obtain ⟨ol, hol, _⟩ := id hl
  have hne : l ≠ s.heap.objs.size := Nat.ne_of_lt (Heap.lt_size hol)
  refine wpAny_pyIter_list hl ?_
  have W := Walks.list (prog := prog) (w := w) hh s.heap.objs.size l hne vs.toArray
  refine ⟨_, _, _, _, _, _, m, news, J, rfl, W, ?_, ?_, ?_, ⟨⟨_, Heap.get?_push_size _ rfl, rfl, rfl⟩, hl.at fun o e => Heap.get?_push_of_some _ e⟩, F.push _, (fun p hp => ⟨Heap.get?_push_of_some _ (N p hp).1, (N p hp).2⟩), h0, ?_, ?_⟩
  · intro hm
    rcases List.mem_cons.mp hm with e | hm
    · exact absurd F.ns.lt (e ▸ Nat.lt_irrefl _)
    · exact hlL (List.mem_singleton.mp hm).symm
  · intro b' hb
    rw [List.mem_singleton.mp hb]
    exact next_is_new F
  · intro p hp hI
    exact absurd (Heap.lt_size (N p hp).1) ((List.mem_singleton.mp hI) ▸ Nat.lt_irrefl _)
  · rintro i v m₁ news₁ s₁ own ⟨h, tk, rfl⟩ hi hP hJ hoff hown _ _ _ F₁ N₁
    refine turn i v m₁ news₁ own h tk (by simpa using hP) hJ (fun p hp e => hoff p hp (List.mem_singleton.mpr e)) (fun p hp => ?_) F₁ N₁
    rcases List.mem_cons.mp (hown p hp) with e | e
    · exact .inl e
    · exact .inr (List.mem_singleton.mp e)
  · intro h' tk m' news' F' N' _ hJ
    exact done h' tk m' news' F' N' (by simpa using hJ)
end
section
variable {prog : Program} {w : World} {A : Around} {E : Value → Shared → Prop} {Q : Flow → Shared → Prop} {s : Shared} {env : Env} {h₀ : Heap} {L : Addr}
/-- a while by an invariant and a measure; what holds behind it is named -/
theorem while_done {test : Expr} {body : List Stmt} {pos : Pos} {m : PySem.Str → Option Value} {news : List (Addr × Obj)} (J : Nat → (PySem.Str → Option Value) → List (Addr × Obj) → Prop) (Dn : Shared → Prop) {n₀ : Nat}
    (F : Fr h₀ L s.heap m) (N : News h₀ L s.heap news) (hJ : J n₀ m news)
    (turn : ∀ n m₁ news₁ h₁ tk₁, Fr h₀ L h₁ m₁ → News h₀ L h₁ news₁ → J n m₁ news₁ →
      wpAny (model prog w) A (isTrue test env (eval test env)) (fun b s₂ =>
        if b = true then wpAny (model prog w) A (execs body env) (WhileStep2 h₀ L s J Q n) E s₂ else Cut (Dn s₂)) E { s with heap := h₁, toks := tk₁ })
    (done : ∀ s₂, Dn s₂ → Q .next s₂)
    (hE : PassesOwn (model prog w) A env E := by passes_own) :
    wpAny (model prog w) A (exec (.While test body [] pos) env) Q E s := by
  refine While_inv2 J F N hJ (fun n m₁ news₁ h₁ tk₁ F₁ N₁ J₁ => wpAny_mono (turn n m₁ news₁ h₁ tk₁ F₁ N₁ J₁) (fun b s₂ h => ?_) fun _ _ x => x) hE
  cases b with
  | false => simp only [Bool.false_eq_true, if_false] at h ⊢; exact done s₂ h.out
  | true => simpa using h
end
end Mine
end
section
open PySem PySem.W PySem.Calls PySem.NumText PyProof.Rows
set_option maxRecDepth 100000
namespace Mine
/-! the law's own reading of a number, over the signs' numbers -/
def sgnMinus : List Nat → List Nat
  | 45 :: _ => [45]
  | _ => []
def sgnRest : List Nat → List Nat
  | 45 :: q => q
  | 43 :: q => q
  | r => r
def scanStep (st : Option (List Nat × Nat)) (c : Nat) : Option (List Nat × Nat) :=
  match st with
  | none => none
  | some (fs, l) => if c = 95 then (if l = 95 then none else some (fs, 95)) else if 48 ≤ c ∧ c ≤ 57 then some (fs ++ [c], c) else none
def strip0 : List Nat → List Nat
  | 48 :: c :: r => strip0 (c :: r)
  | l => l
def numberL (r : List Nat) : Option (List Nat) :=
  match (sgnRest r).foldl scanStep (some ([], 95)) with
  | none => none
  | some (fs, l) => if l = 95 then none else if strip0 fs = [48] then some [48] else some (sgnMinus r ++ strip0 fs)
def strip2 (t : PySem.Str) : List Nat := (Txt.stripChars t (PySem.Str.ofString " \t")).cps.toList
def numberFn (t : PySem.Str) : Option PySem.Str := (numberL (strip2 t)).map fun l => ⟨l.toArray⟩
end Mine
end
section
open PySem PySem.W PySem.Calls PySem.NumText PyProof.Rows
set_option maxRecDepth 100000
namespace Mine
theorem str_ext {x y : PySem.Str} (h : x.cps.toList = y.cps.toList) : x = y := PySem.Str.ext' (Array.toList_inj.mp h)
/-- one sign more: a dot opens a new part -/
def dstep (ps : List PySem.Str) (c : Nat) : List PySem.Str := if c = 46 then ps ++ [PySem.Str.ofString ""] else ps.dropLast ++ [ps.getLastD (PySem.Str.ofString "") ++ ⟨#[c]⟩]
def dparts (l : List Nat) : List PySem.Str := l.foldl dstep [PySem.Str.ofString ""]
abbrev dot : PySem.Str := PySem.Str.ofString "."
theorem dparts_snoc (l : List Nat) (c : Nat) : dparts (l ++ [c]) = dstep (dparts l) c := by
  unfold dparts; rw [List.foldl_append]; rfl
theorem dstep_dot (ps : List PySem.Str) : dstep ps 46 = ps ++ [PySem.Str.ofString ""] := by unfold dstep; rw [if_pos rfl]
theorem dstep_other (pi : List PySem.Str) (pl : PySem.Str) {c : Nat} (h : ¬ c = 46) : dstep (pi ++ [pl]) c = pi ++ [pl ++ ⟨#[c]⟩] := by
  unfold dstep; rw [if_neg h, List.dropLast_concat]; simp
theorem fold_free : ∀ (q : List Nat) (acc : List PySem.Str) (p : PySem.Str), 46 ∉ q → q.foldl dstep (acc ++ [p]) = acc ++ [p ++ ⟨q.toArray⟩]
  | [], acc, p, _ => by
    show acc ++ [p] = acc ++ [p ++ ⟨#[]⟩]
    rw [show p ++ (⟨#[]⟩ : PySem.Str) = p from PySem.Str.append_empty p]
  | c :: q, acc, p, h => by
    have hc : ¬ c = 46 := fun e => h (by rw [e]; exact List.mem_cons_self)
    rw [List.foldl_cons, dstep_other _ _ hc, fold_free q acc _ fun hm => h (List.mem_cons_of_mem _ hm), PySem.Str.append_assoc]
    congr 3
    exact str_ext (by simp [PySem.Str.cps_append])
theorem dot_list : dot.cps.toList = [46] := by decide
theorem fold_join : ∀ (r : List PySem.Str) (a : PySem.Str) (acc : List PySem.Str) (p : PySem.Str), (∀ x ∈ a :: r, 46 ∉ x.cps.toList) →
    (PySem.Str.join dot (a :: r)).cps.toList.foldl dstep (acc ++ [p]) = acc ++ (p ++ a) :: r
  | [], a, acc, p, h => by
    show a.cps.toList.foldl dstep (acc ++ [p]) = _
    rw [fold_free _ _ _ (h a List.mem_cons_self)]
  | b :: r, a, acc, p, h => by
    show (a ++ dot ++ PySem.Str.join dot (b :: r)).cps.toList.foldl dstep (acc ++ [p]) = _
    rw [PySem.Str.cps_append, PySem.Str.cps_append, Array.toList_append, Array.toList_append, List.foldl_append, List.foldl_append, fold_free _ _ _ (h a List.mem_cons_self), dot_list]
    show (PySem.Str.join dot (b :: r)).cps.toList.foldl dstep (dstep (acc ++ [p ++ ⟨a.cps.toList.toArray⟩]) 46) = _
    rw [dstep_dot, fold_join r b _ _ fun x hx => h x (List.mem_cons_of_mem _ hx)]
    rw [show PySem.Str.ofString "" ++ b = b from PySem.Str.empty_append b]
    simp
/-- the law's cut at the dots is the method's -/
theorem split_eq (t : PySem.Str) : dparts t.cps.toList = Txt.split t dot := by
  have hj := StrLaws.join_split t dot
  have hf := StrLaws.split_free t 46
  have hp := split_pos t dot
  have hd : dot = ⟨#[46]⟩ := by decide
  cases hs : Txt.split t dot with
  | nil => rw [hs] at hp; exact absurd hp (by decide)
  | cons a r =>
    rw [hs] at hj
    rw [← hd, hs] at hf
    have := fold_join r a [] (PySem.Str.ofString "") hf
    rw [hj] at this
    show t.cps.toList.foldl dstep ([] ++ [PySem.Str.ofString ""]) = _
    rw [this, show PySem.Str.ofString "" ++ a = a from PySem.Str.empty_append a]
    rfl
theorem dparts_length (t : PySem.Str) : (dparts t.cps.toList).length ≤ t.length + 2 := by rw [split_eq]; exact split_le t dot
theorem mem_join : ∀ (l : List PySem.Str) (a : PySem.Str), a ∈ l → ∀ c ∈ a.cps.toList, c ∈ (PySem.Str.join dot l).cps.toList
  | [], _, h, _, _ => nomatch h
  | [x], a, h, c, hc => by rw [List.mem_singleton.mp h] at hc; exact hc
  | x :: y :: r, a, h, c, hc => by
    show c ∈ (x ++ dot ++ PySem.Str.join dot (y :: r)).cps.toList
    rw [PySem.Str.cps_append, PySem.Str.cps_append, Array.toList_append, Array.toList_append]
    rcases List.mem_cons.mp h with rfl | h
    · exact List.mem_append_left _ (List.mem_append_left _ hc)
    · exact List.mem_append_right _ (mem_join (y :: r) a h c hc)
theorem dparts_signs {t a : PySem.Str} (h : a ∈ dparts t.cps.toList) : ∀ c ∈ a.cps.toList, c ∈ t.cps.toList := by
  rw [split_eq] at h
  intro c hc
  have := mem_join _ a h c hc
  rwa [StrLaws.join_split] at this
theorem dparts_short {t a : PySem.Str} (h : a ∈ dparts t.cps.toList) : a.length ≤ t.length := by
  rw [split_eq] at h
  exact part_short h
theorem dparts_ne (t : PySem.Str) : 1 ≤ (dparts t.cps.toList).length := by rw [split_eq]; exact split_pos t dot
end Mine
end
section
open PySem PySem.W PySem.Calls PyProof.Rows
set_option maxRecDepth 100000
set_option maxHeartbeats 8000000
namespace Mine
theorem str_nil {x : PySem.Str} (h : x.cps.toList = []) : x = PySem.Str.ofString "" := str_ext (by rw [h]; rfl)
theorem str_pos {x : PySem.Str} {c : Nat} {q : List Nat} (h : x.cps.toList = c :: q) : 1 ≤ x.length := by
  have e : x.cps.toList.length = x.length := Array.length_toList
  rw [h] at e; rw [← e]; simp
theorem str_ne {x : PySem.Str} {c : Nat} {q : List Nat} (h : x.cps.toList = c :: q) : (x != PySem.Str.ofString "") = true := by
  rw [bne_iff_ne]
  intro e
  have := str_pos h
  rw [e] at this
  exact absurd this (by decide)
theorem plus_minus {c : Nat} (h : ¬ (c = 45 ∨ c = 43)) : ¬ decide (c ∈ (PySem.Str.ofString "+-").cps.toList) = true := by
  have e : (PySem.Str.ofString "+-").cps.toList = [43, 45] := by decide
  rw [e, decide_eq_true_eq]
  simp only [List.mem_cons, List.not_mem_nil, or_false]
  omega
theorem sgnRest_other {c : Nat} {q : List Nat} (h : ¬ (c = 45 ∨ c = 43)) : sgnRest (c :: q) = c :: q := by
  unfold sgnRest
  split <;> simp_all
theorem sgnMinus_other {c : Nat} {q : List Nat} (h : ¬ (c = 45 ∨ c = 43)) : sgnMinus (c :: q) = [] := by
  unfold sgnMinus
  split <;> simp_all
theorem slice1 {x : PySem.Str} {c : Nat} {q : List Nat} (h : x.cps.toList = c :: q) : (Txt.slice x (some 1) none).cps.toList = q := by
  have hp := str_pos h
  rw [slice_from_eq (b := (x.length : Int)) (by decide) (by omega) rfl]
  have e : x.cps.toList.length = x.length := Array.length_toList
  show ((x.cps.toList.drop (1 : Int).toNat).take ((x.length : Int) - 1).toNat) = q
  rw [h] at e ⊢
  rw [show (1 : Int).toNat = 1 from rfl, List.drop_one, List.tail_cons, List.take_of_length_le]
  simp only [List.length_cons] at e
  omega
theorem sgnRest_length (r : List Nat) : (sgnRest r).length ≤ r.length := by
  unfold sgnRest
  split <;> simp
theorem str_one {x : PySem.Str} {c : Nat} (h : x.cps.toList = [c]) : x = ⟨#[c]⟩ := str_ext h
theorem one_ne {c : Nat} (h : ¬ c = 95) : ¬ ((⟨#[c]⟩ : PySem.Str) == PySem.Str.ofString "_") = true := by
  rw [beq_iff_eq]
  intro e
  have := congrArg (fun x : PySem.Str => x.cps.toList) e
  have e2 : (PySem.Str.ofString "_").cps.toList = [95] := by decide
  rw [e2] at this
  exact h (List.cons.inj this).1
def numVal (o : Option PySem.Str) (tok : Tok) : Value := match o with
  | none => .none
  | some x => .str x tok
theorem foldl_none (l : List Nat) : l.foldl scanStep none = none := by
  induction l with
  | nil => rfl
  | cons c l ih => exact ih
theorem scan_us {fs : List Nat} {l : Nat} (h : ¬ l = 95) : scanStep (some (fs, l)) 95 = some (fs, 95) := by simp [scanStep, h]
theorem scan_dig {fs : List Nat} {l c : Nat} (h : ¬ c = 95) (hd : 48 ≤ c ∧ c ≤ 57) : scanStep (some (fs, l)) c = some (fs ++ [c], c) := by simp [scanStep, h, hd]
theorem scan_bad {fs : List Nat} {l c : Nat} (h : ¬ c = 95) (hd : ¬ (48 ≤ c ∧ c ≤ 57)) : scanStep (some (fs, l)) c = none := by
  show (if c = 95 then _ else if 48 ≤ c ∧ c ≤ 57 then _ else none) = none
  rw [if_neg h, if_neg hd]
theorem one_ne0 {c : Nat} (h : ¬ c = 48) : ¬ ((⟨#[c]⟩ : PySem.Str) == PySem.Str.ofString "0") = true := by
  rw [beq_iff_eq]
  intro e
  have := congrArg (fun x : PySem.Str => x.cps.toList) e
  have e2 : (PySem.Str.ofString "0").cps.toList = [48] := by decide
  rw [e2] at this
  exact h (List.cons.inj this).1
theorem strip0_other {c : Nat} {r : List Nat} (h : ¬ c = 48) : strip0 (c :: r) = c :: r := by
  unfold strip0
  split <;> simp_all
theorem strip0_one (x : Nat) : strip0 [x] = [x] := by
  unfold strip0
  split <;> simp_all
theorem sgnMinus_length (r : List Nat) : (sgnMinus r).length ≤ 1 := by
  unfold sgnMinus
  split <;> simp
theorem scan_none {r : List Nat} {i : Nat} (h : (r.take i).foldl scanStep (some ([], 95)) = none) : r.foldl scanStep (some ([], 95)) = none := by
  rw [← List.take_append_drop i r, List.foldl_append, h]; exact foldl_none _
theorem number_none {t : PySem.Str} (h : (sgnRest (strip2 t)).foldl scanStep (some ([], 95)) = none) : numberFn t = none := by
  unfold numberFn numberL
  rw [h]; rfl
theorem digits_list : (PySem.Str.ofString "0123456789").cps.toList = [48, 49, 50, 51, 52, 53, 54, 55, 56, 57] := by decide
theorem digit_in {c : Nat} (h : 48 ≤ c ∧ c ≤ 57) : decide (c ∈ (PySem.Str.ofString "0123456789").cps.toList) = true := by
  rw [digits_list, decide_eq_true_eq]
  simp only [List.mem_cons, List.not_mem_nil, or_false]
  omega
theorem digit_out {c : Nat} (h : ¬ (48 ≤ c ∧ c ≤ 57)) : ¬ decide (c ∈ (PySem.Str.ofString "0123456789").cps.toList) = true := by
  rw [digits_list, decide_eq_true_eq]
  simp only [List.mem_cons, List.not_mem_nil, or_false]
  omega
abbrev nuM0 (t : PySem.Str) (u : Tok) : PySem.Str → Option Value := fun y => List.lookup y [(PySem.Str.ofString "part", Value.str t u)]
theorem number_call {w : World} {s₀ : Shared} {mg mb : PySem.Str → Option Value} {A : Around} {s : Shared} {Q E : Value → Shared → Prop} {t : PySem.Str} {u : Tok}
   (KX : (Mine.hd.heap_39 w.params).In s.heap) (T : TopN s₀ mg mb s.heap) (hh : A.handled = none) (hd : A.depth < recursionLimit) (ht : t.length ≤ 100)
   (hret : ∀ (tok : Tok) (h' : Heap) (tk' : Nat), (∀ b o, s.heap.get? b = some o → h'.get? b = some o) → Q (numVal (numberFn t) tok) { s with heap := h', toks := tk' }) :
   wpAny (model Challenge.rw_mg0077_01.row.prog w) A (call (.ref 36) [.str t u]) Q E s := by
  have hretN : numberFn t = none → ∀ (h' : Heap) (tk' : Nat), (∀ b o, s.heap.get? b = some o → h'.get? b = some o) → Q .none { s with heap := h', toks := tk' } := fun e h' tk' k => by
    have := hret 0 h' tk' k
    rw [e] at this; exact this
  have hretS : ∀ {x : PySem.Str}, numberFn t = some x → ∀ (tok : Tok) (h' : Heap) (tk' : Nat), (∀ b o, s.heap.get? b = some o → h'.get? b = some o) → Q (.str x tok) { s with heap := h', toks := tk' } := fun e tok h' tk' k => by
    have := hret tok h' tk' k
    rw [e] at this; exact this
  revert KX; k_fill; intro KX
  refine wpAny_call ?_
  k_dflt (refine enter_def (binds := [(PySem.Str.ofString "part", .str t u)]) KX T hd (by k_is) (by k_is) (BindsTo.of_eq rfl) (locs rfl) ?_)
  intro h' F'
  have F₀ : Fr s.heap s.heap.objs.size h' (nuM0 t u) := F'
  clear F'
  have N' : News s.heap s.heap.objs.size h' [] := News.nil
  generalize hLz : s.heap.objs.size = L' at *
  dsimp only
  iterate 16 (first | walk1 | (dsimp only; walk1))
  (rename Fr _ _ _ _ => F₂); (rename News _ _ _ _ => N₂); (rename PySem.Str.length _ ≤ _ => hlr)
  have hR0 : (Txt.stripChars t (PySem.Str.ofString " \t")).cps.toList = strip2 t := rfl
  generalize Txt.stripChars t (PySem.Str.ofString " \t") = R0 at *
  refine execs_cutC (J := fun s₁ => ∃ h₁ tk m R tR Mn tM, s₁ = { s with heap := h₁, toks := tk } ∧ R.cps.toList = sgnRest (strip2 t) ∧ Mn.cps.toList = sgnMinus (strip2 t) ∧ Fr s.heap L' h₁ m ∧ m (PySem.Str.ofString "rest") = some (.str R tR) ∧ m (PySem.Str.ofString "minus") = some (.str Mn tM)) ?_ ?_
  · iterate 7 (first | walk1 | (dsimp only; walk1))
    cases hr : strip2 t with
    | nil =>
      rw [hr] at hR0
      rw [if_neg (by rw [str_nil hR0]; decide), if_neg (by decide)]
      exact wpAny_execs_nil ⟨rfl, _, _, _, R0, _, _, _, rfl, by rw [hR0]; rfl, rfl, F₂, rfl, rfl⟩
    | cons c q =>
      rw [hr] at hR0
      have hp : 1 ≤ R0.length := str_pos hR0
      rw [if_pos (str_ne hR0)]
      iterate 9 (first | walk1 | (dsimp only; walk1))
      have hit : Txt.item R0 0 = ⟨#[c]⟩ := item_meets (by decide) (by rw [← Array.getElem?_toList, hR0]; rfl)
      rw [hit, StrLaws.found_one]
      by_cases hc : c = 45 ∨ c = 43
      · rw [if_pos (by rcases hc with rfl | rfl <;> decide)]
        iterate 13 (first | walk1 | (dsimp only; walk1))
        rw [hit]
        rcases hc with rfl | rfl
        · rw [if_pos (by decide)]
          iterate 17 (first | walk1 | (dsimp only; walk1))
          (rename Fr _ _ _ _ => F₃)
          refine wpAny_execs_nil ⟨rfl, _, _, _, _, _, _, _, rfl, ?_, ?_, F₃, rfl, rfl⟩
          · rw [slice1 hR0]; rfl
          · rfl
        · rw [if_neg (by decide)]
          refine wpAny_execs_nil ?_
          iterate 11 (first | walk1 | (dsimp only; walk1))
          (rename Fr _ _ _ _ => F₃)
          refine wpAny_execs_nil ⟨rfl, _, _, _, _, _, _, _, rfl, ?_, ?_, F₃, rfl, rfl⟩
          · rw [slice1 hR0]; rfl
          · rfl
      · rw [if_neg (plus_minus hc), if_neg (by decide)]
        refine wpAny_execs_nil ⟨rfl, _, _, _, R0, _, _, _, rfl, ?_, ?_, F₂, rfl, rfl⟩
        · rw [hR0]; exact (sgnRest_other hc).symm
        · rw [sgnMinus_other hc]; rfl
  · rintro s₁ ⟨h₁, tk, m, R, tR, Mn, tM, rfl, hR, hM, F₁, hm1, hm2⟩
    have N₁ : News s.heap L' h₁ [] := News.nil
    have F₁' := Fr.know (Fr.know F₁ hm2) (x := PySem.Str.ofString "rest") (v := .str R tR) (by rw [if_neg (by decide)]; exact hm1)
    clear F₁ F₂ N₂
    iterate 8 (first | walk1 | (dsimp only; walk1))
    (rename Fr _ _ _ _ => F₃); (rename News _ _ _ _ => N₃)
    have hRl : R.cps.size ≤ 100 := by
      have e1 : R.cps.toList.length = R.cps.size := Array.length_toList
      have e2 : R0.cps.toList.length = R0.length := Array.length_toList
      rw [hR] at e1; rw [hR0] at e2
      have := sgnRest_length (strip2 t)
      omega
    refine wpAny_execs_cons (For_invVF F₃ rfl rfl (ld F₃ rfl ?_))
    refine iter_strJ (J := fun i m₁ news₁ => news₁ = [] ∧ ∃ fs l Fg tF La tL, ((sgnRest (strip2 t)).take i).foldl scanStep (some ([], 95)) = some (fs, l) ∧ fs.length ≤ i ∧ Fg.cps.toList = fs ∧ La.cps.toList = [l] ∧
      m₁ (PySem.Str.ofString "figures") = some (.str Fg tF) ∧ m₁ (PySem.Str.ofString "last") = some (.str La tL) ∧ m₁ (PySem.Str.ofString "minus") = some (.str Mn tM)) hh F₃ N₃ ?_ ?_ ?_
    · exact ⟨rfl, [], 95, _, _, _, _, rfl, Nat.le_refl _, rfl, rfl, rfl, rfl, rfl⟩
    · rintro i c tc m₁ news₁ own h₄ tk₄ hc ⟨rfl, fs, l, Fg, tF, La, tL, hsc, hfl, hFg, hLa, e1, e2, e3⟩ hoff hown F₄ N₄
      have F₅ := Fr.know (Fr.know (Fr.know F₄ (x := PySem.Str.ofString "minus") (v := .str Mn tM) (by rw [if_neg (by decide)]; exact e3)) (x := PySem.Str.ofString "last") (v := .str La tL) (by rw [if_neg (by decide), if_neg (by decide)]; exact e2)) (x := PySem.Str.ofString "figures") (v := .str Fg tF) (by rw [if_neg (by decide), if_neg (by decide), if_neg (by decide)]; exact e1)
      clear F₄ F₃ N₃
      have hci : (sgnRest (strip2 t))[i]? = some c := by rw [← hR]; simpa using hc
      have hstep : ((sgnRest (strip2 t)).take (i + 1)).foldl scanStep (some ([], 95)) = scanStep (some (fs, l)) c := by
        rw [List.take_add_one, hci, List.foldl_append, hsc]; rfl
      have hFgl : Fg.length ≤ 100 := by
        have q1 : Fg.cps.toList.length = Fg.length := Array.length_toList
        have q2 : i < R.cps.size := (Array.getElem?_eq_some_iff.mp hc).1
        rw [hFg] at q1; omega
      have hnone : scanStep (some (fs, l)) c = none → numberFn t = none := fun e => number_none (scan_none (hstep.trans e))
      iterate 7 (first | walk1 | (dsimp only; walk1))
      by_cases hc95 : c = 95
      · subst hc95
        rw [if_pos (by decide)]
        iterate 8 (first | walk1 | (dsimp only; walk1))
        by_cases hl95 : l = 95
        · subst hl95
          rw [if_pos (by rw [str_one hLa]; decide)]
          iterate 3 (first | walk1 | (dsimp only; walk1))
          (rename Fr _ _ _ _ => F₆)
          exact Constant_none (hretN (hnone rfl) _ _ F₆.keep)
        · rw [if_neg (by rw [str_one hLa]; exact one_ne hl95)]
          refine wpAny_execs_nil (wpAny_execs_nil ?_)
          iterate 5 (first | walk1 | (dsimp only; walk1))
          (rename Fr _ _ _ _ => F₆); (rename News _ _ _ _ => N₆)
          refine wpAny_execs_nil (LoopStepV.next (LoopStepU.intro F₆ N₆ (fun _ h => nomatch h) ⟨rfl, fs, 95, Fg, tF, _, _, ?_, Nat.le_succ_of_le hfl, hFg, rfl, rfl, rfl, rfl⟩))
          rw [hstep]; exact scan_us hl95
      · rw [if_neg (one_ne hc95)]
        iterate 8 (first | walk1 | (dsimp only; walk1))
        rw [StrLaws.found_one]
        by_cases hdig : 48 ≤ c ∧ c ≤ 57
        · rw [if_pos (digit_in hdig)]
          iterate 7 (first | walk1 | (dsimp only; walk1))
          refine wpAny_execs_nil (wpAny_execs_nil ?_)
          iterate 4 (first | walk1 | (dsimp only; walk1))
          (rename Fr _ _ _ _ => F₆); (rename News _ _ _ _ => N₆)
          refine wpAny_execs_nil (LoopStepV.next (LoopStepU.intro F₆ N₆ (fun _ h => nomatch h) ⟨rfl, fs ++ [c], c, _, _, _, _, ?_, ?_, ?_, rfl, rfl, rfl, rfl⟩))
          · rw [hstep]; exact scan_dig hc95 hdig
          · simp only [List.length_append, List.length_singleton]; omega
          · rw [PySem.Str.cps_append, Array.toList_append, hFg]
        · rw [if_neg (digit_out hdig)]
          iterate 3 (first | walk1 | (dsimp only; walk1))
          (rename Fr _ _ _ _ => F₆)
          exact Constant_none (hretN (hnone (scan_bad hc95 hdig)) _ _ F₆.keep)
    · rintro h₄ tk₄ m₁ news₁ F₄ N₄ ⟨rfl, fs, l, Fg, tF, La, tL, hsc, hfl, hFg, hLa, e1, e2, e3⟩
      rw [List.take_of_length_le (by rw [← hR]; simp)] at hsc
      have F₅ := Fr.know (Fr.know (Fr.know F₄ e3) (x := PySem.Str.ofString "last") (v := .str La tL) (by rw [if_neg (by decide)]; exact e2)) (x := PySem.Str.ofString "figures") (v := .str Fg tF) (by rw [if_neg (by decide), if_neg (by decide)]; exact e1)
      clear F₄ F₃ N₃
      have hFgl : Fg.length ≤ 100 := by
        have q1 : Fg.cps.toList.length = Fg.length := Array.length_toList
        rw [hFg] at q1; omega
      dsimp only
      iterate 7 (first | walk1 | (dsimp only; walk1))
      by_cases hl95 : l = 95
      · subst hl95
        rw [if_pos (by rw [str_one hLa]; decide)]
        iterate 3 (first | walk1 | (dsimp only; walk1))
        (rename Fr _ _ _ _ => F₆)
        refine Constant_none (hretN ?_ _ _ F₆.keep)
        unfold numberFn numberL; rw [hsc]; rfl
      · rw [if_neg (by rw [str_one hLa]; exact one_ne hl95)]
        refine wpAny_execs_nil ?_
        refine wpAny_execs_cons (while_done (J := fun n m₁ news₁ => news₁ = [] ∧ ∃ gs Gg tG, gs.length = n ∧ Gg.length ≤ 100 ∧ Gg.cps.toList = gs ∧ strip0 gs = strip0 fs ∧ m₁ (PySem.Str.ofString "figures") = some (.str Gg tG) ∧ m₁ (PySem.Str.ofString "minus") = some (.str Mn tM))
          (fun s₂ => ∃ h₂ tk₂ m₂ Gg tG, s₂ = { s with heap := h₂, toks := tk₂ } ∧ Gg.length ≤ 100 ∧ Gg.cps.toList = strip0 fs ∧ Fr s.heap L' h₂ m₂ ∧ m₂ (PySem.Str.ofString "figures") = some (.str Gg tG) ∧ m₂ (PySem.Str.ofString "minus") = some (.str Mn tM)) F₅ News.nil ⟨rfl, fs, Fg, tF, rfl, hFgl, hFg, rfl, rfl, rfl⟩ ?_ ?_)
        · rintro n m₂ news₂ h₅ tk₅ F₆ N₆ ⟨rfl, gs, Gg, tG, hn, hGl, hG, hs0, g1, g3⟩
          have F₇ := Fr.know (Fr.know F₆ g3) (x := PySem.Str.ofString "figures") (v := .str Gg tG) (by rw [if_neg (by decide)]; exact g1)
          clear F₆ F₅ N₄
          iterate 12 (first | walk1 | (dsimp only; walk1))
          have hGle : gs.length = Gg.length := by rw [← hG]; exact Array.length_toList
          match gs, hn, hG, hs0, hGle with
          | [], hn, hG, hs0, hGle =>
            simp only [List.length_nil] at hGle
            rw [if_neg (by rw [decide_eq_true_eq]; omega), if_neg (by decide)]
            exact ⟨_, _, _, Gg, tG, rfl, hGl, by rw [hG, ← hs0]; rfl, F₇, rfl, rfl⟩
          | [x], hn, hG, hs0, hGle =>
            simp only [List.length_singleton] at hGle
            rw [if_neg (by rw [decide_eq_true_eq]; omega), if_neg (by decide)]
            exact ⟨_, _, _, Gg, tG, rfl, hGl, by rw [hG, ← hs0, strip0_one], F₇, rfl, rfl⟩
          | x :: y :: r, hn, hG, hs0, hGle =>
            simp only [List.length_cons] at hGle
            have hp2 : 1 ≤ Gg.length := by omega
            rw [if_pos (by rw [decide_eq_true_eq]; omega)]
            have hit2 : Txt.item Gg 0 = ⟨#[x]⟩ := item_meets (by decide) (by rw [← Array.getElem?_toList, hG]; rfl)
            iterate 9 (first | walk1 | (dsimp only; walk1))
            rw [hit2]
            by_cases hx : x = 48
            · subst hx
              rw [if_pos (by decide)]
              iterate 14 (first | walk1 | (dsimp only; walk1))
              (rename Fr _ _ _ _ => F₈); (rename News _ _ _ _ => N₈)
              refine wpAny_execs_nil ⟨_, _, _, [], (y :: r).length, rfl, F₈, N₈, ?_, rfl, y :: r, _, _, rfl, ?_, slice1 hG, ?_, rfl, rfl⟩
              · rw [← hn]; exact Nat.lt_succ_self _
              · exact Nat.le_trans (Txt.slice_le _ _ _) hGl
              · rw [← hs0]; rfl
            · rw [if_neg (one_ne0 hx), if_neg (by decide)]
              exact ⟨_, _, _, Gg, tG, rfl, hGl, by rw [hG, ← hs0, strip0_other hx], F₇, rfl, rfl⟩
        · rintro s₂ ⟨h₅, tk₅, m₂, Gg, tG, rfl, hGl, hG, F₆, g1, g3⟩
          have F₇ := Fr.know (Fr.know F₆ g3) (x := PySem.Str.ofString "figures") (v := .str Gg tG) (by rw [if_neg (by decide)]; exact g1)
          clear F₆ F₅ N₄
          have N₇ : News s.heap L' h₅ [] := News.nil
          iterate 7 (first | walk1 | (dsimp only; walk1))
          by_cases hz : strip0 fs = [48]
          · rw [hz] at hG
            rw [if_pos (by rw [str_one hG]; decide)]
            iterate 3 (first | walk1 | (dsimp only; walk1))
            refine ld F₇ rfl (hretS ?_ _ _ _ F₇.keep)
            unfold numberFn numberL
            rw [hsc]
            show Option.map _ (if l = 95 then none else if strip0 fs = [48] then some [48] else _) = _
            rw [if_neg hl95, if_pos hz]
            exact congrArg some (str_ext hG.symm)
          · rw [if_neg (by rw [beq_iff_eq]; intro e; rw [e] at hG; exact hz hG.symm)]
            refine wpAny_execs_nil ?_
            iterate 5 (first | walk1 | (dsimp only; walk1))
            have hMl : Mn.length ≤ 1 := by
              have q1 : Mn.cps.toList.length = Mn.length := Array.length_toList
              rw [hM] at q1
              have := sgnMinus_length (strip2 t)
              omega
            refine PyProof.Rows.add_str (fun t' tk' => ?_) (by rw [sizeLine_eq]; omega)
            refine hretS ?_ _ _ _ F₇.keep
            unfold numberFn numberL
            rw [hsc]
            show Option.map _ (if l = 95 then none else if strip0 fs = [48] then some [48] else _) = _
            rw [if_neg hl95, if_neg hz]
            refine congrArg some (str_ext ?_)
            rw [PySem.Str.cps_append, Array.toList_append, hM, hG]
end Mine
end
section
open PySem PySem.W PySem.Calls PyProof.Rows
set_option maxRecDepth 100000
namespace Mine
/-- what the law's reader gave for each part -/
inductive NumsAre : List Value → List (Option PySem.Str) → Prop
  | nil : NumsAre [] []
  | cons (o : Option PySem.Str) (t : Tok) {vs os} : NumsAre vs os → NumsAre (numVal o t :: vs) (o :: os)
theorem NumsAre.snoc {vs : List Value} {os : List (Option PySem.Str)} (h : NumsAre vs os) (o : Option PySem.Str) (t : Tok) : NumsAre (vs ++ [numVal o t]) (os ++ [o]) := by
  induction h with
  | nil => exact .cons o t .nil
  | cons o' t' _ ih => exact .cons o' t' ih
theorem NumsAre.length {vs : List Value} {os : List (Option PySem.Str)} (h : NumsAre vs os) : vs.length = os.length := by
  induction h with
  | nil => rfl
  | cons o t _ ih => simp [ih]
/-- all are texts -/
def allSome : List (Option PySem.Str) → Option (List PySem.Str)
  | [] => some []
  | none :: _ => none
  | some x :: r => match allSome r with
    | none => none
    | some ys => some (x :: ys)
theorem NumsAre.strs {vs : List Value} {os : List (Option PySem.Str)} (h : NumsAre vs os) : ∀ {ys}, allSome os = some ys → StrsAre vs ys := by
  induction h with
  | nil => intro ys e; cases e; exact .nil
  | cons o t _ ih =>
    rename_i vs' os' _
    intro ys e
    cases o with
    | none => cases e
    | some x =>
      have e' : (match allSome os' with | none => none | some ys => some (x :: ys)) = some ys := e
      cases hq : allSome os' with
      | none => rw [hq] at e'; cases e'
      | some zs => rw [hq] at e'; cases e'; exact .cons x t (ih hq)
theorem allSome_any : ∀ os : List (Option PySem.Str), os.any Option.isNone = (allSome os).isNone
  | [] => rfl
  | none :: _ => rfl
  | some x :: r => by
    have ih := allSome_any r
    show (false || r.any Option.isNone) = _
    rw [Bool.false_or, ih]
    show _ = (match allSome r with | none => none | some ys => some (x :: ys)).isNone
    cases allSome r <;> rfl
section
variable {prog : Program} {w : World} {A : Around} {E : Value → Shared → Prop} {s : Shared}
theorem eqBool_sn {y : PySem.Str} {t : Tok} {Q : Bool → Shared → Prop} (h : Q false s) : wpAny (model prog w) A (eqBool (.str y t) .none) Q E s := by
  unfold eqBool
  refine wpAny_holding (wpAny_ite_false (by rfl) ?_)
  refine wpAny_bind (EqNone.eq_str_none ?_)
  exact wpAny_pure h
theorem eqBool_nn {Q : Bool → Shared → Prop} (h : Q true s) : wpAny (model prog w) A (eqBool .none .none) Q E s := by
  unfold eqBool
  refine wpAny_holding (wpAny_ite_true (by decide) ?_)
  exact wpAny_bind (wpAny_rule (wpAny_pure h))
end
def isNoneV : Value → Bool
  | .none => true
  | _ => false
theorem NumsAre.eqs {vs : List Value} {os : List (Option PySem.Str)} (h : NumsAre vs os) : ∀ y ∈ vs, MeetsSeq.EqGives y .none (isNoneV y) := by
  induction h with
  | nil => intro y hy; cases hy
  | cons o t _ ih =>
    intro y hy
    rcases List.mem_cons.mp hy with rfl | hy
    · cases o with
      | none => exact fun _ _ _ _ _ _ q => eqBool_nn q
      | some x => exact fun _ _ _ _ _ _ q => eqBool_sn q
    · exact ih y hy
theorem NumsAre.any {vs : List Value} {os : List (Option PySem.Str)} (h : NumsAre vs os) : vs.any isNoneV = os.any Option.isNone := by
  induction h with
  | nil => rfl
  | cons o t _ ih =>
    rw [List.any_cons, List.any_cons, ih]
    cases o <;> rfl
section
variable {prog : Program} {w : World} {A : Around} {E : Value → Shared → Prop} {s : Shared}
theorem in_none {l : Addr} {vs : List Value} {os : List (Option PySem.Str)} {Q : Value → Shared → Prop} (hl : s.heap.IsList l vs.toArray) (hi : NumsAre vs os)
    (h : Q (.bool (os.any Option.isNone)) s) : wpAny (model prog w) A (compareOp .In .none (.ref l)) Q E s :=
  SeqInW.in_listW isNoneV (fun y hy => hi.eqs y (by simpa using hy)) hl (by rw [← Array.any_toList, show vs.toArray.toList = vs from rfl, hi.any]; exact h)
end
end Mine
end
section
open PySem PySem.W PySem.Calls PyProof.Rows
set_option maxRecDepth 100000
set_option maxHeartbeats 8000000
namespace Mine
theorem one_ne46 {c : Nat} (h : ¬ c = 46) : ¬ ((⟨#[c]⟩ : PySem.Str) == PySem.Str.ofString ".") = true := by
  rw [beq_iff_eq]
  intro e
  have := congrArg (fun x : PySem.Str => x.cps.toList) e
  have e2 : (PySem.Str.ofString ".").cps.toList = [46] := by decide
  rw [e2] at this
  exact h (List.cons.inj this).1
theorem len0 {b : PySem.Str} (h : b.length = 0) : b = PySem.Str.ofString "" := by
  refine str_nil ?_
  have e : b.cps.toList.length = b.length := Array.length_toList
  rw [h] at e
  exact List.length_eq_zero_iff.mp e
theorem len1 {b : PySem.Str} (h : ¬ b.length = 0) : (b != PySem.Str.ofString "") = true := by
  rw [bne_iff_ne]
  intro e
  exact h (by rw [e]; rfl)
def nparts (t b : PySem.Str) : List PySem.Str := dparts t.cps.toList ++ (if b.length = 0 then [] else [b])
def nfinal (t b : PySem.Str) : List PySem.Str := match allSome ((nparts t b).map numberFn) with
  | none => nparts t b
  | some ys => ys
theorem nparts_len (t b : PySem.Str) : 1 ≤ (nparts t b).length ∧ (nparts t b).length ≤ t.length + 3 := by
  have h1 := dparts_ne t
  have h2 := dparts_length t
  unfold nparts
  rw [List.length_append]
  have h3 : (if b.length = 0 then ([] : List PySem.Str) else [b]).length ≤ 1 := by split <;> simp
  omega
theorem nparts_short {t b p : PySem.Str} (h : p ∈ nparts t b) (ht : t.length ≤ 100) (hb : b.length ≤ 100) : p.length ≤ 100 := by
  unfold nparts at h
  rcases List.mem_append.mp h with h | h
  · exact Nat.le_trans (dparts_short h) ht
  · split at h
    · cases h
    · rw [List.mem_singleton.mp h]; exact hb
theorem allSome_spec : ∀ {os : List (Option PySem.Str)} {ys : List PySem.Str}, allSome os = some ys → os = ys.map some
  | [], ys, h => by cases h; rfl
  | none :: r, ys, h => by cases h
  | some x :: r, ys, h => by
    have h' : (match allSome r with | none => none | some ys => some (x :: ys)) = some ys := h
    cases hq : allSome r with
    | none => rw [hq] at h'; cases h'
    | some zs => rw [hq] at h'; cases h'; rw [allSome_spec hq]; rfl
theorem nfinal_len (t b : PySem.Str) : (nfinal t b).length = (nparts t b).length := by
  unfold nfinal
  cases hq : allSome ((nparts t b).map numberFn) with
  | none => rfl
  | some ys =>
    have := congrArg List.length (allSome_spec hq)
    simpa using this.symm
theorem nfinal_cons (t b : PySem.Str) : ∃ y ys, nfinal t b = y :: ys := by
  have h := (nparts_len t b).1
  rw [← nfinal_len] at h
  cases hq : nfinal t b with
  | nil => rw [hq] at h; exact absurd h (by decide)
  | cons y ys => exact ⟨y, ys, rfl⟩
theorem scan_len : ∀ (r fs : List Nat) (l : Nat) {gs : List Nat} {k : Nat}, r.foldl scanStep (some (fs, l)) = some (gs, k) → gs.length ≤ fs.length + r.length
  | [], fs, l, gs, k, h => by cases h; exact Nat.le_refl _
  | c :: r, fs, l, gs, k, h => by
    rw [List.foldl_cons] at h
    cases hq : scanStep (some (fs, l)) c with
    | none => rw [hq, foldl_none] at h; cases h
    | some p =>
      obtain ⟨fs', l'⟩ := p
      rw [hq] at h
      have ih := scan_len r fs' l' h
      have : fs'.length ≤ fs.length + 1 := by
        have e : (if c = 95 then (if l = 95 then none else some (fs, 95)) else if 48 ≤ c ∧ c ≤ 57 then some (fs ++ [c], c) else none) = some (fs', l') := hq
        (repeat' split at e) <;> first | (cases e; exact Nat.le_succ _) | (cases e; simp) | cases e
      simp only [List.length_cons]; omega
theorem strip0_len : ∀ l : List Nat, (strip0 l).length ≤ l.length
  | [] => Nat.le_refl _
  | [x] => by rw [strip0_one]; exact Nat.le_refl _
  | x :: y :: r => by
    by_cases hx : x = 48
    · subst hx
      have := strip0_len (y :: r)
      show (strip0 (y :: r)).length ≤ _
      simp only [List.length_cons] at this ⊢; omega
    · rw [strip0_other hx]; exact Nat.le_refl _
theorem number_len {t x : PySem.Str} (h : numberFn t = some x) : x.length ≤ t.length + 1 := by
  unfold numberFn at h
  cases hq : numberL (strip2 t) with
  | none => rw [hq] at h; cases h
  | some l =>
    rw [hq] at h
    have e : x = ⟨l.toArray⟩ := (Option.some.inj h).symm
    have hs : (strip2 t).length ≤ t.length := by
      have e1 : (strip2 t).length = (Txt.stripChars t (PySem.Str.ofString " \t")).length := Array.length_toList
      rw [e1]; exact len_stripChars t _
    have hl : l.length ≤ (strip2 t).length + 1 := by
      unfold numberL at hq
      cases hf : (sgnRest (strip2 t)).foldl scanStep (some ([], 95)) with
      | none => rw [hf] at hq; cases hq
      | some p =>
        obtain ⟨fs, k⟩ := p
        rw [hf] at hq
        have q : (if k = 95 then none else if strip0 fs = [48] then some [48] else some (sgnMinus (strip2 t) ++ strip0 fs)) = some l := hq
        have h1 := scan_len _ _ _ hf
        have h2 := sgnRest_length (strip2 t)
        have h3 := strip0_len fs
        have h4 := sgnMinus_length (strip2 t)
        simp only [List.length_nil] at h1
        (repeat' split at q) <;> first | (cases q; simp only [List.length_cons, List.length_nil, List.length_append]; omega) | cases q
    rw [e]
    show l.toArray.size ≤ _
    rw [List.size_toArray]; omega
theorem nfinal_short {t b p : PySem.Str} (h : p ∈ nfinal t b) (ht : t.length ≤ 100) (hb : b.length ≤ 100) : p.length ≤ 101 := by
  unfold nfinal at h
  cases hq : allSome ((nparts t b).map numberFn) with
  | none => rw [hq] at h; exact Nat.le_succ_of_le (nparts_short h ht hb)
  | some ys =>
    rw [hq] at h
    have e := allSome_spec hq
    have hm : some p ∈ ys.map some := List.mem_map_of_mem h
    rw [← e] at hm
    obtain ⟨q, hq1, hq2⟩ := List.mem_map.mp hm
    have h1 := number_len hq2
    have h2 := nparts_short hq1 ht hb
    omega
theorem fold3 (y : PySem.Str) (ys : List PySem.Str) : (ys.take 2).foldl (fun a p => a ++ (dot ++ p)) y = Txt.join dot ((y :: ys).take 3) := by
  show _ = PySem.Builtin.Str.glued dot _
  rw [StrLaws.glued_eq_join]
  match ys with
  | [] => rfl
  | [a] => exact (PySem.Str.append_assoc y dot a).symm
  | a :: b :: r =>
    show y ++ (dot ++ a) ++ (dot ++ b) = y ++ dot ++ (a ++ dot ++ b)
    simp only [PySem.Str.append_assoc]
theorem pick13 (vs : List Value) (x : Value) : slicePick (x :: vs).toArray (some 1) (some 3) none = (vs.take 2).toArray := by
  have e : sliceBounds (some 1) (some 3) none (x :: vs).toArray.size = (((1 : Nat) : Int), ((min 3 (x :: vs).toArray.size : Nat) : Int), 1) := by
    simp only [sliceBounds, Option.getD_none, show (1 : Int) > 0 by decide, if_true, if_neg (show ¬ ((3 : Int) < 0) by omega), if_neg (show ¬ ((1 : Int) < 0) by omega), List.size_toArray, List.length_cons]
    congr 1
    · omega
    · congr 1
      omega
  rw [kmk_pick_nat _ e]
  show (vs.take (min 3 (x :: vs).toArray.size - 1)).toArray = _
  rw [List.size_toArray, List.length_cons, show min 3 (vs.length + 1) - 1 = min 2 vs.length by omega, kmk_take_min]
theorem setL_last : ∀ (vi : List Value) (x v : Value), ki_setL (vi ++ [x]) vi.length v = some (vi ++ [v])
  | [], _, _ => rfl
  | y :: r, x, v => by
    have ih := setL_last r x v
    show (match ki_setL (r ++ [x]) r.length v with | some q => some (y :: q) | none => none) = _
    rw [ih]; rfl
theorem normed_call {w : World} {s₀ : Shared} {mg mb : PySem.Str → Option Value} {A : Around} {s : Shared} {Q E : Value → Shared → Prop} {t b : PySem.Str} {u v : Tok}
   (KX : (Mine.hd.heap_39 w.params).In s.heap) (T : TopN s₀ mg mb s.heap) (hh : A.handled = none) (hd : A.depth + 1 < recursionLimit) (ht : t.length ≤ 100) (hb : b.length ≤ 100)
   (hret : ∀ (tok : Tok) (h' : Heap) (tk' : Nat), (∀ b o, s.heap.get? b = some o → h'.get? b = some o) → Q (.str (Txt.join dot ((nfinal t b).take 3)) tok) { s with heap := h', toks := tk' }) :
   wpAny (model Challenge.rw_mg0077_01.row.prog w) A (call (.ref 43) [.str t u, .str b v]) Q E s := by
  revert KX; k_fill; intro KX
  refine wpAny_call ?_
  k_dflt (refine enter_def (binds := [(PySem.Str.ofString "text", .str t u), (PySem.Str.ofString "build", .str b v)]) KX T (Nat.lt_of_succ_lt hd) (by k_is) (by k_is) (BindsTo.of_eq rfl) (locs rfl) ?_)
  intro h' F'
  have N' : News s.heap s.heap.objs.size h' [] := News.nil
  generalize hLz : s.heap.objs.size = L' at *
  dsimp only
  iterate 8 (first | walk1 | (dsimp only; walk1))
  (rename Fr _ _ _ _ => F₁); (rename News _ _ _ _ => N₁)
  rename_i D h₀ l1 h₁
  refine execs_cutC (J := fun s₁ => ∃ h₂ tk m vs cnt, s₁ = { s with heap := h₂, toks := tk } ∧ StrsAre vs (dparts t.cps.toList) ∧ Fr s.heap L' h₂ m ∧ News s.heap L' h₂ [(D, lst vs.toArray cnt)] ∧ m (PySem.Str.ofString "parts") = some (.ref D) ∧ m (PySem.Str.ofString "build") = some (.str b v)) ?_ ?_
  · refine For_invVF F₁ rfl rfl (ld F₁ rfl ?_)
    refine iter_strJ (J := fun i m₁ news₁ => ∃ vi pi pl tl cnt, news₁ = [(D, lst (vi ++ [.str pl tl]).toArray cnt)] ∧ StrsAre vi pi ∧ dparts (t.cps.toList.take i) = pi ++ [pl] ∧ pi.length ≤ i ∧ pl.length ≤ i ∧ m₁ (PySem.Str.ofString "parts") = some (.ref D) ∧ m₁ (PySem.Str.ofString "build") = some (.str b v)) hh F₁ N₁ ?_ ?_ ?_
    · exact ⟨[], [], PySem.Str.ofString "", _, _, rfl, .nil, rfl, Nat.le_refl _, Nat.le_refl _, rfl, rfl⟩
    · rintro i c tc m₁ news₁ own h₄ tk₄ hc ⟨vi, pi, pl, tl, cnt, rfl, hvi, hdp, hpi, hpl, e1, e2⟩ hoff hown F₄ N₄
      have F₅ := Fr.know (Fr.know F₄ (x := PySem.Str.ofString "build") (v := .str b v) (by rw [if_neg (by decide)]; exact e2)) (x := PySem.Str.ofString "parts") (v := .ref D) (by rw [if_neg (by decide), if_neg (by decide)]; exact e1)
      clear F₄ F₁ N₁
      have hDo : ∀ p ∈ own, p.1 ≠ D := fun p hp e => hoff _ (.head _) (by rw [← e]; exact hown p hp)
      have hi : i < t.length := (Array.getElem?_eq_some_iff.mp hc).1
      have hvl : vi.length = pi.length := hvi.length
      have hstep : dparts (t.cps.toList.take (i + 1)) = dstep (pi ++ [pl]) c := by
        rw [List.take_add_one, show t.cps.toList[i]? = some c by simpa using hc]
        show dparts (t.cps.toList.take i ++ [c]) = _
        rw [dparts_snoc, hdp]
      iterate 7 (first | walk1 | (dsimp only; walk1))
      by_cases hc46 : c = 46
      · subst hc46
        rw [if_pos (by decide)]
        iterate 10 (first | walk1 | (dsimp only; walk1))
        refine append_K F₅ N₄ (upd_append (.head (List.forall_mem_nil _)) hDo) (fun h₅ F₆ N₆ => ?_) (by rw [sizeLine_eq]; simp; omega)
        rw [List.push_toArray] at N₆
        refine wpAny_execs_nil (wpAny_execs_nil (LoopStepV.next (LoopStepU.intro F₆ N₆ ?_ ⟨vi ++ [Value.str pl tl], pi ++ [pl], PySem.Str.ofString "", _, _, rfl, hvi.append' (.cons _ _ .nil), ?_, ?_, ?_, rfl, rfl⟩)))
        · intro p hp; rw [List.mem_singleton.mp hp, List.mem_singleton]; exact hoff (D, lst (vi ++ [Value.str pl tl]).toArray cnt) (.head _)
        · rw [hstep, dstep_dot]
        · simp; omega
        · exact Nat.zero_le _
      · rw [if_neg (one_ne46 hc46)]
        iterate 7 (first | walk1 | (dsimp only; walk1))
        have hz1 : ((-1 : Int) + ((vi ++ [Value.str pl tl]).toArray.size : Int)).toNat = vi.length := by simp; omega
        refine wpAny_getItem_list_neg (News.isList N₄ (List.mem_append_right _ (.head _))) (by decide) (by simp; omega) (by decide) (x := .str pl tl) (by rw [hz1]; simp) ?_
        iterate 1 (first | walk1 | (dsimp only; walk1))
        refine PyProof.Rows.iadd_str (fun t₉ tk₉ => ?_) (by rw [sizeLine_eq]; show pl.length + 1 ≤ 16777216; omega)
        refine ki_setNeg (j := vi.length) F₅ N₄ (by decide) (by decide) (by rw [seqIndex_neg (by decide) (by simp; omega), hz1]) (setL_last vi _ _) (upd_append (.head (List.forall_mem_nil _)) hDo) (fun h₅ F₆ N₆ => ?_)
        refine wpAny_execs_nil (wpAny_execs_nil (LoopStepV.next (LoopStepU.intro F₆ N₆ ?_ ⟨vi, pi, pl ++ ⟨#[c]⟩, _, _, rfl, hvi, ?_, Nat.le_succ_of_le hpi, ?_, rfl, rfl⟩)))
        · intro p hp; rw [List.mem_singleton.mp hp, List.mem_singleton]; exact hoff (D, lst (vi ++ [Value.str pl tl]).toArray cnt) (.head _)
        · rw [hstep, dstep_other _ _ hc46]
        · rw [PySem.Str.length_append]; show pl.length + 1 ≤ i + 1; omega
    · rintro h₄ tk₄ m₁ news₁ F₄ N₄ ⟨vi, pi, pl, tl, cnt, rfl, hvi, hdp, hpi, hpl, e1, e2⟩
      rw [List.take_of_length_le (by simp)] at hdp
      exact ⟨rfl, h₄, tk₄, m₁, vi ++ [Value.str pl tl], cnt, rfl, by rw [hdp]; exact hvi.append' (.cons _ _ .nil), F₄, N₄, e1, e2⟩
  · rintro s₁ ⟨h₂, tk, m, vs, cnt, rfl, hvs, F₂, N₂, e1, e2⟩
    have F₃ := Fr.know (Fr.know F₂ e2) (x := PySem.Str.ofString "parts") (v := .ref D) (by rw [if_neg (by decide)]; exact e1)
    clear F₁ N₁ F₂
    have hplen : vs.length ≤ 102 := by have := dparts_length t; have := hvs.length; omega
    refine execs_cutC (J := fun s₁ => ∃ h₂ tk m vs cnt, s₁ = { s with heap := h₂, toks := tk } ∧ StrsAre vs (dparts t.cps.toList ++ (if b.length = 0 then [] else [b])) ∧ Fr s.heap L' h₂ m ∧ News s.heap L' h₂ [(D, lst vs.toArray cnt)] ∧ m (PySem.Str.ofString "parts") = some (.ref D)) ?_ ?_
    · iterate 6 (first | walk1 | (dsimp only; walk1))
      by_cases hb0 : b.length = 0
      · rw [if_neg (by rw [len0 hb0]; decide)]
        refine wpAny_execs_nil ⟨rfl, h₂, _, _, vs, cnt, rfl, ?_, F₃, N₂, rfl⟩
        rw [if_pos hb0, List.append_nil]; exact hvs
      · rw [if_pos (len1 hb0)]
        iterate 10 (first | walk1 | (dsimp only; walk1))
        refine append_K F₃ N₂ (.head (List.forall_mem_nil _)) (fun h₅ F₆ N₆ => ?_) (by rw [sizeLine_eq]; simp; omega)
        rw [List.push_toArray] at N₆
        refine wpAny_execs_nil ⟨rfl, h₅, _, _, _, _, rfl, ?_, F₆, N₆, rfl⟩
        rw [if_neg hb0]
        exact hvs.append' (.cons _ _ .nil)
    · rintro s₁ ⟨h₂, tk, m, vs, cnt, rfl, hvs, F₂, N₂, e1⟩
      have F₄ := Fr.know F₂ e1
      clear F₃ F₂ hplen
      have hplen : vs.length ≤ 103 := by
        have := dparts_length t; have := hvs.length
        have : (dparts t.cps.toList ++ (if b.length = 0 then [] else [b])).length ≤ (dparts t.cps.toList).length + 1 := by split <;> simp
        omega
      iterate 6 (first | walk1 | (dsimp only; walk1))
      (rename Fr _ _ _ _ => F₅); (rename News _ _ _ _ => N₅)
      rename_i P h₃ hDP h₄
      have hDP' : D ≠ P := Nat.ne_of_lt hDP
      have hpsl : ∀ p ∈ nparts t b, p.length ≤ 100 := fun p hp => nparts_short hp ht hb
      have hvs' : StrsAre vs (nparts t b) := hvs
      clear hvs
      refine execs_cutC (J := fun s₁ => ∃ h₂ tk m ws cn, s₁ = { s with heap := h₂, toks := tk } ∧ NumsAre ws ((nparts t b).map numberFn) ∧ Fr s.heap L' h₂ m ∧ News s.heap L' h₂ [(P, lst ws.toArray cn), (D, lst vs.toArray cnt)] ∧ m (PySem.Str.ofString "plain") = some (.ref P) ∧ m (PySem.Str.ofString "parts") = some (.ref D)) ?_ ?_
      · refine For_invVF F₅ rfl rfl (ld F₅ rfl ?_)
        refine iter_listJ (J := fun i m₁ news₁ => ∃ ws cn, news₁ = [(P, lst ws.toArray cn), (D, lst vs.toArray cnt)] ∧ ws.length = i ∧ NumsAre ws (((nparts t b).take i).map numberFn) ∧ m₁ (PySem.Str.ofString "plain") = some (.ref P) ∧ m₁ (PySem.Str.ofString "parts") = some (.ref D)) hh
          (News.isList N₅ (.tail _ (.head _))) (N₅ _ (.tail _ (.head _))).2.1 F₅ N₅ ?_ ?_ ?_
        · exact ⟨[], _, rfl, rfl, .nil, rfl, rfl⟩
        · rintro i v' m₁ news₁ own h₅ tk₅ hv' ⟨ws, cn, rfl, hwi, hws, g1, g2⟩ hoff hown F₆ N₆
          obtain ⟨p, tp, rfl, hpi⟩ := hvs'.item i v' hv'
          have F₇ := Fr.know (Fr.know F₆ (x := PySem.Str.ofString "parts") (v := .ref D) (by rw [if_neg (by decide)]; exact g2)) (x := PySem.Str.ofString "plain") (v := .ref P) (by rw [if_neg (by decide), if_neg (by decide)]; exact g1)
          clear F₆ F₅ N₅
          have hil : i < vs.length := (List.getElem?_eq_some_iff.mp hv').1
          have hPo : ∀ q ∈ own, q.1 ≠ P := fun q hq e => by
            rcases hown q hq with e' | e'
            · exact hoff _ (.head _) (by rw [← e]; exact e')
            · exact hDP' (by rw [← e', e])
          iterate 13 (first | walk1 | (dsimp only; walk1))
          refine ⟨KX.keeps F₇.keep, ?_⟩
          refine number_call (s₀ := s₀) (mg := mg) (mb := mb) (KX.keeps F₇.keep) (T.keeps F₇.keep) hh hd (hpsl p (List.mem_of_getElem? hpi)) (fun tok h₆ tk₆ kp => ?_)
          have F₈ := Fr.stays F₇ kp
          have N₈ := News.stays N₆ kp
          clear F₇ N₆
          iterate 1 (first | walk1 | (dsimp only; walk1))
          refine append_K F₈ N₈ (upd_append (.head (fun q hq => by rw [List.mem_singleton.mp hq]; exact hDP')) hPo) (fun h₇ F₉ N₉ => ?_) (by rw [sizeLine_eq]; simp; omega)
          rw [List.push_toArray] at N₉
          refine wpAny_execs_nil (LoopStepV.next (LoopStepU.intro F₉ N₉ ?_ ⟨_, _, rfl, ?_, ?_, rfl, rfl⟩))
          · intro q hq
            rw [List.mem_singleton]
            rcases List.mem_cons.mp hq with rfl | hq
            · exact hoff (P, lst ws.toArray cn) (.head _)
            · rw [List.mem_singleton.mp hq]; exact hoff (D, lst vs.toArray cnt) (.tail _ (.head _))
          · simp [hwi]
          · rw [List.take_add_one, hpi]
            show NumsAre _ (((nparts t b).take i ++ [p]).map numberFn)
            rw [List.map_append]
            exact hws.snoc _ _
        · rintro h₅ tk₅ m₁ news₁ F₆ N₆ ⟨ws, cn, rfl, hwi, hws, g1, g2⟩
          rw [List.take_of_length_le (by rw [hvs'.length]; exact Nat.le_refl _)] at hws
          exact ⟨rfl, h₅, tk₅, m₁, ws, cn, rfl, hws, F₆, N₆, g1, g2⟩
      · rintro s₁ ⟨h₅, tk₅, m₂, ws, cn, rfl, hws, F₆, N₆, g1, g2⟩
        have F₇ := Fr.know (Fr.know F₆ g2) (x := PySem.Str.ofString "plain") (v := .ref P) (by rw [if_neg (by decide)]; exact g1)
        clear F₆ F₅ N₅
        refine execs_cutC (J := fun s₁ => ∃ h₂ tk m X xs cx, s₁ = { s with heap := h₂, toks := tk } ∧ StrsAre xs (nfinal t b) ∧ Fr s.heap L' h₂ m ∧ News s.heap L' h₂ [(X, lst xs.toArray cx)] ∧ m (PySem.Str.ofString "plain") = some (.ref X)) ?_ ?_
        · iterate 4 (first | walk1 | (dsimp only; walk1))
          refine in_none (News.isList N₆ (.head _)) hws (wpAny_truthy_bool ?_)
          rw [allSome_any]
          cases hq : allSome ((nparts t b).map numberFn) with
          | none =>
            rw [if_pos (by rfl)]
            iterate 4 (first | walk1 | (dsimp only; walk1))
            (rename Fr _ _ _ _ => F₈); (rename News _ _ _ _ => N₈)
            refine wpAny_execs_nil ⟨rfl, _, _, _, D, vs, cnt, rfl, ?_, F₈, News.sub N₈ (fun p hp => .tail _ hp), rfl⟩
            unfold nfinal; rw [hq]; exact hvs'
          | some ys =>
            rw [if_neg (by simp)]
            refine wpAny_execs_nil ⟨rfl, _, _, _, P, ws, cn, rfl, ?_, F₇, News.sub N₆ (fun p hp => by rw [List.mem_singleton.mp hp]; exact .head _), rfl⟩
            unfold nfinal; rw [hq]; exact hws.strs hq
        · rintro s₁ ⟨h₆, tk₆, m₃, X, xs, cx, rfl, hxs, F₈, N₈, g4⟩
          have F₉ := Fr.know F₈ g4
          clear F₈ F₇ N₆
          obtain ⟨y, ys, hy⟩ := nfinal_cons t b
          rw [hy] at hxs
          obtain ⟨ty, xs', rfl, hxs'⟩ := hxs.cons_inv
          iterate 5 (first | walk1 | (dsimp only; walk1))
          refine tail_any (ops := [.ref X, .int 0 _]) (News.isList N₈ (.head _)).typeIs slot_list_getitem.lookup (wpAny_getItem_list (News.isList N₈ (.head _)) (by decide) (by decide) (x := .str y ty) (by rfl) ?_) (by with_unfolding_all rfl)
          have hlen : xs'.length ≤ 103 := by
            have q1 := nfinal_len t b
            have q2 := (nparts_len t b).2
            rw [hy, List.length_cons] at q1
            have q3 := hxs'.length
            omega
          have hyl : ∀ p ∈ y :: ys, p.length ≤ 200 := fun p hp => Nat.le_trans (nfinal_short (hy ▸ hp) ht hb) (by decide)
          iterate 1 (first | walk1 | (dsimp only; walk1))
          (rename Fr _ _ _ _ => F10); (rename News _ _ _ _ => N10)
          refine wpAny_execs_cons (For_invVF F10 rfl rfl ?_)
          rename_i h10
          iterate 8 (first | walk1 | (dsimp only; walk1))
          refine slice_list (s := { s with heap := h10, toks := _ }) F10 N10 (News.isList N10 (.head _)) (.int 1 _) (.int 3 _) (fun h11 F11 N11 => ?_) (hsz := by simp only [List.size_toArray, List.length_cons]; rw [sizeLine_eq]; omega)
          rw [pick13] at N11
          dsimp only at F11 N11 ⊢
          generalize hZ : h10.objs.size + 1 = Z at *
          have hZs : StrsAre (xs'.take 2) (ys.take 2) := hxs'.take' 2
          clear F10 N10
          have hzl : (xs'.take 2).length ≤ 2 := by simp; omega
          refine iter_listJ (J := fun i m₁ news₁ => ∃ Tt tT, news₁ = [] ∧ Tt = ((ys.take 2).take i).foldl (fun a p => a ++ (dot ++ p)) y ∧ Tt.length ≤ 200 + 201 * i ∧ m₁ (PySem.Str.ofString "told") = some (.str Tt tT)) hh
            (News.isList N11 (.head _)) (N11 _ (.head _)).2.1 F11 News.nil ?_ ?_ ?_
          · exact ⟨y, _, rfl, rfl, hyl y (.head _), rfl⟩
          · rintro i v' m₁ news₁ own h12 tk12 hv' ⟨Tt, tT, rfl, hT, hTl, g1⟩ hoff hown F12 N12
            obtain ⟨p, tp, rfl, hpi⟩ := hZs.item i v' hv'
            have hi2 : i < 2 := Nat.lt_of_lt_of_le (List.getElem?_eq_some_iff.mp hv').1 hzl
            have hpl : p.length ≤ 200 := hyl p (.tail _ (List.mem_of_mem_take (List.mem_of_getElem? hpi)))
            have F13 := Fr.know F12 (x := PySem.Str.ofString "told") (v := .str Tt tT) (by rw [if_neg (by decide)]; exact g1)
            clear F12 F11 N11
            iterate 6 (first | walk1 | (dsimp only; walk1))
            refine PyProof.Rows.add_str (fun t₁ k₁ => ?_) (by rw [sizeLine_eq]; show 1 + p.length ≤ 16777216; omega)
            refine PyProof.Rows.iadd_str (fun t₂ k₂ => ?_) (by rw [PySem.Str.length_append, sizeLine_eq]; show Tt.length + (1 + p.length) ≤ 16777216; omega)
            refine stN (s := { s with heap := h12, toks := k₂ }) F13 N12 (fun h13 F14 N14 => ?_)
            refine wpAny_execs_nil (LoopStepV.next (LoopStepU.intro F14 N14 (fun _ h => nomatch h) ⟨_, _, rfl, ?_, ?_, rfl⟩))
            · rw [List.take_add_one (l := ys.take 2), hpi, List.foldl_append, ← hT]; rfl
            · rw [PySem.Str.length_append, PySem.Str.length_append]; show Tt.length + (1 + p.length) ≤ _; omega
          · rintro h12 tk12 m₁ news₁ F12 N12 ⟨Tt, tT, rfl, hT, hTl, g1⟩
            have F13 := Fr.know F12 g1
            clear F12 F11 N11
            refine wpAny_execs_cons (wpAny_Return_some (ld F13 rfl ?_))
            rw [List.take_of_length_le (by rw [hZs.length]; exact Nat.le_refl _)] at hT
            rw [fold3] at hT
            subst hT
            have hr : ∀ tk', Q (.str (Txt.join dot ((y :: ys).take 3)) tT) { s with heap := h12, toks := tk' } := fun tk' => by
              have := hret tT h12 tk' F13.keep
              rw [hy] at this; exact this
            exact hr _
end Mine
end
section
open PySem PySem.W PySem.Calls PyProof.Rows
set_option maxRecDepth 100000
set_option maxHeartbeats 8000000
namespace Mine
abbrev Good (t : PySem.Str) : Prop := ∀ c ∈ t.cps.toList, c = 9 ∨ (32 ≤ c ∧ c < 128)
def tup (a b : Value) : Obj := { cls := .type "tuple", data := .seq #[a, b] }
def IsPair (n : Nat) (v : Value) (p : Addr × Obj) : Prop := ∃ a b ta tb, v = .ref p.1 ∧ p.2 = tup (.str a ta) (.str b tb) ∧ Good a ∧ Good b ∧ a.length ≤ n ∧ b.length ≤ n
section
variable {prog : Program} {w : World} {A : Around} {E : Value → Shared → Prop} {s : Shared} {env : Env} {h₀ : Heap} {x : PySem.Str} {body : List Stmt} {Q : Flow → Shared → Prop} {m : PySem.Str → Option Value} {news : List (Addr × Obj)}
/-- a loop over a list, with the iterator's place known to be taken -/
theorem iter_listJS {l : Addr} {vs : List Value} (J : Nat → (PySem.Str → Option Value) → List (Addr × Obj) → Prop) (hh : A.handled = none) (hl : s.heap.IsList l vs.toArray) (hlL : l ≠ env.locals) (F : Fr h₀ env.locals s.heap m) (N : News h₀ env.locals s.heap news) (h0 : J 0 m news)
    (turn : ∀ i v m₁ news₁ own h tk, vs[i]? = some v → J i m₁ news₁ → (∀ p ∈ news₁, p.1 ≠ s.heap.objs.size) → (∀ p ∈ own, p.1 = s.heap.objs.size ∨ p.1 = l) → (∃ o, (s.heap.objs.size, o) ∈ own) → (h₀.get? l = none → ∃ o, (l, o) ∈ own) →
      Fr h₀ env.locals h (fun y => if y = x then some v else m₁ y) → News h₀ env.locals h (own ++ news₁) →
      wpAny (model prog w) A (execs body env) (LoopStepV h₀ env.locals [s.heap.objs.size] own (J (i + 1)) { s with heap := h, toks := tk } (fun v s' => Q (.ret v) s') fun s' => Q .next s') E { s with heap := h, toks := tk })
    (done : ∀ h tk m₁ news₁, Fr h₀ env.locals h m₁ → News h₀ env.locals h news₁ → J vs.length m₁ news₁ → Q .next { s with heap := h, toks := tk }) :
    wpAny (model prog w) A (pyIter (.ref l)) (fun it s₂ => LoopAtV prog w A h₀ env x body Q E it s₂) E s := by
  obtain ⟨ol, hol, _⟩ := id hl
  have hne : l ≠ s.heap.objs.size := Nat.ne_of_lt (Heap.lt_size hol)
  refine wpAny_pyIter_list hl ?_
  have W := Walks.list (prog := prog) (w := w) hh s.heap.objs.size l hne vs.toArray
  refine ⟨_, _, _, _, _, _, m, news, J, rfl, W, ?_, ?_, ?_, ⟨⟨_, Heap.get?_push_size _ rfl, rfl, rfl⟩, hl.at fun o e => Heap.get?_push_of_some _ e⟩, F.push _, (fun p hp => ⟨Heap.get?_push_of_some _ (N p hp).1, (N p hp).2⟩), h0, ?_, ?_⟩
  · intro hm
    rcases List.mem_cons.mp hm with e | hm
    · exact absurd F.ns.lt (e ▸ Nat.lt_irrefl _)
    · exact hlL (List.mem_singleton.mp hm).symm
  · intro b' hb
    rw [List.mem_singleton.mp hb]
    exact next_is_new F
  · intro p hp hI
    exact absurd (Heap.lt_size (N p hp).1) ((List.mem_singleton.mp hI) ▸ Nat.lt_irrefl _)
  · rintro i v m₁ news₁ s₁ own ⟨h, tk, rfl⟩ hi hP hJ hoff hown _ hin hSt F₁ N₁
    refine turn i v m₁ news₁ own h tk (by simpa using hP) hJ (fun p hp e => hoff p hp (List.mem_singleton.mpr e)) (fun p hp => ?_) ?_ ?_ F₁ N₁
    · rcases List.mem_cons.mp (hown p hp) with e | e
      · exact .inl e
      · exact .inr (List.mem_singleton.mp e)
    · obtain ⟨⟨o, ho, _⟩, _⟩ := hSt; exact ⟨o, hin _ (.head _) (next_is_new F) o ho⟩
    · intro hl0; obtain ⟨_, ⟨o, ho, _⟩⟩ := hSt; exact ⟨o, hin _ (.tail _ (.head _)) hl0 o ho⟩
  · intro h' tk m' news' F' N' _ hJ
    exact done h' tk m' news' F' N' (by simpa using hJ)
end
theorem pick12 (vs : List Value) : slicePick vs.toArray none (some 12) none = (vs.take 12).toArray := by
  have e : sliceBounds none (some 12) none vs.toArray.size = (((0 : Nat) : Int), ((min 12 vs.toArray.size : Nat) : Int), 1) := by
    simp only [sliceBounds, Option.getD_none, show (1 : Int) > 0 by decide, if_true, if_neg (show ¬ ((12 : Int) < 0) by omega)]
    congr 1
    congr 1
    omega
  rw [kmk_pick_nat _ e]
  show ((vs.drop 0).take (min 12 vs.toArray.size - 0)).toArray = _
  rw [List.drop_zero, Nat.sub_zero, List.size_toArray, kmk_take_min]
theorem pcs_ok (t0 t1 t2 t3 t4 t5 t6 t7 t8 t9 ta tb tc td te : Tok) : ∀ v ∈ [Value.str (PySem.Str.ofString "0") t0, .str (PySem.Str.ofString "1") t1, .str (PySem.Str.ofString "9") t2, .str (PySem.Str.ofString ".") t3, .str (PySem.Str.ofString "-") t4, .str (PySem.Str.ofString "+") t5, .str (PySem.Str.ofString "_") t6, .str (PySem.Str.ofString " ") t7, .str (PySem.Str.ofString "a") t8, .str (PySem.Str.ofString "007") t9, .str (PySem.Str.ofString ".0") ta, .str (PySem.Str.ofString ".5.") tb, .str (PySem.Str.ofString "\t") tc, .str (PySem.Str.ofString "1_0") td, .str (PySem.Str.ofString ".-0") te],
    ∃ p tp, v = Value.str p tp ∧ Good p ∧ p.length ≤ 3 := by
  intro v hv
  simp only [List.mem_cons, List.not_mem_nil, or_false] at hv
  rcases hv with rfl | rfl | rfl | rfl | rfl | rfl | rfl | rfl | rfl | rfl | rfl | rfl | rfl | rfl | rfl <;> exact ⟨_, _, rfl, by decide, by decide⟩
theorem IntsAre.item : ∀ {vs : List Value} {ns : List Int}, IntsAre vs ns → ∀ {v : Value}, v ∈ vs → ∃ n t, v = .int n t
  | _, _, .cons n t h, v, hv => by
    rcases List.mem_cons.mp hv with rfl | hv
    · exact ⟨n, t, rfl⟩
    · exact IntsAre.item h hv
theorem Good.app {a b : PySem.Str} (ha : Good a) (hb : Good b) : Good (a ++ b) := by
  intro c hc
  have : c ∈ (a.cps ++ b.cps).toList := hc
  rw [Array.toList_append] at this
  rcases List.mem_append.mp this with h | h
  · exact ha c h
  · exact hb c h
theorem texts_call {w : World} {s₀ : Shared} {mg mb : PySem.Str → Option Value} {A : Around} {s : Shared} {Q E : Value → Shared → Prop} {S : Addr} {us : List Value} {xs : List Int}
   (KX : (Mine.hd.heap_39 w.params).In s.heap) (T : TopN s₀ mg mb s.heap) (hh : A.handled = none) (hd : A.depth < recursionLimit) (hS : s.heap.IsList S us.toArray) (hus : IntsAre us xs) (hlen : us.length ≤ sizeLine)
   (hret : ∀ (X : Addr) (vs : List Value) (tups : List (Addr × Obj)) (h' : Heap) (tk' : Nat), (∀ b o, s.heap.get? b = some o → h'.get? b = some o) → s.heap.get? X = none → h'.IsList X vs.toArray → (∀ v ∈ vs, ∃ p ∈ tups, IsPair 40 v p) → (∀ p ∈ tups, s.heap.get? p.1 = none ∧ h'.get? p.1 = some p.2) → Q (.ref X) { s with heap := h', toks := tk' }) :
   wpAny (model Challenge.rw_mg0077_01.row.prog w) A (call (.ref 29) [.ref S]) Q E s := by
  revert KX; k_fill; intro KX
  refine wpAny_call ?_
  k_dflt (refine enter_def (binds := [(PySem.Str.ofString "script", .ref S)]) KX T hd (by k_is) (by k_is) (BindsTo.of_eq rfl) (locs rfl) ?_)
  intro h' F'
  have N' : News s.heap s.heap.objs.size h' [] := News.nil
  have hS' : h'.IsList S us.toArray := hS.at fun o e => F'.keep S o e
  generalize hLz : s.heap.objs.size = L' at *
  dsimp only
  iterate 66 (first | walk1 | (dsimp only; walk1))
  (rename Fr _ _ _ _ => F₁); (rename News _ _ _ _ => N₁)
  rename_i D h₂ l1 h₃ tk₂ P h₄ lDP h₅ h₆ T0 h₇ lT0 X h₈ lX h₉
  have hDP : D ≠ P := Nat.ne_of_lt lDP
  have hXD : D ≠ X := Nat.ne_of_lt lX.2.2
  have hXP : P ≠ X := Nat.ne_of_lt lX.2.1
  have hTX : T0 ≠ X := Nat.ne_of_lt lX.1
  have hTP : T0 ≠ P := Nat.ne_of_gt lT0.1
  have hTD : T0 ≠ D := Nat.ne_of_gt lT0.2
  have N₂ := News.sub (l' := [(X, lst [Value.ref T0].toArray 0), (P, lst [Value.str (PySem.Str.ofString "") tk₂, Value.str (PySem.Str.ofString "") (tk₂ + 1)].toArray 0), (D, lst (_ : List Value).toArray 0), (T0, tup (.str (PySem.Str.ofString "") (tk + 1 + 1)) (.str (PySem.Str.ofString "") (tk + 1 + 1 + 1)))]) N₁ (by
    intro p hp
    rcases List.mem_cons.mp hp with rfl | hp
    · exact .head _
    rcases List.mem_cons.mp hp with rfl | hp
    · exact .tail _ (.tail _ (.head _))
    rcases List.mem_cons.mp hp with rfl | hp
    · exact .tail _ (.tail _ (.tail _ (.head _)))
    rw [List.mem_singleton.mp hp]
    exact .tail _ (.head _))
  have hpcs := pcs_ok (s.toks + 1) (s.toks + 1 + 1) (s.toks + 1 + 1 + 1) (s.toks + 1 + 1 + 1 + 1) (s.toks + 1 + 1 + 1 + 1 + 1) (s.toks + 1 + 1 + 1 + 1 + 1 + 1) (s.toks + 1 + 1 + 1 + 1 + 1 + 1 + 1) (s.toks + 1 + 1 + 1 + 1 + 1 + 1 + 1 + 1) (s.toks + 1 + 1 + 1 + 1 + 1 + 1 + 1 + 1 + 1) (s.toks + 1 + 1 + 1 + 1 + 1 + 1 + 1 + 1 + 1 + 1) (s.toks + 1 + 1 + 1 + 1 + 1 + 1 + 1 + 1 + 1 + 1 + 1) (s.toks + 1 + 1 + 1 + 1 + 1 + 1 + 1 + 1 + 1 + 1 + 1 + 1) (s.toks + 1 + 1 + 1 + 1 + 1 + 1 + 1 + 1 + 1 + 1 + 1 + 1 + 1) (s.toks + 1 + 1 + 1 + 1 + 1 + 1 + 1 + 1 + 1 + 1 + 1 + 1 + 1 + 1) (s.toks + 1 + 1 + 1 + 1 + 1 + 1 + 1 + 1 + 1 + 1 + 1 + 1 + 1 + 1 + 1)
  have N₃ : ∃ pcs : List Value, pcs.length = 15 ∧ (∀ v ∈ pcs, ∃ p tp, v = Value.str p tp ∧ Good p ∧ p.length ≤ 3) ∧ News s.heap L' h₉ [(X, lst [Value.ref T0].toArray 0), (P, lst [Value.str (PySem.Str.ofString "") tk₂, Value.str (PySem.Str.ofString "") (tk₂ + 1)].toArray 0), (D, lst pcs.toArray 0), (T0, tup (.str (PySem.Str.ofString "") (tk + 1 + 1)) (.str (PySem.Str.ofString "") (tk + 1 + 1 + 1)))] := ⟨_, rfl, hpcs, N₂⟩
  clear N₁ N₂ hpcs
  obtain ⟨pcs, hpl, hpcs, N₁⟩ := N₃
  refine wpAny_execs_cons (For_invVF F₁ rfl rfl ?_)
  iterate 7 (first | walk1 | (dsimp only; walk1))
  refine slice_list (s := { s with heap := h₉, toks := _ }) F₁ N₁ (hS.at fun o e => F₁.keep S o e) .none (.int 12 _) (fun h10 F10 N10 => ?_) (hsz := by simpa using hlen)
  rw [pick12] at N10
  dsimp only at F10 N10 ⊢
  have hXZ : X ≠ h₉.objs.size + 1 := Nat.ne_of_lt (Nat.lt_succ_of_lt (Heap.lt_size (N₁ _ (.head _)).1))
  have hPZ : P ≠ h₉.objs.size + 1 := Nat.ne_of_lt (Nat.lt_succ_of_lt (Heap.lt_size (N₁ _ (.tail _ (.head _))).1))
  generalize hZ : h₉.objs.size + 1 = Z at *
  have hZ0 : s.heap.get? Z = none := (N10 _ (.head _)).2.2
  clear F₁ N₁
  have hl12 : (us.take 12).length ≤ 12 := by simp; omega
  refine iter_listJS (J := fun i m₁ news₁ => ∃ (a b : PySem.Str) (ta tb : Tok) (k : Int) (tc : Tok) (ws : List Value) (cn cp : Nat) (tups : List (Addr × Obj)), news₁ = (X, lst ws.toArray cn) :: (P, lst [Value.str a ta, Value.str b tb].toArray cp) :: (D, lst pcs.toArray 0) :: tups ∧ ws.length = i + 1 ∧ (∀ v ∈ ws, ∃ p ∈ tups, IsPair 40 v p) ∧ (∀ p ∈ tups, p.1 ≠ X ∧ p.1 ≠ P) ∧ Good a ∧ Good b ∧ a.length ≤ 3 * i ∧ b.length ≤ 3 * i ∧ (k = 0 ∨ k = 1) ∧ m₁ (PySem.Str.ofString "texts") = some (.ref X) ∧ m₁ (PySem.Str.ofString "pair") = some (.ref P) ∧ m₁ (PySem.Str.ofString "pieces") = some (.ref D) ∧ m₁ (PySem.Str.ofString "side") = some (.int k tc)) hh
    (News.isList N10 (.head _)) (N10 _ (.head _)).2.1 F10 (News.sub N10 fun p hp => .tail _ hp) ?_ ?_ ?_
  · refine ⟨_, _, _, _, 0, _, _, _, _, _, rfl, rfl, ?_, ?_, by decide, by decide, Nat.le_refl _, Nat.le_refl _, .inl rfl, rfl, rfl, rfl, rfl⟩
    · intro v hv
      rw [List.mem_singleton.mp hv]
      exact ⟨_, .head _, _, _, _, _, rfl, rfl, by decide, by decide, by decide, by decide⟩
    · intro p hp
      rw [List.mem_singleton.mp hp]
      exact ⟨hTX, hTP⟩
  · rintro i v' m₁ news₁ own h₅ tk₅ hv' ⟨a, b, ta, tb, k, tc, ws, cn, cp, tups, rfl, hwi, hws, htp, ga, gb, la, lb, hk, g1, g2, g3, g4⟩ hoff hown hI hZs F₆ N₆
    obtain ⟨x, tx, rfl⟩ := IntsAre.item hus (List.mem_of_mem_take (List.mem_of_getElem? hv'))
    have hi12 : i < 12 := Nat.lt_of_lt_of_le (List.getElem?_eq_some_iff.mp hv').1 hl12
    have F₇ := Fr.know (Fr.know (Fr.know (Fr.know F₆ (x := PySem.Str.ofString "side") (by rw [if_neg (by decide)]; exact g4)) (x := PySem.Str.ofString "pieces") (v := .ref D) (by rw [if_neg (by decide), if_neg (by decide)]; exact g3)) (x := PySem.Str.ofString "pair") (v := .ref P) (by rw [if_neg (by decide), if_neg (by decide), if_neg (by decide)]; exact g2)) (x := PySem.Str.ofString "texts") (v := .ref X) (by rw [if_neg (by decide), if_neg (by decide), if_neg (by decide), if_neg (by decide)]; exact g1)
    clear F₆ F10 N10
    replace hZs := hZs hZ0
    dsimp only at hoff hown hI
    have hXo : ∀ q ∈ own, q.1 ≠ X := fun q hq e => by
      rcases hown q hq with e' | e'
      · exact hoff _ (.head _) (by rw [← e]; exact e')
      · exact hXZ (by rw [← e', e])
    have hPo : ∀ q ∈ own, q.1 ≠ P := fun q hq e => by
      rcases hown q hq with e' | e'
      · exact hoff _ (.tail _ (.head _)) (by rw [← e]; exact e')
      · exact hPZ (by rw [← e', e])
    refine execs_cutC (J := fun s₁ => ∃ (h₂ : Heap) (tk : Nat) (m : PySem.Str → Option Value) (a' b' : PySem.Str) (ta' tb' : Tok) (k' : Int) (tc' : Tok) (cp' : Nat), s₁ = { s with heap := h₂, toks := tk } ∧ Good a' ∧ Good b' ∧ a'.length ≤ 3 * (i + 1) ∧ b'.length ≤ 3 * (i + 1) ∧ (k' = 0 ∨ k' = 1) ∧ Fr s.heap L' h₂ m ∧ News s.heap L' h₂ (own ++ (X, lst ws.toArray cn) :: (P, lst [Value.str a' ta', Value.str b' tb'].toArray cp') :: (D, lst pcs.toArray 0) :: tups) ∧ m (PySem.Str.ofString "texts") = some (.ref X) ∧ m (PySem.Str.ofString "pair") = some (.ref P) ∧ m (PySem.Str.ofString "pieces") = some (.ref D) ∧ m (PySem.Str.ofString "side") = some (.int k' tc')) ?_ ?_
    · iterate 9 (first | walk1 | (dsimp only; walk1))
      by_cases hx : x.fmod 16 = 15
      · rw [if_pos (by rw [hx]; decide)]
        iterate 8 (first | walk1 | (dsimp only; walk1))
        (rename Fr _ _ _ _ => F₈); (rename News _ _ _ _ => N₈)
        refine wpAny_execs_nil ⟨rfl, _, _, _, a, b, ta, tb, 1 - k, _, cp, rfl, ga, gb, by omega, by omega, by omega, F₈, N₈, rfl, rfl, rfl, rfl⟩
      · rw [if_neg (by simpa using hx)]
        have hx0 : 0 ≤ x.fmod 16 := Int.fmod_nonneg_of_pos _ (by decide)
        have hx1 : x.fmod 16 < 15 := by have := Int.fmod_lt_of_pos x (b := 16) (by decide); omega
        obtain ⟨p, hp⟩ : ∃ v, pcs[(x.fmod 16).toNat]? = some v := ⟨_, List.getElem?_eq_getElem (by rw [hpl]; omega)⟩
        obtain ⟨pc, tp, rfl, gp, lp⟩ := hpcs p (List.mem_of_getElem? hp)
        have isP := News.isList (a := P) N₆ (List.mem_append_right _ (.tail _ (.head _)))
        have isD := News.isList (a := D) N₆ (List.mem_append_right _ (.tail _ (.tail _ (.head _))))
        have hDx : pcs.toArray[(x.fmod 16).toNat]? = some (.str pc tp) := by simpa using hp
        rcases hk with rfl | rfl
        · iterate 4 (first | walk1 | (dsimp only; walk1))
          refine wpAny_getItem_list isP (by decide) (by decide) (x := .str a ta) (by rfl) ?_
          iterate 6 (first | walk1 | (dsimp only; walk1))
          refine tail_any (ops := [.ref D, .int (x.fmod 16) _]) isD.typeIs slot_list_getitem.lookup (wpAny_getItem_list isD hx0 (by omega) (x := .str pc tp) hDx ?_) (by with_unfolding_all rfl)
          refine PyProof.Rows.iadd_str (fun t₉ tk₉ => ?_) (by rw [sizeLine_eq]; show a.length + pc.length ≤ 16777216; omega)
          refine ki_set F₇ N₆ (by decide) (by decide) (q := [Value.str (a ++ pc) t₉, Value.str b tb]) (by rfl) (upd_append (.tail hXP.symm (.head (fun q hq => ?_))) hPo) (fun h₅ F₉ N₉ => ?_)
          · rcases List.mem_cons.mp hq with rfl | hq
            · exact hDP
            · exact (htp q hq).2
          refine wpAny_execs_nil ⟨rfl, _, _, _, a ++ pc, b, _, _, 0, _, _, rfl, ga.app gp, gb, ?_, by omega, .inl rfl, F₉, N₉, rfl, rfl, rfl, rfl⟩
          rw [PySem.Str.length_append]; omega
        · iterate 4 (first | walk1 | (dsimp only; walk1))
          refine wpAny_getItem_list isP (by decide) (by decide) (x := .str b tb) (by rfl) ?_
          iterate 6 (first | walk1 | (dsimp only; walk1))
          refine tail_any (ops := [.ref D, .int (x.fmod 16) _]) isD.typeIs slot_list_getitem.lookup (wpAny_getItem_list isD hx0 (by omega) (x := .str pc tp) hDx ?_) (by with_unfolding_all rfl)
          refine PyProof.Rows.iadd_str (fun t₉ tk₉ => ?_) (by rw [sizeLine_eq]; show b.length + pc.length ≤ 16777216; omega)
          refine ki_set F₇ N₆ (by decide) (by decide) (q := [Value.str a ta, Value.str (b ++ pc) t₉]) (by rfl) (upd_append (.tail hXP.symm (.head (fun q hq => ?_))) hPo) (fun h₅ F₉ N₉ => ?_)
          · rcases List.mem_cons.mp hq with rfl | hq
            · exact hDP
            · exact (htp q hq).2
          refine wpAny_execs_nil ⟨rfl, _, _, _, a, b ++ pc, _, _, 1, _, _, rfl, ga, gb.app gp, by omega, ?_, .inr rfl, F₉, N₉, rfl, rfl, rfl, rfl⟩
          rw [PySem.Str.length_append]; omega
    · rintro s₁ ⟨h₂, tk, m, a', b', ta', tb', k', tc', cp', rfl, ga', gb', la', lb', hk', F₈, N₈, e1, e2, e3, e4⟩
      have F₉ := Fr.know (Fr.know (Fr.know (Fr.know F₈ e4) (x := PySem.Str.ofString "pieces") (v := .ref D) (by rw [if_neg (by decide)]; exact e3)) (x := PySem.Str.ofString "pair") (v := .ref P) (by rw [if_neg (by decide), if_neg (by decide)]; exact e2)) (x := PySem.Str.ofString "texts") (v := .ref X) (by rw [if_neg (by decide), if_neg (by decide), if_neg (by decide)]; exact e1)
      clear F₈ F₇ N₆
      have isP := News.isList (a := P) N₈ (List.mem_append_right _ (.tail _ (.head _)))
      iterate 12 (first | walk1 | (dsimp only; walk1))
      refine tail_any (ops := [.ref P, .int 0 _]) isP.typeIs slot_list_getitem.lookup (wpAny_getItem_list isP (by decide) (by decide) (x := .str a' ta') (by rfl) ?_) (by with_unfolding_all rfl)
      iterate 4 (first | walk1 | (dsimp only; walk1))
      refine tail_any (ops := [.ref P, .int 1 _]) isP.typeIs slot_list_getitem.lookup (wpAny_getItem_list isP (by decide) (by decide) (x := .str b' tb') (by rfl) ?_) (by with_unfolding_all rfl)
      iterate 1 (first | walk1 | (dsimp only; walk1))
      have hnew : ∀ q o, (q, o) ∈ (own ++ (X, lst ws.toArray cn) :: (P, lst [Value.str a' ta', Value.str b' tb'].toArray cp') :: (D, lst pcs.toArray 0) :: tups) → h₂.objs.size ≠ q := fun q o hq => Nat.ne_of_gt (Heap.lt_size (N₈ _ hq).1)
      have hTX' : h₂.objs.size ≠ X := hnew X _ (List.mem_append_right _ (.head _))
      have hTP' : h₂.objs.size ≠ P := hnew P _ (List.mem_append_right _ (.tail _ (.head _)))
      have hTI' : h₂.objs.size ≠ h10.objs.size := by obtain ⟨o, ho⟩ := hI; exact hnew _ _ (List.mem_append_left _ ho)
      refine newTuple_NK F₉ N₈ (fun h₃ F10 N10 kp => ?_)
      dsimp only at F10 N10 ⊢
      generalize h₂.objs.size = Tn at *
      have N11 := News.sub (l' := own ++ (X, lst ws.toArray cn) :: (P, lst [Value.str a' ta', Value.str b' tb'].toArray cp') :: (D, lst pcs.toArray 0) :: (Tn, tup (.str a' ta') (.str b' tb')) :: tups) N10 (by
        intro p hp
        rcases List.mem_append.mp hp with hp | hp
        · exact .tail _ (List.mem_append_left _ hp)
        rcases List.mem_cons.mp hp with rfl | hp
        · exact .tail _ (List.mem_append_right _ (.head _))
        rcases List.mem_cons.mp hp with rfl | hp
        · exact .tail _ (List.mem_append_right _ (.tail _ (.head _)))
        rcases List.mem_cons.mp hp with rfl | hp
        · exact .tail _ (List.mem_append_right _ (.tail _ (.tail _ (.head _))))
        rcases List.mem_cons.mp hp with rfl | hp
        · exact .head _
        exact .tail _ (List.mem_append_right _ (.tail _ (.tail _ (.tail _ hp)))))
      clear N10 N₈ F₉ kp
      iterate 1 (first | walk1 | (dsimp only; walk1))
      refine append_K F10 N11 (upd_append (.head (fun q hq => ?_)) hXo) (fun h₇ F12 N12 => ?_) (by rw [sizeLine_eq]; simp; omega)
      · rcases List.mem_cons.mp hq with rfl | hq
        · exact hXP
        rcases List.mem_cons.mp hq with rfl | hq
        · exact hXD
        rcases List.mem_cons.mp hq with rfl | hq
        · exact hTX'
        · exact (htp q hq).1
      rw [List.push_toArray] at N12
      refine wpAny_execs_nil (LoopStepV.next (LoopStepU.intro F12 N12 ?_ ⟨a', b', ta', tb', k', tc', _, _, _, _, rfl, ?_, ?_, ?_, ga', gb', la', lb', hk', rfl, rfl, rfl, rfl⟩))
      · intro q hq
        rw [List.mem_singleton]
        rcases List.mem_cons.mp hq with rfl | hq
        · exact hoff (X, lst ws.toArray cn) (.head _)
        rcases List.mem_cons.mp hq with rfl | hq
        · exact hoff (P, lst [Value.str a ta, Value.str b tb].toArray cp) (.tail _ (.head _))
        rcases List.mem_cons.mp hq with rfl | hq
        · exact hoff (D, _) (.tail _ (.tail _ (.head _)))
        rcases List.mem_cons.mp hq with rfl | hq
        · exact hTI'
        · exact hoff q (.tail _ (.tail _ (.tail _ hq)))
      · simp [hwi]
      · intro v hv
        rcases List.mem_append.mp hv with hv | hv
        · obtain ⟨p, hp, hq⟩ := hws v hv; exact ⟨p, .tail _ hp, hq⟩
        · rw [List.mem_singleton.mp hv]
          exact ⟨_, .head _, a', b', ta', tb', rfl, rfl, ga', gb', by omega, by omega⟩
      · intro q hq
        rcases List.mem_cons.mp hq with rfl | hq
        · exact ⟨hTX', hTP'⟩
        · exact htp q hq
  · rintro h₅ tk₅ m₁ news₁ F₆ N₆ ⟨a, b, ta, tb, k, tc, ws, cn, cp, tups, rfl, hwi, hws, htp, ga, gb, la, lb, hk, g1, g2, g3, g4⟩
    have F₇ := Fr.know F₆ g1
    clear F₆ F10 N10
    refine wpAny_execs_cons (wpAny_Return_some (ld F₇ rfl ?_))
    have hr : ∀ tk', Q (.ref X) { s with heap := h₅, toks := tk' } := fun tk' => hret X ws tups h₅ tk' F₇.keep (N₆ _ (.head _)).2.2 (News.isList N₆ (.head _)) hws (fun p hp => by
      have := N₆ p (.tail _ (.tail _ (.tail _ hp)))
      exact ⟨this.2.2, this.1⟩)
    exact hr _
end Mine
end
section
open PySem PySem.W PySem.Calls PyProof.Rows
set_option maxRecDepth 100000
set_option maxHeartbeats 8000000
namespace Mine
open PySem.NumText (AllDigits digitsVal blank sign core digits? worth)
/-! the text's ends -/
def rdrop (p : Nat → Bool) (l : List Nat) : List Nat := (l.reverse.dropWhile p).reverse
theorem drop_len (p : Nat → Bool) : ∀ l : List Nat, l.drop (l.takeWhile p).length = l.dropWhile p
  | [] => rfl
  | c :: r => by
    rw [List.takeWhile_cons, List.dropWhile_cons]
    split
    · simpa using drop_len p r
    · rfl
theorem take_rdrop (p : Nat → Bool) (d : List Nat) : d.take (d.length - (d.reverse.takeWhile p).length) = rdrop p d := by
  have e : d.reverse.takeWhile p ++ d.reverse.dropWhile p = d.reverse := List.takeWhile_append_dropWhile
  have e2 : d = (d.reverse.dropWhile p).reverse ++ (d.reverse.takeWhile p).reverse := by
    rw [← List.reverse_append, e, List.reverse_reverse]
  unfold rdrop
  clear e
  generalize d.reverse.dropWhile p = a at *
  generalize d.reverse.takeWhile p = b at *
  subst e2
  rw [List.length_append, List.length_reverse (as := b), Nat.add_sub_cancel, List.take_left]
theorem dropWhile_congr {p q : Nat → Bool} : ∀ {l : List Nat}, (∀ c ∈ l, p c = q c) → l.dropWhile p = l.dropWhile q
  | [], _ => rfl
  | c :: r, h => by
    rw [List.dropWhile_cons, List.dropWhile_cons, h c List.mem_cons_self, dropWhile_congr fun d hd => h d (List.mem_cons_of_mem _ hd)]
theorem rdrop_congr {p q : Nat → Bool} {l : List Nat} (h : ∀ c ∈ l, p c = q c) : rdrop p l = rdrop q l := by
  unfold rdrop
  rw [dropWhile_congr fun c hc => h c (List.mem_reverse.mp hc)]
theorem mem_dropWhile {p : Nat → Bool} {l : List Nat} {c : Nat} (h : c ∈ l.dropWhile p) : c ∈ l := (List.dropWhile_sublist p).subset h
theorem head_dropWhile {p : Nat → Bool} : ∀ {l : List Nat} {c : Nat} {r : List Nat}, l.dropWhile p = c :: r → p c = false
  | [], _, _, h => by cases h
  | d :: l, c, r, h => by
    rw [List.dropWhile_cons] at h
    by_cases hd : p d = true
    · rw [if_pos hd] at h; exact head_dropWhile h
    · rw [if_neg hd] at h
      cases h
      simpa using hd
theorem rdrop_cons {p : Nat → Bool} {c : Nat} {r : List Nat} (hc : p c = false) : rdrop p (c :: r) = c :: rdrop p r := by
  unfold rdrop
  rw [List.reverse_cons, List.dropWhile_append]
  split
  · rename_i h
    rw [List.isEmpty_iff.mp h, List.dropWhile_cons, hc]
    rfl
  · rw [List.reverse_append]; rfl
theorem rdrop_len (p : Nat → Bool) (l : List Nat) : (rdrop p l).length ≤ l.length := by
  unfold rdrop
  rw [List.length_reverse]
  have := PySem.NumText.len_dropWhile p l.reverse
  rwa [List.length_reverse] at this
theorem strip_eq (t : PySem.Str) : strip2 t = rdrop (PySem.Str.ofString " \t").cps.contains (t.cps.toList.dropWhile (PySem.Str.ofString " \t").cps.contains) := by
  unfold strip2 Txt.stripChars
  rw [PyProof.Rows.stripBy_eq]
  generalize (PySem.Str.ofString " \t").cps.contains = q
  show (t.cps.extract _ _).toList = _
  rw [Array.toList_extract, List.extract_eq_take_drop]
  have elo : stripLo q true t = (t.cps.toList.takeWhile q).length := rfl
  have ehi : stripHi q true t (stripLo q true t) = t.length - ((t.cps.toList.drop (stripLo q true t)).reverse.takeWhile q).length := rfl
  rw [ehi, elo, drop_len, ← take_rdrop]
  have hl : (t.cps.toList.dropWhile q).length = t.length - (t.cps.toList.takeWhile q).length := by
    rw [← drop_len, List.length_drop]; rfl
  rw [hl]
  congr 1
  omega
theorem blank_eq {c : Nat} (h : c = 9 ∨ (32 ≤ c ∧ c < 128)) : (PySem.Str.ofString " \t").cps.contains c = blank c := by
  have e : (PySem.Str.ofString " \t").cps = #[32, 9] := by decide
  rw [e]
  unfold blank
  rcases h with rfl | ⟨h1, h2⟩
  · simp
  · rw [decide_eq_false (show ¬ c ≤ 13 by omega), Bool.and_false, Bool.or_false]
    by_cases hc : c = 32
    · subst hc; simp
    · rw [beq_eq_false_iff_ne.mpr hc]
      have h9 : c ≠ 9 := by omega
      simp [hc, h9]
theorem strip_good {t : PySem.Str} (g : Good t) : strip2 t = rdrop blank (t.cps.toList.dropWhile blank) := by
  rw [strip_eq, dropWhile_congr fun c hc => blank_eq (g c hc), rdrop_congr fun c hc => blank_eq (g c (mem_dropWhile hc))]
theorem sgn_eq {d : List Nat} (h : ∀ c r, d = c :: r → blank c = false) : sgnRest (rdrop blank d) = rdrop blank (sign d).2 ∧ sgnMinus (rdrop blank d) = if (sign d).1 then [45] else [] := by
  cases d with
  | nil => exact ⟨rfl, rfl⟩
  | cons c r =>
    rw [rdrop_cons (h c r rfl)]
    by_cases h1 : c = 45
    · subst h1; exact ⟨rfl, rfl⟩
    by_cases h2 : c = 43
    · subst h2; exact ⟨rfl, rfl⟩
    have hn : ¬ (c = 45 ∨ c = 43) := fun e => e.elim h1 h2
    rw [sgnRest_other hn, sgnMinus_other hn, PySem.NumText.sign_of h1 h2]
    exact ⟨(rdrop_cons (h c r rfl)).symm, rfl⟩
/-! the figures -/
theorem step_us {ds : Array Nat} {b : Bool} : PySem.NumText.step 10 (ds, b) 95 = if b then some (ds, false) else none := rfl
theorem step_bad {ds : Array Nat} {b : Bool} {c : Nat} (h : ¬ c = 95) (hd : ¬ (48 ≤ c ∧ c ≤ 57)) : PySem.NumText.step 10 (ds, b) c = none := by
  unfold PySem.NumText.step
  rw [if_neg (by rw [beq_iff_eq]; exact h)]
  unfold PySem.NumText.digit?
  rw [if_neg (by simp only [Bool.and_eq_true, decide_eq_true_eq]; exact hd)]
  by_cases h1 : (decide (97 ≤ c) && decide (c ≤ 122)) = true
  · rw [if_pos h1]
    simp only [Bool.and_eq_true, decide_eq_true_eq] at h1
    exact if_neg (by omega)
  rw [if_neg h1]
  by_cases h2 : (decide (65 ≤ c) && decide (c ≤ 90)) = true
  · rw [if_pos h2]
    simp only [Bool.and_eq_true, decide_eq_true_eq] at h2
    exact if_neg (by omega)
  rw [if_neg h2]
theorem foldM_none {c : Nat} {r : List Nat} {p : Array Nat × Bool} (h : PySem.NumText.step 10 p c = none) : (c :: r).foldlM (PySem.NumText.step 10) p = none := by
  rw [List.foldlM_cons, h]; rfl
theorem foldM_some {c : Nat} {r : List Nat} {p q : Array Nat × Bool} (h : PySem.NumText.step 10 p c = some q) : (c :: r).foldlM (PySem.NumText.step 10) p = r.foldlM (PySem.NumText.step 10) q := by
  rw [List.foldlM_cons, h]; rfl
structure Rel (fs : List Nat) (l : Nat) (ds : Array Nat) (b : Bool) : Prop where
  same : ds.toList = fs.map (· - 48)
  last : b = true ↔ l ≠ 95
  all : AllDigits fs
  some : b = true → fs ≠ []
theorem fold_rel : ∀ (r fs : List Nat) (l : Nat) (ds : Array Nat) (b : Bool), Rel fs l ds b →
    (r.foldl scanStep (some (fs, l)) = none ∧ r.foldlM (PySem.NumText.step 10) (ds, b) = none) ∨
    (∃ gs k es b', r.foldl scanStep (some (fs, l)) = some (gs, k) ∧ r.foldlM (PySem.NumText.step 10) (ds, b) = some (es, b') ∧ Rel gs k es b')
  | [], fs, l, ds, b, h => .inr ⟨fs, l, ds, b, rfl, rfl, h⟩
  | c :: r, fs, l, ds, b, h => by
    by_cases hc : c = 95
    · subst hc
      cases b with
      | true =>
        have hl : ¬ l = 95 := h.last.mp rfl
        rw [List.foldl_cons, scan_us hl, foldM_some (q := (ds, false)) (by rw [step_us]; rfl)]
        exact fold_rel r fs 95 ds false ⟨h.same, ⟨fun e => (by cases e), fun e => absurd rfl e⟩, h.all, fun e => (by cases e)⟩
      | false =>
        have hl : l = 95 := by
          by_cases e : l = 95
          · exact e
          · exact absurd (h.last.mpr e) (by decide)
        subst hl
        left
        rw [List.foldl_cons, foldM_none (by rw [step_us]; rfl)]
        exact ⟨foldl_none r, rfl⟩
    · by_cases hd : 48 ≤ c ∧ c ≤ 57
      · rw [List.foldl_cons, scan_dig hc hd, foldM_some (PySem.NumText.step_digit hd)]
        refine fold_rel r (fs ++ [c]) c (ds.push (c - 48)) true ⟨?_, ⟨fun _ => hc, fun _ => rfl⟩, ?_, fun _ => by simp⟩
        · rw [Array.toList_push, h.same, List.map_append]; rfl
        · intro d hm
          rcases List.mem_append.mp hm with hm | hm
          · exact h.all d hm
          · rw [List.mem_singleton.mp hm]; exact hd
      · left
        rw [List.foldl_cons, scan_bad hc hd, foldM_none (step_bad hc hd)]
        exact ⟨foldl_none r, rfl⟩
theorem val_eq {fs : List Nat} {ds : Array Nat} (h : ds.toList = fs.map (· - 48)) : ds.foldl (fun acc d => acc * 10 + d) 0 = digitsVal fs := by
  rw [← Array.foldl_toList, h, List.foldl_map]; rfl
/-! the number's own figures -/
theorem strip0_drop : ∀ fs : List Nat, fs ≠ [] → strip0 fs = match fs.dropWhile (· == 48) with | [] => [48] | c :: r => c :: r
  | [], h => absurd rfl h
  | [x], _ => by
    rw [strip0_one, List.dropWhile_cons]
    by_cases hx : x = 48
    · subst hx; rfl
    · rw [if_neg (by rw [beq_iff_eq]; exact hx)]
  | x :: y :: r, _ => by
    by_cases hx : x = 48
    · subst hx
      show strip0 (y :: r) = _
      rw [strip0_drop (y :: r) (by simp)]
      rfl
    · rw [strip0_other hx, List.dropWhile_cons, if_neg (by rw [beq_iff_eq]; exact hx)]
theorem ofNat_toNat {c : Nat} (h : 48 ≤ c ∧ c ≤ 57) : (Char.ofNat c).toNat = c := by
  have : ∀ d, d < 10 → (Char.ofNat (48 + d)).toNat = 48 + d := by decide
  have := this (c - 48) (by omega)
  rwa [show 48 + (c - 48) = c by omega] at this
theorem map_back : ∀ {l : List Nat}, AllDigits l → (l.map Char.ofNat).map Char.toNat = l
  | [], _ => rfl
  | c :: r, h => by
    rw [List.map_cons, List.map_cons, ofNat_toNat h.head, map_back h.tail]
theorem num_text {fs : List Nat} (h : AllDigits fs) (hne : fs ≠ []) : (Nat.toDigits 10 (digitsVal fs)).map Char.toNat = strip0 fs := by
  rw [PySem.NumText.toDigits_all fs h, strip0_drop fs hne]
  cases hq : fs.dropWhile (· == 48) with
  | nil => rfl
  | cons c r =>
    refine map_back fun d hd => h d ?_
    exact mem_dropWhile (by rw [hq]; exact hd)
theorem strip0_zero {fs : List Nat} (h : AllDigits fs) (hne : fs ≠ []) : strip0 fs = [48] ↔ digitsVal fs = 0 := by
  rw [← num_text h hne]
  constructor
  · intro e
    have := KIN.val_back (digitsVal fs)
    rw [e] at this
    exact this.symm
  · intro e; rw [e]; decide
theorem text_pos (n : Nat) : (PySem.Str.ofString (toString ((n : Nat) : Int))).cps.toList = (Nat.toDigits 10 n).map Char.toNat := KIN.signs_num n
theorem text_neg {n : Nat} (h : n ≠ 0) : (PySem.Str.ofString (toString (-((n : Nat) : Int)))).cps.toList = 45 :: (Nat.toDigits 10 n).map Char.toNat := by
  obtain ⟨k, rfl⟩ := Nat.exists_eq_succ_of_ne_zero h
  rw [PyProof.Rows.signs_ofString]
  show ("-" ++ Nat.repr (k + 1)).toList.map Char.toNat = _
  rw [String.toList_append, List.map_append, Nat.toList_repr]
  rfl
theorem number_eq {t : PySem.Str} (g : Good t) (hl : t.length ≤ 100) : numberFn t = (PySem.intText? t).map fun n => PySem.Str.ofString (toString n) := by
  have e1 : numTextOf t = t.cps.toList := by
    refine if_pos ?_
    rw [← Array.all_toList, List.all_eq_true]
    intro c hc
    have := g c hc
    exact decide_eq_true (by omega)
  have e2 : numSeenOf t = t.cps.toList := by
    show (numTextOf t).takeWhile _ = _
    rw [e1]
    refine PySem.NumText.takeWhile_all fun c hc => ?_
    have := g c hc
    exact bne_iff_ne.mpr (by omega)
  have hs : ∀ c r, t.cps.toList.dropWhile blank = c :: r → blank c = false := fun c r e => head_dropWhile e
  have e3 : PySem.intText? t = match digits? 10 (core t.cps.toList) with
      | some ds => if ds.size ≤ 4300 then some (worth (sign (t.cps.toList.dropWhile blank)).1 ds) else none
      | none => none := by
    unfold PySem.intText?
    rw [e1, e2]
    exact if_pos (beq_self_eq_true _)
  have e4 : core t.cps.toList = rdrop blank (sign (t.cps.toList.dropWhile blank)).2 := rfl
  have hcl : (core t.cps.toList).length ≤ 100 := by
    have := PySem.NumText.core_length t.cps.toList
    have e : t.cps.toList.length = t.length := Array.length_toList
    omega
  obtain ⟨e5, e6⟩ := sgn_eq hs
  unfold numberFn numberL
  rw [e3, strip_good g, e5, e6, ← e4]
  generalize core t.cps.toList = r at *
  generalize (sign (t.cps.toList.dropWhile blank)).1 = neg at *
  rcases fold_rel r [] 95 #[] false ⟨rfl, ⟨fun e => (by cases e), fun e => absurd rfl e⟩, fun c hc => (by cases hc), fun e => (by cases e)⟩ with ⟨h1, h2⟩ | ⟨gs, k, es, b', h1, h2, R⟩
  · rw [h1]
    unfold digits?
    rw [h2]; rfl
  · have hes : es.size ≤ 4300 := by
      have := PySem.NumText.foldl_size r h2
      simp only [Array.size_empty] at this
      omega
    rw [h1]
    unfold digits?
    rw [h2]
    cases b' with
    | false =>
      have hk : k = 95 := by
        by_cases e : k = 95
        · exact e
        · exact absurd (R.last.mpr e) (by decide)
      subst hk
      rfl
    | true =>
      have hk : ¬ k = 95 := R.last.mp rfl
      have hne := R.some rfl
      show ((if k = 95 then none else if strip0 gs = [48] then some [48] else some ((if neg = true then [45] else []) ++ strip0 gs)).map fun l => (⟨l.toArray⟩ : PySem.Str)) = Option.map _ (if es.size ≤ 4300 then some (worth neg es) else none)
      rw [if_neg hk, if_pos hes]
      unfold worth
      rw [val_eq R.same]
      have hz := strip0_zero R.all hne
      have hn := num_text R.all hne
      by_cases h0 : strip0 gs = [48]
      · rw [if_pos h0, hz.mp h0]
        cases neg <;> exact congrArg some (str_ext (by decide))
      · rw [if_neg h0]
        have hv : digitsVal gs ≠ 0 := fun e => h0 (hz.mpr e)
        cases neg with
        | true =>
          refine congrArg some (str_ext ?_)
          rw [if_pos rfl, if_pos rfl, text_neg hv, hn]; rfl
        | false =>
          refine congrArg some (str_ext ?_)
          rw [if_neg (by decide), if_neg (by decide), text_pos, hn]; rfl
end Mine
end
section
open PySem PySem.W PySem.Calls PyProof.Rows
set_option maxRecDepth 100000
set_option maxHeartbeats 8000000
namespace Mine
theorem vtexts_eq (t b : PySem.Str) : vtexts t b = nparts t b := by
  unfold vtexts nparts
  rw [split_eq]
theorem nparts_good {t b p : PySem.Str} (gt : Good t) (gb : Good b) (h : p ∈ nparts t b) : Good p := by
  unfold nparts at h
  rcases List.mem_append.mp h with h | h
  · exact fun c hc => gt c (dparts_signs h c hc)
  · split at h
    · cases h
    · rw [List.mem_singleton.mp h]; exact gb
theorem strInts_eq : ∀ {l : List PySem.Str}, (∀ p ∈ l, Good p ∧ p.length ≤ 100) → strInts l = allSome (l.map numberFn)
  | [], _ => rfl
  | x :: r, h => by
    have ih := strInts_eq fun p hp => h p (List.mem_cons_of_mem _ hp)
    have hx := h x List.mem_cons_self
    rw [List.map_cons, number_eq hx.1 hx.2]
    unfold strInts
    cases PySem.intText? x with
    | none => rfl
    | some n =>
      show (match strInts r with | none => none | some ys => some (PySem.Str.ofString (toString n) :: ys)) = _
      rw [ih]; rfl
theorem law_eq {t b : PySem.Str} (gt : Good t) (gb : Good b) (ht : t.length ≤ 100) (hb : b.length ≤ 100) : vstrs t b = nfinal t b := by
  unfold vstrs nfinal
  rw [vtexts_eq, strInts_eq fun p hp => ⟨nparts_good gt gb hp, nparts_short hp ht hb⟩]
  cases allSome ((nparts t b).map numberFn) <;> rfl
theorem texts_ok {t b : PySem.Str} (gt : Good t) (gb : Good b) (ht : t.length ≤ 100) (hb : b.length ≤ 100) : ∀ vs, StrsAre vs (vtexts t b) → Texts vs.toArray ∧ vs.length ≤ sizeLine := by
  intro vs h
  rw [vtexts_eq] at h
  refine ⟨fun i v hv => ?_, ?_⟩
  · obtain ⟨p, tp, rfl, hp⟩ := h.item i v (by simpa using hv)
    have hm := List.mem_of_getElem? hp
    refine ⟨p, tp, rfl, nparts_short hm ht hb, fun c hc => ?_⟩
    have := nparts_good gt gb hm c hc
    omega
  · have h1 := h.length
    have h2 := (nparts_len t b).2
    rw [sizeLine_eq]; omega
theorem sum_le : ∀ (l : List PySem.Str) (k : Nat), (∀ p ∈ l, p.length ≤ k) → (l.map (·.length)).sum ≤ l.length * k
  | [], _, _ => Nat.zero_le _
  | x :: r, k, h => by
    have h1 := h x List.mem_cons_self
    have h2 := sum_le r k fun p hp => h p (List.mem_cons_of_mem _ hp)
    rw [List.map_cons, List.sum_cons, List.length_cons, Nat.succ_mul]
    omega
theorem strs_ok {t b : PySem.Str} (gt : Good t) (gb : Good b) (ht : t.length ≤ 100) (hb : b.length ≤ 100) : ∀ ws, StrsAre ws (vstrs t b) → (((vstrs t b).take 3).map (·.length)).sum + ((vstrs t b).take 3).length * (PySem.Str.ofString ".").length ≤ 16777216 ∧ ws.length ≤ sizeLine := by
  intro ws h
  rw [law_eq gt gb ht hb] at h ⊢
  have h3 : ((nfinal t b).take 3).length ≤ 3 := by simp; omega
  have hs := sum_le ((nfinal t b).take 3) 101 fun p hp => nfinal_short (List.mem_of_mem_take hp) ht hb
  have e1 : (PySem.Str.ofString ".").length = 1 := by decide
  refine ⟨?_, ?_⟩
  · rw [e1]; omega
  · have h1 := h.length
    rw [nfinal_len] at h1
    have h2 := (nparts_len t b).2
    rw [sizeLine_eq]; omega
end Mine
end
section
open PySem PySem.W PySem.Calls PyProof.Rows
set_option maxRecDepth 100000
set_option maxHeartbeats 8000000
namespace Mine
theorem norm_law {w : World} {s₀ : Shared} {mg mb : PySem.Str → Option Value} {A : Around} {cn : PySem.Str} {cs : Scope} {a : Addr} {ccd : Value} {h₀ : Heap} {L : Addr} {m : PySem.Str → Option Value} {news : List (Addr × Obj)} {s : Shared} {Q E : Value → Shared → Prop} {t b : PySem.Str} {u v : Tok} {args : List Value} (hargs : args = [.str t u, .str b v] ∨ (args = [.str t u] ∧ b = PySem.Str.ofString "" ∧ v = 189))
   (F : Fr h₀ L s.heap m) (KX : (Mine.hd.heap_39 w.params).In h₀) (N : News h₀ L s.heap news) (T : TopN s₀ mg mb h₀) (hA : A.frames = some [envOf cn cs L a ccd]) (hck : cs.kind = .function) (hh : A.handled = none)
   (hd : A.depth < recursionLimit) (gt : Good t) (gb : Good b) (ht : t.length ≤ 100) (hb : b.length ≤ 100)
   (hret : ∀ (tok : Tok) (h' : Heap) (tk' : Nat), Fr h₀ L h' m → News h₀ L h' news → Q (.str (Txt.join dot ((nfinal t b).take 3)) tok) { s with heap := h', toks := tk' }) :
   wpAny (model Challenge.rw_mg0077_01.row.prog w) A (call (.ref 22) args) Q E s := by
  refine norm_call hargs F KX N T hA hck hh hd ht hb (texts_ok gt gb ht hb) (strs_ok gt gb ht hb) (fun tok h' tk' F' N' => ?_)
  rw [law_eq gt gb ht hb]
  exact hret tok h' tk' F' N'
section
variable {prog : Program} {w : World} {A : Around} {E : Value → Shared → Prop} {s : Shared} {env : Env} {h₀ : Heap} {target : Expr} {body : List Stmt} {Q : Flow → Shared → Prop} {m : PySem.Str → Option Value} {news : List (Addr × Obj)}
/-- a loop over a list with any target -/
theorem iter_listT {l : Addr} {vs : List Value} (J : Nat → (PySem.Str → Option Value) → List (Addr × Obj) → Prop) (hh : A.handled = none) (hl : s.heap.IsList l vs.toArray) (hlL : l ≠ env.locals) (F : Fr h₀ env.locals s.heap m) (N : News h₀ env.locals s.heap news) (h0 : J 0 m news)
    (turn : ∀ i v m₁ news₁ own s₁, vs[i]? = some v → J i m₁ news₁ → (∀ p ∈ news₁, p.1 ≠ s.heap.objs.size) →
      Fr h₀ env.locals s₁.heap m₁ → News h₀ env.locals s₁.heap (own ++ news₁) →
      wpAny (model prog w) A (assign target env v) (fun _ s₃ => wpAny (model prog w) A (execs body env) (LoopStepU h₀ env.locals [s.heap.objs.size] own (J (i + 1)) s₁) E s₃) E s₁)
    (done : ∀ h tk m₁ news₁, Fr h₀ env.locals h m₁ → News h₀ env.locals h news₁ → J vs.length m₁ news₁ → Q .next { s with heap := h, toks := tk }) :
    wpAny (model prog w) A (pyIter (.ref l)) (fun it s₂ => LoopAtT prog w A h₀ env target body Q E it s₂) E s := by
  obtain ⟨ol, hol, _⟩ := id hl
  have hne : l ≠ s.heap.objs.size := Nat.ne_of_lt (Heap.lt_size hol)
  refine wpAny_pyIter_list hl ?_
  have W := Walks.list (prog := prog) (w := w) hh s.heap.objs.size l hne vs.toArray
  refine ⟨_, _, _, _, _, _, m, news, J, rfl, W, ?_, ?_, ?_, ⟨⟨_, Heap.get?_push_size _ rfl, rfl, rfl⟩, hl.at fun o e => Heap.get?_push_of_some _ e⟩, F.push _, (fun p hp => ⟨Heap.get?_push_of_some _ (N p hp).1, (N p hp).2⟩), (fun i s' v Q' st hQ' => letGo_listiter st.1 hQ'), h0, ?_, ?_⟩
  · intro hm
    rcases List.mem_cons.mp hm with e | hm
    · exact absurd F.ns.lt (e ▸ Nat.lt_irrefl _)
    · exact hlL (List.mem_singleton.mp hm).symm
  · intro b' hb
    rw [List.mem_singleton.mp hb]
    exact next_is_new F
  · intro p hp hI
    exact absurd (Heap.lt_size (N p hp).1) ((List.mem_singleton.mp hI) ▸ Nat.lt_irrefl _)
  · intro i v m₁ news₁ s₁ own hi hP hJ hoff hown _ _ _ F₁ N₁
    exact turn i v m₁ news₁ own s₁ (by simpa using hP) hJ (fun p hp e => hoff p hp (List.mem_singleton.mpr e)) F₁ N₁
  · intro h' tk m' news' F' N' _ hJ
    exact done h' tk m' news' F' N' (by simpa using hJ)
end
theorem lw : PySem.Challenge.rw_mg0077_01.Holds := Mine.hd (by
  k_go0
  rename_i w s₀ s₁ mg mb G Y fa o pm doc kV ho hg KX X V GL T B TE TW w9 w8 M w7 w6 hcd xs hs hlay0 hL1 hr1 hl2 w4 w3 S us w0 hL ra w1 r0 hI hr hcond1 hcond K0 hD h₁ F N0
  dsimp only at F N0 ⊢
  refine wpAny_execs_cons (For_invTF F ?_ (fun x => rfl))
  iterate 6 (first | walk1 | (dsimp only; walk1))
  refine ⟨KX.keeps F.keep, ?_⟩
  have hul : us.length ≤ 63 := by have := hI.length; omega
  refine texts_call (s₀ := s₀) (mg := mg) (mb := mb) (KX.keeps F.keep) (T.keeps F.keep) rfl (show callerA.depth + 1 < recursionLimit by decide) (hL.at fun o e => F.keep S o e) hI (by rw [sizeLine_eq]; omega) (fun X vs tups h₂ tk₂ kp hX hXl hvs htp => ?_)
  have F₂ := Fr.stays F kp
  obtain ⟨oL, _, _, hoL, _⟩ := id F.ns
  have hXL : X ≠ s₁.heap.objs.size := fun e => by rw [e] at hX; exact absurd (hoL.symm.trans hX) (by simp)
  have N₂ : News s₁.heap s₁.heap.objs.size h₂ tups := fun p hp => ⟨(htp p hp).2, fun e => by
    have := (htp p hp).1; rw [e] at this; exact absurd (hoL.symm.trans this) (by simp), by
      cases hq : s₁.heap.get? p.1 with
      | none => rfl
      | some o => have := F.keep _ _ hq; rw [(htp p hp).1] at this; cases this⟩
  refine iter_listT (J := fun i m₁ news₁ => news₁ = tups) rfl hXl ?_ F₂ N₂ rfl ?_ ?_
  · exact hXL
  · rintro i v m₁ news₁ own s₃ hv rfl hoff F₃ N₃
    obtain ⟨p, hp, a, b, ta, tb, rfl, ep, ga, gb, la, lb⟩ := hvs v (List.mem_of_getElem? hv)
    have hget : s₃.heap.get? p.1 = some (tup (.str a ta) (.str b tb)) := by rw [(N₃ p (List.mem_append_right _ hp)).1, ep]
    refine unpackN_ F₃ N₃ (items := #[.str a ta, .str b tb]) ⟨_, hget, rfl, _, rfl⟩ rfl rfl rfl (fun h₄ F₄ N₄ => ?_)
    clear F₂ N₂ F N0 F₃ N₃
    iterate 19 (first | walk1 | (dsimp only; walk1))
    (rename Fr _ _ _ _ => F₅); (rename News _ _ _ _ => N₅)
    clear F₄ N₄
    refine ⟨KX.keeps F₅.keep, ?_⟩
    refine norm_law (s₀ := s₀) (mg := mg) (mb := mb) (.inl rfl) F₅ KX N₅ T rfl rfl rfl (show callerA.depth + 1 < recursionLimit by decide) ga gb (by omega) (by omega) (fun tok h₆ tk₆ F₆ N₆ => ?_)
    clear F₅ N₅
    iterate 8 (first | walk1 | (dsimp only; walk1))
    refine ⟨KX.keeps F₆.keep, ?_⟩
    refine normed_call (s₀ := s₀) (mg := mg) (mb := mb) (KX.keeps F₆.keep) (T.keeps F₆.keep) rfl (show callerA.depth + 1 + 1 < recursionLimit by decide) (by omega) (by omega) (fun tok' h₇ tk₇ kp₇ => ?_)
    have F₇ := Fr.stays F₆ kp₇
    have N₇ := News.stays N₆ kp₇
    clear F₆ N₆ kp₇
    iterate 2 (first | walk1 | (dsimp only; walk1))
    rw [if_neg (by simp)]
    have l08 : (PySem.Str.ofString "08").length = 2 := by decide
    have g08 : Good (a ++ PySem.Str.ofString "08") := ga.app (by decide)
    have ll : (a ++ PySem.Str.ofString "08").length ≤ 100 := by rw [PySem.Str.length_append, l08]; omega
    iterate 11 (first | walk1 | (dsimp only; walk1))
    refine PyProof.Rows.add_str (fun t₈ k₈ => ?_) (by rw [sizeLine_eq, l08]; show a.length + 2 ≤ 16777216; omega)
    iterate 1 (first | walk1 | (dsimp only; walk1))
    refine ⟨KX.keeps F₇.keep, ?_⟩
    refine norm_law (s₀ := s₀) (mg := mg) (mb := mb) (b := PySem.Str.ofString "") (v := 189) (.inr ⟨rfl, rfl, rfl⟩) F₇ KX N₇ T rfl rfl rfl (show callerA.depth + 1 < recursionLimit by decide) g08 (by decide) ll (by decide) (fun tok₂ h₈ tk₈ F₈ N₈ => ?_)
    clear F₇ N₇
    iterate 7 (first | walk1 | (dsimp only; walk1))
    refine PyProof.Rows.add_str (fun t₉ k₉ => ?_) (by rw [sizeLine_eq, l08]; show a.length + 2 ≤ 16777216; omega)
    iterate 3 (first | walk1 | (dsimp only; walk1))
    refine ⟨KX.keeps F₈.keep, ?_⟩
    refine normed_call (s₀ := s₀) (mg := mg) (mb := mb) (KX.keeps F₈.keep) (T.keeps F₈.keep) rfl (show callerA.depth + 1 + 1 < recursionLimit by decide) ll (by decide) (fun tok₃ h₉ tk₉ kp₉ => ?_)
    have F₉ := Fr.stays F₈ kp₉
    have N₉ := News.stays N₈ kp₉
    clear F₈ N₈ kp₉
    iterate 2 (first | walk1 | (dsimp only; walk1))
    rw [if_neg (by simp)]
    refine wpAny_execs_nil (wpAny_execs_nil (LoopStepU.intro F₉ N₉ (fun p hp => ?_) rfl))
    rw [List.mem_singleton]
    exact hoff p hp
  · rintro h₃ tk₃ m₃ news₃ F₃ N₃ rfl
    clear F₂ N₂ F N0
    k_steps)
end Mine
end
set_option maxRecDepth 100000 in
set_option maxHeartbeats 8000000 in
theorem PySem.Challenge.cw_mg0077_01_holds : PySem.Challenge.rw_mg0077_01.Holds := by
  exact Mine.lw
