import PyProof.Rows.All
import Wide.All
import OpenK.AllK
import Wide.FinOn
import PySem.Challenge.RW_sr0056_01
set_option Elab.async false
set_option linter.all false
local macro_rules | `(tactic| ktr_room) => `(tactic| k_extra "ktr_room")
local macro_rules | `(tactic| ktr_units) => `(tactic| k_extra "ktr_units")
local macro_rules | `(tactic| units_room) => `(tactic| k_extra "units_room")
local macro_rules | `(tactic| k_room) => `(tactic| k_extra "k_room")
local macro_rules | `(tactic| k_units) => `(tactic| k_extra "k_units")
local macro_rules | `(tactic| k_mem) => `(tactic| k_extra "k_mem")
local macro_rules | `(tactic| k_all) => `(tactic| k_extra "k_all")
local macro_rules | `(tactic| k_inst) => `(tactic| k_extra "k_inst")
local macro_rules | `(tactic| is_list) => `(tactic| k_extra "is_list")
local macro_rules | `(tactic| kn_code) => `(tactic| k_extra "kn_code")
local macro_rules | `(tactic| walk_at $s:str) => `(tactic| k_extra $s)
section
open PySem PySem.W PyProof.Rows
set_option Elab.async false
set_option maxRecDepth 100000
set_option maxHeartbeats 8000000
namespace SR
-- K's heap alone (SR.hm.heap_1): the head's two questions are answered by an absurd premise
theorem rows_SRtop : True := by
  k_with_none
  k_with "oh" => (exact ohF.elim)
  k_with "ol" => (refine holds_law ohF.elim fun said => ?_)
  trivial
local macro_rules | `(tactic| o_head $_) => `(tactic| k_extra "oh")
local macro_rules | `(tactic| o_law) => `(tactic| k_extra "ol")
theorem hm (ohF : False) : PySem.Challenge.rw_sr0056_01.Holds := by
  (w_on; o_law; k_head)
end SR
end
section
open PySem PySem.W PyProof.Rows PySem.Calls PySem.Spec
set_option Elab.async false
set_option maxRecDepth 100000
namespace SR
noncomputable abbrev Led := List (Addr × Obj)
noncomputable abbrev accO (d : Addr) (vs : List Value) (ep : Nat) : Obj := { cls := .ref 180, dict := some d, data := .seq vs.toArray ep }
noncomputable abbrev accD (hsh : Int) (tk tk' : Tok) : Obj := dictOf [⟨hsh, .str (Str.ofString "_initial_size") tk, .int 0 tk'⟩] 1

section
variable {prog : Program} {w : World} {A : Around} {E : Value → Shared → Prop} {s : Shared} {K : Frag} {h₀ : Heap} {L x C : Addr} {m : Str → Option Value} {news : Led} {ox : Obj} {od : Option Obj} {name : Str}

/-- a method met on an object of a class below a built-in one: what the lookup gives is a def's or a built-in's -/
theorem method_any {f : Value} {ga : String} {pl : Sem Bool} {Q : Value × List Value → Shared → Prop} (X : K.In s.heap) (I : InstAt s.heap x ox C od) (hga : findIn K (.ref C) "__getattribute__" = some (some (.builtin ga))) (hcan : (Manifest.canonical ga != "object.__getattribute__") = false) (hk : findIn K (.ref C) "__getattr__" = some none)
    (hf : findIn K (.ref C) name = some (some f)) (ht : typeIn K f = some (.type "function") ∨ typeIn K f = some (.type "method_descriptor") ∨ typeIn K f = some (.type "wrapper_descriptor")) (hs : shadowIn od name = some false) (h : Q (f, [.ref x]) s) :
    wpAny (model prog w) A (getMethod (.ref x) name pl) Q E s := by
  unfold getMethod specialOf
  refine wpAny_bind (wpAny_bind (I.type.here ((looks_findIn X hga).here ?_)))
  dsimp only
  rw [hcan, if_neg (by decide)]
  refine wpAny_bind (wpAny_bind (I.type.here ((looks_findIn X hk).here ?_)))
  refine wpAny_bind (wpAny_bind (I.type.here ((looks_findIn X hf).here ?_)))
  obtain ⟨T, hT, hT2⟩ : ∃ T, typeIn K f = some (.type T) ∧ (T = "function" ∨ T = "method_descriptor" ∨ T = "wrapper_descriptor") := by
    rcases ht with ht | ht | ht
    · exact ⟨_, ht, .inl rfl⟩
    · exact ⟨_, ht, .inr (.inl rfl)⟩
    · exact ⟨_, ht, .inr (.inr rfl)⟩
  refine wpAny_bind ((looks_typeIn X hT).here ?_)
  rw [if_neg (by rcases hT2 with rfl | rfl | rfl <;> decide +kernel)]
  refine wpAny_bind (wpAny_loadPart I.at_ ?_)
  have hd := I.dict
  cases e : ox.dict with
  | none => exact wpAny_bind (wpAny_rule (wpAny_pure h))
  | some dx =>
    cases od with
    | none => rw [e] at hd; exact hd.elim
    | some o =>
      rw [e] at hd
      obtain ⟨r, a, b⟩ := Option.map_eq_some_iff.mp hs
      refine wpAny_bind (wpAny_bind (wpAny_loadPart hd ?_))
      rw [nsLook_of a]
      refine wpAny_pure ?_
      rw [b]
      exact wpAny_bind (wpAny_rule (wpAny_pure h))

/-- the look at the first argument, for an object of a class below the built-in one -/
theorem check_sub {M : Model} {i owner n : String} {self : Value} {rest : List Value} {kw : List (Str × Value)} {Q : Unit → Shared → Prop}
    (hk : builtinKind i = some .slot ∨ builtinKind i = some .method) (hs : splitId i = some (owner, n)) (hi : Looks M s.heap (isInstance self (.type owner)) true) (ha : argsOk i ⟨self :: rest, kw⟩) (q : Q () s) :
    wpAny M A (checkBuiltinCall i ⟨self :: rest, kw⟩) Q E s := by
  rcases hk with hk | hk <;>
  · simp only [checkBuiltinCall, hk, hs]
    refine wpAny_bind (hi.here ?_)
    simp only [Bool.not_true, Bool.false_eq_true, if_false]
    cases hsig : Manifest.signature? i with
    | none => exact wpAny_pure q
    | some sig =>
      simp only [argsOk, hsig] at ha
      have h2 : Bind.checkArgs i sig ⟨self :: rest, kw⟩ = pure () := ha
      show wpAny M A (Bind.checkArgs i sig ⟨self :: rest, kw⟩) Q E s
      rw [h2]; exact wpAny_pure q

theorem call_sub {id owner n : String} {b : Builtin} {self : Value} {rest : List Value} {Q : Value → Shared → Prop} (hp : plainId id = true) (hb : entryFor table id = some b) (hk : builtinKind id = some .slot ∨ builtinKind id = some .method) (hs : splitId id = some (owner, n))
    (hi : Looks (model prog w) s.heap (isInstance self (.type owner)) true) (ha : argsOk id ⟨self :: rest, []⟩)
    (hc : wpAny (model prog w) A.in1 (b ⟨self :: rest, []⟩) (fun fin s' => ∃ v, fin = .done (.ret v) ∧ Q v s') E s) :
    wpAny (model prog w) A (call (.builtin id) (self :: rest)) Q E s := by
  refine wpAny_call (codeAny_call_builtin hp hb (check_sub hk hs hi ha (wpAny_mono hc (fun fin s' h' => ?_) fun _ _ h' => h')))
  obtain ⟨v, rfl, hv⟩ := h'; exact hv

theorem kind_append : builtinKind "list.append" = some .method := by decide +kernel
theorem split_append : splitId "list.append" = some ("list", "append") := by decide +kernel
theorem kind_len : builtinKind "list.__len__" = some .slot := by decide +kernel
theorem split_len : splitId "list.__len__" = some ("list", "__len__") := by decide +kernel
theorem kind_init : builtinKind "list.__init__" = some .slot := by decide +kernel
theorem split_init : splitId "list.__init__" = some ("list", "__init__") := by decide +kernel
theorem kind_getitem : builtinKind "list.__getitem__" = some .method := by decide +kernel
theorem split_getitem : splitId "list.__getitem__" = some ("list", "__getitem__") := by decide +kernel
theorem kind_setitem : builtinKind "list.__setitem__" = some .slot := by decide +kernel
theorem split_setitem : splitId "list.__setitem__" = some ("list", "__setitem__") := by decide +kernel
theorem kind_iter : builtinKind "list.__iter__" = some .slot := by decide +kernel
theorem split_iter : splitId "list.__iter__" = some ("list", "__iter__") := by decide +kernel

theorem sub_append {d : Addr} {vs : List Value} {ep : Nat} {v : Value} {Q : Value → Shared → Prop} (ho : s.heap.get? x = some (accO d vs ep)) (hi : Looks (model prog w) s.heap (isInstance (.ref x) (.type "list")) true)
    (h : ∀ h', Heap.SameBut x s.heap h' → h'.get? x = some (accO d (vs ++ [v]) (ep + 1)) → Q .none { s with heap := h' }) (hsz : vs.length ≤ sizeLine) : wpAny (model prog w) A (call (.builtin "list.append") [.ref x, v]) Q E s := by
  refine call_sub PySem.slot_list_append.plain PySem.entry_list_append (.inr kind_append) split_append hi (PySem.args_list_append _ _) ?_
  show wpAny _ _ (updateSeq x (·.push v) >>= fun _ => ret .none) _ _ s
  refine wpAny_bind ?_
  refine wpAny_updateSeq ho rfl (wpAny_pure ⟨.none, rfl, h _ (Heap.SameBut.update ..) ?_⟩) (by simpa using hsz) (by simp; omega)
  have e : Obj.mapSeq (·.push v) (accO d vs ep) = accO d (vs ++ [v]) (ep + 1) := by
    simp [Obj.mapSeq, accO]
  rw [Heap.get?_update_self _ ho (by rw [e]; rfl), e]
end
end SR
end
section
open PySem PySem.W PyProof.Rows PySem.Calls PySem.Spec
set_option Elab.async false
set_option maxRecDepth 100000
namespace SR
noncomputable def ledPut (x : Addr) (o : Obj) (news : Led) : Led := (x, o) :: news.filter fun p => p.1 != x
theorem mem_ledPut {x : Addr} {o : Obj} {news : Led} {p : Addr × Obj} (h : p ∈ news) (hn : p.1 ≠ x) : p ∈ ledPut x o news :=
  List.mem_cons_of_mem _ (List.mem_filter.mpr ⟨h, by simpa using hn⟩)
theorem of_ledPut {x : Addr} {o : Obj} {news : Led} {p : Addr × Obj} (h : p ∈ ledPut x o news) : p = (x, o) ∨ (p ∈ news ∧ p.1 ≠ x) := by
  rcases List.mem_cons.mp h with h | h
  · exact .inl h
  · obtain ⟨h1, h2⟩ := List.mem_filter.mp h
    exact .inr ⟨h1, by simpa using h2⟩
theorem News.put {h₀ h h' : Heap} {L x : Addr} {o o' : Obj} {news : Led} (N : News h₀ L h news) (hx : (x, o) ∈ news) (hs : Heap.SameBut x h h') (ho : h'.get? x = some o') : News h₀ L h' (ledPut x o' news) := by
  intro p hp
  rcases of_ledPut hp with rfl | ⟨hp, hn⟩
  · exact ⟨ho, (N _ hx).2.1, (N _ hx).2.2⟩
  · exact ⟨(hs.2 _ hn).trans (N p hp).1, (N p hp).2⟩

noncomputable abbrev Pm : Program := PySem.Challenge.rw_sr0056_01.row.prog

/-- what a call of the def at f tells, whatever stands around it -/
noncomputable abbrev Tell (w : World) (f : Addr) (vs : List Value) (dpt unt : Nat) (news : Led) (Post : Value → Led → Prop) : Prop :=
  ∀ (p : Program) (loose : List Str) (mean : ExcName → Option Value) (mg mb : Str → Option Value) (dp un : Nat) (gd : Option (List Code)) (cn : Str) (cs : Scope) (a : Addr) (ccd : Value) (cl : List (Str × Addr)) (outer : List Env) (A₀ : Around) (base h₀ : Heap) (L : Addr) (m : Str → Option Value) (s : Shared)
    (Q E : Value → Shared → Prop),
    Below A₀ base outer h₀ → Fr h₀ L s.heap m → (hm.heap_1 w.params).In h₀ → News h₀ L s.heap news → Top p loose mean mg mb h₀ → cs.kind = .function → AllBare s.gens → dp + dpt < recursionLimit → un + unt < cLine →
    (∀ r news' h' tk' g', Fr h₀ L h' m → News h₀ L h' news' → AllBare g' → Post r news' → Q r { s with heap := h', toks := tk', gens := g' }) →
    wpAny (model PySem.Challenge.rw_sr0056_01.row.prog w) (ktrTop dp un gd cn cs L a ccd cl outer) (call (.ref f) vs) Q E s

theorem acc_inst {h₀ h : Heap} {L x d : Addr} {news : Led} {vs : List Value} {ep : Nat} {od : Obj} (N : News h₀ L h news) (h1 : (x, accO d vs ep) ∈ news) (h2 : (d, od) ∈ news) : InstAt h x (accO d vs ep) 180 (some od) :=
  ⟨(N _ h1).1, rfl, rfl, (N _ h2).1⟩
section
variable {prog : Program} {w : World} {A : Around} {E : Value → Shared → Prop} {s : Shared} {K : Frag} {h₀ : Heap} {L x C : Addr} {m : Str → Option Value} {news : Led} {ox : Obj} {od : Obj} {es : List DictEntry} {n : Nat} {name : Str}
theorem method_anyK {f : Value} {ga : String} {pl : Sem Bool} {Q : Value × List Value → Shared → Prop} (F : Fr h₀ L s.heap m) (X₀ : K.In h₀) (I : InstAt s.heap x ox C (some (dictOf es n))) (hga : findIn K (.ref C) "__getattribute__" = some (some (.builtin ga))) (hcan : (Manifest.canonical ga != "object.__getattribute__") = false) (hk : findIn K (.ref C) "__getattr__" = some none)
    (hf : findIn K (.ref C) name = some (some f)) (ht : typeIn K f = some (.type "function") ∨ typeIn K f = some (.type "method_descriptor") ∨ typeIn K f = some (.type "wrapper_descriptor")) (hl : getL name es = some none) (h : Q (f, [.ref x]) s) :
    wpAny (model prog w) A (getMethod (.ref x) name pl) Q E s :=
  method_any (X₀.keeps F.keep) I hga hcan hk hf ht (by show (lookIn name (dictOf es n)).map _ = _; rw [lookIn_dict, hl]; rfl) h

theorem append_acc {d : Addr} {vs : List Value} {ep : Nat} {v : Value} {Q : Value → Shared → Prop} (F : Fr h₀ L s.heap m) (X₀ : K.In h₀) (N : News h₀ L s.heap news) (hx : (x, accO d vs ep) ∈ news) (hm : mroIn K 180 (.type "list") = some true) (hsz : vs.length ≤ sizeLine)
    (h : ∀ h', Fr h₀ L h' m → News h₀ L h' (ledPut x (accO d (vs ++ [v]) (ep + 1)) news) → Q .none { s with heap := h' }) : wpAny (model prog w) A (call (.builtin "list.append") [.ref x, v]) Q E s := by
  have z := N _ hx
  have hi : Looks (model prog w) s.heap (isInstance (.ref x) (.type "list")) true := (show Looks (model prog w) s.heap (typeOf (.ref x)) (.ref 180) from (Looks.ld z.1).andThen .now).andThen (looks_mroIn (X₀.keeps F.keep) hm)
  refine sub_append z.1 hi (fun h' hs ho => h h' (F.change hs z.2.1 z.2.2) (News.put N hx hs ho)) hsz
end
theorem m_let {α : Type} {M : Model} {A : Around} {T : Sem α} {Q : α → Shared → Prop} {E : Value → Shared → Prop} {S : Shared} {h₀ : Heap} {L : Addr} {m : Str → Option Value}
    (F : Fr h₀ L S.heap m) (H : let m' := m; Fr h₀ L S.heap m' → wpAny M A T Q E S) : wpAny M A T Q E S := H F
theorem m_is {α : Type} {M : Model} {A : Around} {T : Sem α} {Q : α → Shared → Prop} {E : Value → Shared → Prop} {S : Shared} {h₀ : Heap} {L : Addr} {m : Str → Option Value}
    (_F : Fr h₀ L S.heap m) (H : wpAny M A T Q E S) : wpAny M A T Q E S := H
theorem a_let {α : Type} {M : Model} {A : Around} {T : Sem α} {Q : α → Shared → Prop} {E : Value → Shared → Prop} {S : Shared}
    (H : let A' := A; wpAny M A' T Q E S) : wpAny M A T Q E S := H
theorem tok_all {α : Type} {M : Model} {A : Around} {T : Sem α} {Q : α → Shared → Prop} {E : Value → Shared → Prop} {S : Shared}
    (H : ∀ tk, wpAny M A T Q E ⟨S.heap, S.gens, S.drawn, tk, S.os⟩) : wpAny M A T Q E S := H S.toks
theorem room_k {dp n k lim : Nat} (hd : dp + n < lim) (h : k ≤ n) : dp + k < lim := Nat.lt_of_le_of_lt (Nat.add_le_add_left h dp) hd
theorem unit_k {un n a c k lim : Nat} (hu : un + n < lim) (h : a = un + k) (le : k + c ≤ n) : a + c < lim := by
  subst h; rw [Nat.add_assoc]; exact room_k hu le
end SR
end
section
open PySem PySem.W PyProof.Rows PySem.Calls PySem.Spec
set_option Elab.async false
set_option maxRecDepth 100000
namespace SR
noncomputable abbrev mwO (id : String) (x : Addr) : Obj := { cls := .type "method-wrapper", data := .fields #[.builtin id, .ref x] }
theorem slot_wget : Slot "wrapper_descriptor" "__get__" "wrapper_descriptor.__get__" :=
  .of (owner := "wrapper_descriptor") (n := "__get__") (by rw [typeLookup_type, builtinLookup_eq_fast]; kernel_rfl) (by decide +kernel) (by decide +kernel) (by decide +kernel)
    (by first | exact .inl (by decide +kernel) | exact .inr (by decide +kernel)) (by rw [isSubtype_type]; kernel_rfl)
theorem entry_wget : entryFor table "wrapper_descriptor.__get__" = some Builtin.«wrapper_descriptor.__get__» := entryFor_of_tree (by kernel_rfl)
theorem args_wget (a b c : Value) : argsOk "wrapper_descriptor.__get__" ⟨[a, b, c], []⟩ := by unfold argsOk; kernel_rfl
theorem type_wlen : typeOf (.builtin "list.__len__") = pure (.type "wrapper_descriptor") := by show builtinType _ = _; rw [builtinType_eq_fast]; kernel_rfl
theorem type_winit : typeOf (.builtin "list.__init__") = pure (.type "wrapper_descriptor") := by show builtinType _ = _; rw [builtinType_eq_fast]; kernel_rfl
section
variable {prog : Program} {w : World} {M : Model} {A : Around} {E : Value → Shared → Prop} {s : Shared} {x C : Addr}
theorem run_wlen {P : Fin → Shared → Prop} (hi : Looks M s.heap (isInstance (.ref x) (.type "list")) true) (h : P (.done (.ret (.ref s.heap.objs.size))) { s with heap := s.heap.push (mwO "list.__len__" x) }) :
    wpAny M A (Builtin.«wrapper_descriptor.__get__» ⟨[.builtin "list.__len__", .ref x, .ref C], []⟩) P E s := by
  unfold Builtin.«wrapper_descriptor.__get__»
  refine wpAny_bind (wpAny_of_eq (a := (.builtin "list.__len__", some (.ref x), some (.ref C))) (by first | rfl | kernel_rfl) ?_)
  refine wpAny_bind ?_
  refine wpAny_bind (wpAny_of_eq (a := (Str.ofString "__len__", .type "list")) (by first | kernel_rfl | rfl) ?_)
  refine wpAny_bind (hi.here ?_)
  refine KFB.if_not rfl ?_
  exact wpAny_pure (wpAny_bind (wpAny_newObj_type (wpAny_pure h)))
theorem run_winit {P : Fin → Shared → Prop} (hi : Looks M s.heap (isInstance (.ref x) (.type "list")) true) (h : P (.done (.ret (.ref s.heap.objs.size))) { s with heap := s.heap.push (mwO "list.__init__" x) }) :
    wpAny M A (Builtin.«wrapper_descriptor.__get__» ⟨[.builtin "list.__init__", .ref x, .ref C], []⟩) P E s := by
  unfold Builtin.«wrapper_descriptor.__get__»
  refine wpAny_bind (wpAny_of_eq (a := (.builtin "list.__init__", some (.ref x), some (.ref C))) (by first | rfl | kernel_rfl) ?_)
  refine wpAny_bind ?_
  refine wpAny_bind (wpAny_of_eq (a := (Str.ofString "__init__", .type "list")) (by first | kernel_rfl | rfl) ?_)
  refine wpAny_bind (hi.here ?_)
  refine KFB.if_not rfl ?_
  exact wpAny_pure (wpAny_bind (wpAny_newObj_type (wpAny_pure h)))

theorem super_ga_bi {id : String} {h : Heap} {g : Array GenState} {d : Drawn} {t : Nat} {os : OsState} {so D : Addr} {l₀ l : List Value} {K : Frag} {name : Str} {tk : Tok} {Q : Fin → Shared → Prop}
    (hso : h.get? so = some { cls := .type "super", dict := none, data := .fields #[.ref D, .ref x, .ref C], slots := #[] }) (hno : Looks (model prog w) h (opaqueClassAbove (.ref C)) none)
    (hC : Looks (model prog w) h (mroOf (.ref C)) l₀) (hl : (l₀.dropWhile (· != .ref D)).drop 1 = l) (X : K.In h)
    (hf : alongIn K name l = some (some (.builtin id))) (htd : typeOf (.builtin id) = pure (.type "wrapper_descriptor")) (hxC : x ≠ C) (hn : (name == ("__class__" : Str)) = false)
    (hrun : ∀ {A : Around} {P : Fin → Shared → Prop} {E : Value → Shared → Prop}, P (.done (.ret (.ref h.objs.size))) ⟨h.push (mwO id x), g, d, t, os⟩ → wpAny (model prog w) A (Builtin.«wrapper_descriptor.__get__» ⟨[.builtin id, .ref x, .ref C], []⟩) P E ⟨h, g, d, t, os⟩)
    (hq : Q (.done (.ret (.ref h.objs.size))) ⟨h.push (mwO id x), g, d, t, os⟩) :
    wpAny (model prog w) A (Builtin.«super.__getattribute__» ⟨[.ref so, .str name tk], []⟩) Q E ⟨h, g, d, t, os⟩ := by
  have hlk := slot_wget.lookup
  have hne : (Value.ref x == Value.ref C) = false := by simp [hxC]
  have hTf : (⟨h, g, d, t, os⟩ : Shared).TypeIs (.builtin id) "wrapper_descriptor" := htd
  have hdt : ({ cls := .type "super", dict := none, data := .fields #[.ref D, .ref x, .ref C], slots := #[] } : Obj).data = .fields #[.ref D, .ref x, .ref C] := rfl
  have f0 : (#[.ref D, .ref x, .ref C] : Array Value)[0]? = some (.ref D) := rfl
  have f1 : (#[.ref D, .ref x, .ref C] : Array Value)[1]? = some (.ref x) := rfl
  have f2 : (#[.ref D, .ref x, .ref C] : Array Value)[2]? = some (.ref C) := rfl
  unfold Builtin.«super.__getattribute__»
  repeat (first
    | (with_reducible refine wpAny_field hso hdt f0 ?_) | (with_reducible refine wpAny_field hso hdt f1 ?_) | (with_reducible refine wpAny_field hso hdt f2 ?_)
    | (with_reducible refine ks_wpAny_notOpaque hno ?_)
    | (with_reducible refine Looks.at hC ?_; rw [hl])
    | (refine ks_forIn_along X (fun _ _ => rfl) rfl ?_ hf)
    | (with_reducible refine wpAny_typeOf hTf ?_)
    | (with_reducible refine wpAny_call_entry slot_wget hTf entry_wget ?_ (args_wget _ _ _))
    | (with_reducible refine hrun ?_)
    | (with_reducible refine ⟨_, rfl, ?_⟩)
    | (simp only [hn, hne, Bool.or_false, Bool.false_eq_true, if_false])
    | wp_step
    | dsimp only)
  all_goals exact hq

theorem super_method_bi {id : String} {h : Heap} {g : Array GenState} {d : Drawn} {t : Nat} {os : OsState} {so D : Addr} {l₀ l : List Value} {K : Frag} {name : Str} {pl : Sem Bool} {Q : Value × List Value → Shared → Prop}
    (hso : h.get? so = some { cls := .type "super", dict := none, data := .fields #[.ref D, .ref x, .ref C], slots := #[] }) (hno : Looks (model prog w) h (opaqueClassAbove (.ref C)) none)
    (hC : Looks (model prog w) h (mroOf (.ref C)) l₀) (hl : (l₀.dropWhile (· != .ref D)).drop 1 = l) (X : K.In h)
    (hf : alongIn K name l = some (some (.builtin id))) (htd : typeOf (.builtin id) = pure (.type "wrapper_descriptor")) (hxC : x ≠ C) (hn : (name == ("__class__" : Str)) = false)
    (hrun : ∀ {t : Nat} {A : Around} {P : Fin → Shared → Prop} {E : Value → Shared → Prop}, P (.done (.ret (.ref h.objs.size))) ⟨h.push (mwO id x), g, d, t, os⟩ → wpAny (model prog w) A (Builtin.«wrapper_descriptor.__get__» ⟨[.builtin id, .ref x, .ref C], []⟩) P E ⟨h, g, d, t, os⟩)
    (hq : Q (.ref h.objs.size, []) ⟨h.push (mwO id x), g, d, t + 1, os⟩) :
    wpAny (model prog w) A (getMethod (.ref so) name pl) Q E ⟨h, g, d, t, os⟩ := by
  have hlk := F.ks_slot_super_ga.lookup
  have hcan := F.ks_canon_super_ga
  have hT : ∀ t', (⟨h, g, d, t', os⟩ : Shared).TypeIs (.ref so) "super" := fun _ => ⟨_, hso, rfl⟩
  unfold getMethod
  refine wpAny_bind (wpAny_specialOf (hT _) hlk ?_)
  show wpAny _ _ (if (Manifest.canonical "super.__getattribute__" != "object.__getattribute__") = true then _ else _) _ _ _
  rw [if_pos hcan]
  unfold getAttr getAttrBy
  refine wpAny_bind (wpAny_bind (wpAny_mkText (wpAny_holding (wpAny_bind (wpAny_typeOf (hT _) (wpAny_bind (wpAny_of_eq hlk ?_)))))))
  show wpAny _ _ (getAttrByItsOwn (.ref so) (.str name t) (.type "super") (.builtin "super.__getattribute__") true false) _ _ _
  unfold getAttrByItsOwn hookBefore callGetattribute boundAndCalled
  refine wpAny_bind (wpAny_of_eq (show (if onTheHeap (.type "super") then typeLookup (.type "super") "__getattr__" else pure none) = pure none from rfl) ?_)
  refine wpAny_bind (wpAny_attempt (wpAny_holding ?_))
  show wpAny _ _ (bindSpecial (.builtin "super.__getattribute__") (.ref so) >>= _) _ _ _
  refine wpAny_bind (wpAny_of_eq (F.ks_slot_super_ga.bind _) ?_)
  refine wpAny_mono (Q := fun v s' => v = .ref h.objs.size ∧ s' = ⟨h.push (mwO id x), g, d, t + 1, os⟩) (E := fun _ _ => False)
    (wpAny_call_entry F.ks_slot_super_ga (hT _) F.ks_entry_super_ga (super_ga_bi hso hno hC hl X hf htd hxC hn hrun ⟨_, rfl, rfl, rfl⟩) (F.ks_gaArgs_super _ _)) (fun v s' hv => ?_) fun _ _ z => z.elim
  obtain ⟨rfl, rfl⟩ := hv
  exact wpAny_pure (wpAny_pure hq)

theorem if_false_b {α : Type} {c : Bool} {a b : Sem α} {Q : α → Shared → Prop} (hc : c = false) (h : wpAny M A b Q E s) : wpAny M A (if c = true then a else b) Q E s := by
  subst hc; exact h
/-- a method-wrapper called -/
theorem call_mw {id : String} {y : Addr} {rest : List Value} {b : Builtin} {Q : Value → Shared → Prop} (hy : s.heap.get? y = some (mwO id x)) (hp : plainId id = true) (hb : entryFor table id = some b) (hcheck : ∀ Q E, Q () s → wpAny (model prog w) A.in1 (checkBoundCall id ⟨.ref x :: rest, []⟩) Q E s)
    (hc : wpAny (model prog w) A.in1 (b ⟨.ref x :: rest, []⟩) (fun fin s' => ∃ v, fin = .done (.ret v) ∧ Q v s') E s) : wpAny (model prog w) A (call (.ref y) rest) Q E s := by
  refine wpAny_call (codeAny_of_tree ?_)
  show wpAny _ A.in1 (callAny (.ref y) ⟨rest, []⟩) _ _ s
  simp only [callAny]
  refine wpAny_bind (wpAny_load hy ?_)
  simp only [show (Value.type "method-wrapper" == Value.type "method" || Value.type "method-wrapper" == Value.type "builtin_function_or_method" || Value.type "method-wrapper" == Value.type "method-wrapper") = true by decide, if_true]
  refine KFB.if_so (by decide) ?_
  refine wpAny_bind (hcheck _ _ ?_)
  refine wpAny_bind (wpAny_pure (wpAny_pure ?_))
  refine ⟨plainId_quiet hp _, codeAny_builtin hb ?_⟩
  rw [Around.under_plainId hp]
  refine wpAny_mono hc (fun fin s' h' => ?_) fun _ _ h' => h'
  obtain ⟨v, rfl, hv⟩ := h'; exact hv
theorem callWith_mw {pos : Pos} {u : Addr} {id : String} {first : List Value} {env : Env} {Q : Value → Shared → Prop} (hu : s.heap.get? u = some (mwO id x))
    (h : wpAny M A (call (.ref u) first) Q E s) : wpAny M A (callWith pos (.ref u) first (backTo pos (starEach [] env)) []) Q E s := by
  unfold callWith
  refine wpAny_bind (wpAny_holding (wpAny_of_eq (a := ⟨[], []⟩) rfl (wpAny_bind (wpAny_standAt ?_))))
  simp only [List.any_nil, Bool.or_false, List.append_nil]
  refine wpAny_bind (m := keeperOf (.ref u)) ?_
  unfold keeperOf
  refine wpAny_bind (wpAny_load hu ?_)
  simp only [show (Value.type "method-wrapper" != Value.type "method") = true by decide, show (Value.type "method-wrapper" == Value.type "builtin_function_or_method" || Value.type "method-wrapper" == Value.type "method-wrapper") = true by decide, if_true]
  refine wpAny_pure ?_
  exact wpAny_bind (wpAny_mono h (fun r s₂ hr => wpAny_bind (wpAny_holding (wpAny_point (wpAny_pure hr)))) fun _ _ x => x)

theorem check_blen (a : Value) : checkBoundCall "list.__len__" ⟨[a], []⟩ = pure () := by first | kernel_rfl | rfl
theorem check_binit (a : Value) : checkBoundCall "list.__init__" ⟨[a], []⟩ = pure () := by first | kernel_rfl | rfl
theorem run_len {d : Addr} {vs : List Value} {ep : Nat} {P : Fin → Shared → Prop} (hx : s.heap.get? x = some (accO d vs ep)) (h : P (.done (.ret (.int vs.length s.toks))) { s with toks := s.toks + 1 }) :
    wpAny M A (Builtin.«list.__len__» ⟨[.ref x], []⟩) P E s := by
  unfold Builtin.«list.__len__»
  refine wpAny_bind (wpAny_of_eq (a := (.ref x, [])) (by first | rfl | kernel_rfl) ?_)
  show wpAny _ _ (seqSize x >>= fun n => retInt n) _ _ _
  unfold seqSize
  refine wpAny_bind (wpAny_bind (wpAny_loadPart hx (wpAny_pure ?_)))
  show wpAny _ _ (mkInt (vs.toArray.size : Nat) >>= fun v => ret v) _ _ _
  rw [List.size_toArray]
  exact wpAny_bind (wpAny_mkInt' (wpAny_pure h))
theorem run_init0 {d : Addr} {ep : Nat} {P : Fin → Shared → Prop} (hx : s.heap.get? x = some (accO d [] ep)) (h : ∀ h', Heap.SameBut x s.heap h' → h'.get? x = some (accO d [] ep) → P (.done (.ret .none)) { s with heap := h' }) :
    wpAny M A (Builtin.«list.__init__» ⟨[.ref x], []⟩) P E s := by
  show wpAny M A (do let old ← Builtin.List.listItems (.ref x); Builtin.List.listUpdate (.ref x) (fun _ => #[]); letGo old.toList.reverse; ret .none) _ _ s
  refine wpAny_bind ?_
  unfold Builtin.List.listItems
  refine wpAny_bind (wpAny_seqItems hx rfl (wpAny_pure ?_))
  show wpAny M A (updateSeq x (fun _ => #[]) >>= fun _ => letGo (#[] : Array Value).toList.reverse >>= fun _ => ret .none) _ _ s
  refine wpAny_bind (wpAny_updateSeq hx rfl ?_)
  refine wpAny_bind (wpAny_letGo ?_)
  refine wpAny_pure (h _ (Heap.SameBut.update ..) ?_)
  have e : Obj.mapSeq (fun _ => (#[] : Array Value)) (accO d [] ep) = accO d [] ep := by simp [Obj.mapSeq, accO]
  rw [Heap.get?_update_self _ hx (by rw [e]; rfl), e]
end

section
variable {prog : Program} {w : World} {A : Around} {E : Value → Shared → Prop} {s : Shared} {K : Frag} {h₀ : Heap} {L x d so q : Addr} {m : Str → Option Value} {news : Led} {vs : List Value} {ep : Nat} {od : Obj}
theorem acc_isList {h : Heap} {L : Addr} {news : Led} {M : Model} (X : K.In h) (N : News h₀ L h news) (hx : (x, accO d vs ep) ∈ news) (hm : mroIn K 180 (.type "list") = some true) : Looks M h (isInstance (.ref x) (.type "list")) true :=
  (show Looks M h (typeOf (.ref x)) (.ref 180) from (Looks.ld (N _ hx).1).andThen .now).andThen (looks_mroIn X hm)

theorem superK {id : String} {name : Str} {pl : Sem Bool} {Q : Value × List Value → Shared → Prop} {cd : ClassData} (F : Fr h₀ L s.heap m) (X₀ : K.In h₀) (N : News h₀ L s.heap news) (hso : (so, ks_superObj 180 x 180) ∈ news) (I : InstAt s.heap x (accO d vs ep) 180 (some od)) (ho : nsIn K cStatics "thirdparty.any" = some none)
    (hc : clsIn K 180 = some cd) (hm : ks_superIn K 180 180 name = some (some (.builtin id))) (htd : typeOf (.builtin id) = pure (.type "wrapper_descriptor")) (hn : (name == ("__class__" : Str)) = false)
    (hrun : ∀ {t : Nat} {A : Around} {P : Fin → Shared → Prop} {E : Value → Shared → Prop}, P (.done (.ret (.ref s.heap.objs.size))) ⟨s.heap.push (mwO id x), s.gens, s.drawn, t, s.os⟩ → wpAny (model prog w) A (Builtin.«wrapper_descriptor.__get__» ⟨[.builtin id, .ref x, .ref 180], []⟩) P E ⟨s.heap, s.gens, s.drawn, t, s.os⟩)
    (h : ∀ q h', Fr h₀ L h' m → News h₀ L h' ((q, mwO id x) :: news) → (∀ p ∈ news, p.1 < q) → Q (.ref q, []) { s with heap := h', toks := s.toks + 1 }) : wpAny (model prog w) A (getMethod (.ref so) name pl) Q E s := by
  have X : K.In s.heap := X₀.keeps F.keep
  obtain ⟨hh, g, d', t, os⟩ := s
  unfold ks_superIn at hm
  rw [hc] at hm
  refine super_method_bi (N _ hso).1 (looks_opaque X ho) (l₀ := cd.mro) ?_ rfl X hm htd (ks_ne X I hc) hn hrun ?_
  · exact fun A Q E s k q => wpAny_bind ((looks_clsIn X hc) A _ E s k (wpAny_pure q))
  · obtain ⟨F', N', l'⟩ := ks_newsPush (s := ⟨hh, g, d', t, os⟩) (o := mwO id x) F N rfl (Heap.get?_push_at rfl rfl) (fun b o e => Heap.get?_push_of_some _ e)
    exact h _ _ F' N' l'

theorem superLenK {pl : Sem Bool} {Q : Value × List Value → Shared → Prop} {cd : ClassData} (F : Fr h₀ L s.heap m) (X₀ : K.In h₀) (N : News h₀ L s.heap news) (hso : (so, ks_superObj 180 x 180) ∈ news) (hx : (x, accO d vs ep) ∈ news) (hd : (d, od) ∈ news) (ho : nsIn K cStatics "thirdparty.any" = some none)
    (hc : clsIn K 180 = some cd) (hm : ks_superIn K 180 180 "__len__" = some (some (.builtin "list.__len__"))) (hl : mroIn K 180 (.type "list") = some true)
    (h : ∀ q h', Fr h₀ L h' m → News h₀ L h' ((q, mwO "list.__len__" x) :: news) → (∀ p ∈ news, p.1 < q) → Q (.ref q, []) { s with heap := h', toks := s.toks + 1 }) : wpAny (model prog w) A (getMethod (.ref so) (Str.ofString "__len__") pl) Q E s :=
  superK F X₀ N hso (acc_inst N hx hd) ho hc hm type_wlen (by decide) (fun p => run_wlen (s := ⟨s.heap, s.gens, s.drawn, _, s.os⟩) (acc_isList (X₀.keeps F.keep) N hx hl) p) h
theorem superInitK {pl : Sem Bool} {Q : Value × List Value → Shared → Prop} {cd : ClassData} (F : Fr h₀ L s.heap m) (X₀ : K.In h₀) (N : News h₀ L s.heap news) (hso : (so, ks_superObj 180 x 180) ∈ news) (hx : (x, accO d vs ep) ∈ news) (hd : (d, od) ∈ news) (ho : nsIn K cStatics "thirdparty.any" = some none)
    (hc : clsIn K 180 = some cd) (hm : ks_superIn K 180 180 "__init__" = some (some (.builtin "list.__init__"))) (hl : mroIn K 180 (.type "list") = some true)
    (h : ∀ q h', Fr h₀ L h' m → News h₀ L h' ((q, mwO "list.__init__" x) :: news) → (∀ p ∈ news, p.1 < q) → Q (.ref q, []) { s with heap := h', toks := s.toks + 1 }) : wpAny (model prog w) A (getMethod (.ref so) (Str.ofString "__init__") pl) Q E s :=
  superK F X₀ N hso (acc_inst N hx hd) ho hc hm type_winit (by decide) (fun p => run_winit (s := ⟨s.heap, s.gens, s.drawn, _, s.os⟩) (acc_isList (X₀.keeps F.keep) N hx hl) p) h
theorem callLenK {Q : Value → Shared → Prop} (N : News h₀ L s.heap news) (hq : (q, mwO "list.__len__" x) ∈ news) (hx : (x, accO d vs ep) ∈ news) (h : Q (.int vs.length s.toks) { s with toks := s.toks + 1 }) :
    wpAny (model prog w) A (call (.ref q) []) Q E s :=
  call_mw (N _ hq).1 PySem.slot_list_len.plain PySem.entry_list_len (fun Q E z => by rw [check_blen]; exact wpAny_pure z) (run_len (N _ hx).1 ⟨_, rfl, h⟩)
theorem callInitK {Q : Value → Shared → Prop} (F : Fr h₀ L s.heap m) (N : News h₀ L s.heap news) (hq : (q, mwO "list.__init__" x) ∈ news) (hx : (x, accO d [] ep) ∈ news) (h : ∀ h', Fr h₀ L h' m → News h₀ L h' news → Q .none { s with heap := h' }) :
    wpAny (model prog w) A (call (.ref q) []) Q E s := by
  refine call_mw (N _ hq).1 PySem.F.slot_list_init.plain PySem.F.entry_list_init (fun Q E z => by rw [check_binit]; exact wpAny_pure z) (run_init0 (N _ hx).1 fun h' hs ho => ⟨_, rfl, h h' (F.change hs (N _ hx).2.1 (N _ hx).2.2) fun p hp => ?_⟩)
  by_cases e : p.1 = x
  · have e1 : (N p hp).1 = (N p hp).1 := rfl
    have e2 : p.2 = accO d [] ep := by
      have a1 := (N p hp).1
      have a2 := (N _ hx).1
      rw [e, a2] at a1
      exact (Option.some.inj a1).symm
    exact ⟨by rw [e, e2]; exact ho, (N p hp).2⟩
  · exact ⟨(hs.2 _ e).trans (N p hp).1, (N p hp).2⟩
theorem callWithK {pos : Pos} {id : String} {first : List Value} {env : Env} {Q : Value → Shared → Prop} {M : Model} (N : News h₀ L s.heap news) (hq : (q, mwO id x) ∈ news)
    (h : wpAny M A (call (.ref q) first) Q E s) : wpAny M A (callWith pos (.ref q) first (backTo pos (starEach [] env)) []) Q E s := callWith_mw (N _ hq).1 h
end
end SR
end
section
open PySem PySem.W PyProof.Rows PySem.Calls PySem.Spec Builtin Builtin.ObjectAttr Builtin.Getset_descriptor
set_option Elab.async false
set_option maxRecDepth 100000
set_option maxHeartbeats 4000000
namespace SR
noncomputable abbrev lstO (C dx : Addr) : Obj := { cls := .ref C, dict := some dx, data := .seq #[] 0 }
noncomputable def makesL (K : Frag) (C : Addr) : Bool := match K.lookup C with
  | some ⟨_, _, .cls cd, sl⟩ => !cd.abstract && !cd.hasDel && (sl.toList[4]?).join == some (.builtin "list.__new__") && !cd.mro.isEmpty && cd.mro.contains (.ref C) && cd.mro.contains (.type "list") &&
      specialIn K (.ref C) "__call__" == some (some (.builtin "type.__call__")) && instIn K (.ref C) (.type "type") == some true
  | _ => false
structure MakesL (M : Model) (h : Heap) (C : Addr) : Prop where
  obj : ∃ oc od cd sl, h.get? C = some ⟨oc, od, .cls cd, sl⟩ ∧ cd.abstract = false ∧ cd.hasDel = false ∧ cd.mro.isEmpty = false
  made : Looks M h (Bind.madeBy (.ref C)) (some "list.__new__")
  base : Looks M h (Bind.staticBase (.ref C)) (.ref C)
  self : Looks M h (isSubtype (.ref C) (.ref C)) true
  top : Looks M h (isSubtype (.ref C) (.type "list")) true
  call : Looks M h (specialOf (.ref C) "__call__") (some (.builtin "type.__call__"))
  typ : Looks M h (isInstance (.ref C) (.type "type")) true
theorem makesL_of {K : Frag} {M : Model} {h : Heap} (X : K.In h) {C : Addr} (e : makesL K C = true) : MakesL M h C := by
  unfold makesL at e
  split at e
  · rename_i oc od cd sl ho
    simp only [Bool.and_eq_true, Bool.not_eq_true', beq_iff_eq] at e
    obtain ⟨⟨⟨⟨⟨⟨⟨e1, e2⟩, e3⟩, e4⟩, e5⟩, e6⟩, e7⟩, e8⟩ := e
    have hc : clsIn K C = some cd := by unfold clsIn; rw [ho]
    have hm : Looks M h (mroOf (.ref C)) cd.mro := (looks_clsIn X hc).andThen .now
    obtain ⟨c, l, hl⟩ : ∃ c l, cd.mro = c :: l := by cases q : cd.mro with | nil => rw [q] at e4; cases e4 | cons c l => exact ⟨c, l, rfl⟩
    have made : Looks M h (Bind.madeBy (.ref C)) (some "list.__new__") := by
      intro A Q E s k q
      unfold Bind.madeBy
      refine wpAny_bind (hm A _ E s k ?_)
      rw [hl, List.forIn_cons]
      refine wpAny_bind (wpAny_bind (wpAny_bind (wpAny_bind (wpAny_loadPart (k _ _ (X _ _ ho)) (wpAny_pure ?_)))))
      dsimp only
      rw [← Array.getElem?_toList, e3]
      exact wpAny_pure (wpAny_pure (wpAny_pure q))
    refine ⟨⟨oc, od, cd, sl, X _ _ ho, e1, e2, e4⟩, made, ?_, looks_mroIn X ?_, looks_mroIn X ?_, looks_specialIn X e7, looks_instIn X e8⟩
    · intro A Q E s k q
      unfold Bind.staticBase
      refine wpAny_bind (hm A _ E s k ?_)
      rw [hl, List.forIn_cons]
      exact wpAny_bind (wpAny_bind (wpAny_bind (made A _ E s k (wpAny_pure (wpAny_pure (wpAny_pure q))))))
    · unfold mroIn; rw [hc, Option.bind_some, if_neg (by rw [e4]; decide), e5]
    · unfold mroIn; rw [hc, Option.bind_some, if_neg (by rw [e4]; decide), e6]
  · cases e

section
variable {prog : Program} {w : World} {A : Around} {K : Frag} {C : Addr} {R : Result → Shared → Prop} {h : Heap} {g : Array GenState} {d : Drawn} {t : Nat} {os : OsState}
theorem isType_of {M : Model} (X : ∃ oc od cd sl, h.get? C = some ⟨oc, od, .cls cd, sl⟩) : Looks M h (isType (.ref C)) true := by
  obtain ⟨oc, od, cd, sl, hC⟩ := X
  intro A Q E s k q
  unfold isType loadHead
  exact wpAny_bind (wpAny_loadPart (k _ _ hC) (wpAny_pure q))
theorem kind_lnew : builtinKind "list.__new__" = some .builtinFn := by decide +kernel
theorem split_lnew : splitId "list.__new__" = some ("list", "__new__") := by decide +kernel
theorem args_lnew (a : Value) : argsOk "list.__new__" ⟨[a], []⟩ := by unfold argsOk; kernel_rfl
theorem new_L (Y : MakesL (model prog w) h C)
    (hq : R (.ok (.ret (.ref (h.objs.size + 1)))) ⟨(h.push emptyDict).push (lstO C h.objs.size), g, d, t, os⟩) :
    codeAny (model prog w) A (.call (.builtin "list.__new__") ⟨[.ref C], []⟩) R ⟨h, g, d, t, os⟩ := by
  obtain ⟨⟨oc, od, cd, sl, hC, e1, e2, e4⟩, made, base, self, top, call, typ⟩ := Y
  have ty : Looks (model prog w) h (isType (.ref C)) true := isType_of ⟨_, _, _, _, hC⟩
  have ha := args_lnew (.ref C)
  refine codeAny_call_builtin_code (plainId_quiet F.plain_list_new _) ?_
  simp only [checkBuiltinCall, kind_lnew, split_lnew]
  have fin : codeAny (model prog w) A (.builtin "list.__new__" ⟨[.ref C], []⟩) R ⟨h, g, d, t, os⟩ := by
    refine codeAny_builtin_stack F.entry_list_new rfl fun p st => ?_
    rw [Around.under_plainId F.plain_list_new _]
    have hown := owner_list_new
    simp only [hown]
    refine wpAny_bind (ty.at ?_)
    refine KFB.if_not rfl ?_
    refine wpAny_bind (top.at ?_)
    refine KFB.if_not rfl ?_
    refine wpAny_bind (wpAny_pure ?_)
    refine KFB.if_not rfl ?_
    refine wpAny_bind (wpAny_newObj_type ?_ (by size_fits))
    refine wpAny_bind ?_
    show wpAny _ _ (newObjAsIs (.ref C) (.seq #[] 0) (some h.objs.size)) _ _ _
    unfold newObjAsIs classHasDel
    refine wpAny_bind (wpAny_alloc (wpAny_bind (wpAny_bind (wpAny_load (Heap.get?_push_of_some _ (Heap.get?_push_of_some _ hC)) (wpAny_pure ?_)))))
    rw [e2]
    refine wpAny_pure (wpAny_pure ?_)
    show R _ _
    rw [Heap.size_push]
    exact hq
  refine wpAny_bind (ty.at ?_)
  refine KFB.if_not rfl ?_
  refine wpAny_bind (top.at ?_)
  refine KFB.if_not rfl ?_
  refine wpAny_bind (base.at ?_)
  refine wpAny_bind (made.at ?_)
  refine KFB.if_not (bne_self_eq_false _) ?_
  unfold argsOk at ha
  cases hsig : Manifest.signature? "list.__new__" with
  | none => exact wpAny_pure fin
  | some sig =>
    rw [hsig] at ha
    show wpAny _ _ (Bind.checkArgs "list.__new__" sig ⟨[.ref C], []⟩) _ _ _
    have ha2 : Bind.checkArgs "list.__new__" sig ⟨[.ref C], []⟩ = pure () := ha
    rw [ha2]
    exact wpAny_pure fin

theorem make_L {init : Value} (Y : MakesL (model prog w) h C) (hi : Looks (model prog w) h (typeLookup (.ref C) "__init__") (some init))
    (hb : ∀ self, Looks (model prog w) h (bindSpecial init self) (init, [self]))
    (hq : codeAny (model prog w) (A.under (.builtin "type.__call__" ⟨[.ref C], []⟩)) (.call init ⟨[.ref (h.objs.size + 1)], []⟩) (InitBack (h.objs.size + 1) R) ⟨(h.push emptyDict).push (lstO C h.objs.size), g, d, t, os⟩) :
    codeAny (model prog w) A (.call (.ref C) ⟨[], []⟩) R ⟨h, g, d, t, os⟩ := by
  have Y' := Y
  obtain ⟨⟨oc, od, cd, sl, hC, e1, e2, e4⟩, made, base, self, top, call, typ⟩ := Y
  refine codeAny_of_tree ?_
  show wpAny _ _ (callAny (.ref C) _) _ _ _
  refine nd_load hC ?_
  show wpAny _ _ (callAny.viaDunder (.ref C) _) _ _ _
  unfold callAny.viaDunder
  refine wpAny_bind (call.at ?_)
  dsimp only
  rw [tc_bind]
  refine wpAny_bind (wpAny_pure (wpAny_bind (wpAny_pure ?_)))
  refine wpAny_pure (a := Fin.again (.call (.builtin "type.__call__") ⟨[.ref C], []⟩)) (And.intro rfl ?_)
  refine codeAny_call_builtin_at (Code.quiet_builtin _ (by decide +kernel)) entry_typeCall (check_slot tc_kind tc_split typ (tc_args _ _ _) ?_)
  unfold Builtin.«type.__call__»
  have hm : Looks (model prog w) h (mroOf (.ref C)) cd.mro := ((Looks.ld (part := none) hC).andThen .now).andThen .now
  repeat (first | simp only [e4, Bool.false_eq_true, if_false] | with_reducible refine wpAny_call ?_ | lk)
  refine new_L Y' ?_
  have k : ∀ b o, h.get? b = some o → ((h.push emptyDict).push (lstO C h.objs.size)).get? b = some o := fun b o e => Heap.get?_push_of_some _ (Heap.get?_push_of_some _ e)
  have hx : ((h.push emptyDict).push (lstO C h.objs.size)).get? (h.objs.size + 1) = some (lstO C h.objs.size) := by heap_get
  have t1 : Looks (model prog w) ((h.push emptyDict).push (lstO C h.objs.size)) (typeOf (.ref (h.objs.size + 1))) (.ref C) := (Looks.ld hx).andThen .now
  have s1 := self.keeps k
  have i1 := hi.keeps k
  have b1 := (hb (.ref (h.objs.size + 1))).keeps k
  unfold isInstance callSpecial? specialOf
  repeat (first | with_reducible refine wpAny_call ?_ | lk)
  refine codeAny_mono hq fun r s' z => ?_
  rcases r with e | (v | _ | _ | _) <;> first | exact z | exact z.elim | skip
  obtain ⟨rfl, z⟩ := z
  exact wpAny_pure (wpAny_pure z)
end

section
variable {prog : Program} {w : World} {A : Around} {K : Frag} {C x : Addr} {s : Shared} {h₀ : Heap} {L : Addr} {m : Str → Option Value} {news : Led} {R : Result → Shared → Prop}
theorem make_LK {fI : Addr} (F : Fr h₀ L s.heap m) (N : News h₀ L s.heap news) (X : K.In s.heap) (hm : makesL K C = true)
    (hi : findIn K (.ref C) "__init__" = some (some (.ref fI))) (hf : typeIn K (.ref fI) = some (.type "function"))
    (h : ∀ x dx h', Fr h₀ L h' m → News h₀ L h' ((x, lstO C dx) :: (dx, dictOf [] 0) :: news) → (∀ p ∈ news, p.1 < dx) → dx < x →
      codeAny (model prog w) (A.under (.builtin "type.__call__" ⟨[.ref C], []⟩)) (.call (.ref fI) ⟨[.ref x], []⟩) (InitBack x R) { s with heap := h' }) :
    codeAny (model prog w) A (.call (.ref C) ⟨[], []⟩) R s := by
  obtain ⟨hh, g, d, t, os⟩ := s
  refine make_L (makesL_of X hm) (looks_findIn X hi) (fun self => bind_fn X self hf) (h _ hh.objs.size _ ((F.push _).push _) ?_ (fun p hp => Heap.lt_size (N p hp).1) (Nat.lt_succ_self _))
  have := (N.push F emptyDict).push (F.push _) (lstO C hh.objs.size)
  rwa [Heap.size_push] at this

variable {E : Value → Shared → Prop} {ox od : Obj} {name : Str} {v : Value} {cd : ClassData}
theorem osa_openL {od : Option Obj} {tk : Tok} {r : Option Value} (X : K.In s.heap) (I : InstAt s.heap x ox C od) (hc : clsIn K C = some cd) (hb : mroIn K C (.type "object") = some true) (href : ∀ self, refuseLoop self "__setattr__" cd.mro = pure ()) (ht : takerIn K C name = some r)
    (h : ∀ b, wpAny (model prog w) A.in1 (match r with | some a => setByDescriptor a (.ref x) v | none => storeInOwnDict (.ref x) (.ref C) (.str name tk) name v b)
      (fun fin s' => match fin with | .done f => R (.ok f) s' | .again c' => c'.quiet = true ∧ codeAny (model prog w) A c' R s') (fun e s' => R (.error e) s') s) :
    codeAny (model prog w) A (.call (.builtin "object.__setattr__") ⟨[.ref x, .str name tk, v], []⟩) R s := by
  have SF := PySem.F.store_object
  have sub : Looks (model prog w) s.heap (isInstance (.ref x) (.type "object")) true := I.type.andThen (looks_mroIn X hb)
  refine codeAny_call_builtin SF.slot.plain SF.entry (@check_slot (model prog w) _ _ s "object.__setattr__" "object" "__setattr__" (.ref x) [.str name tk, v] [] _ SF.kind SF.split sub (SF.args (.ref x) (.str name tk) v) ?_)
  obtain ⟨attr, ha, hr⟩ := Option.bind_eq_some_iff.mp ht
  have hm : Looks (model prog w) s.heap (mroOf (.ref C)) cd.mro := (looks_clsIn X hc).andThen .now
  have L3 : Looks (model prog w) s.heap (storeTaker? attr) r := by
    cases attr with
    | none => cases hr; exact .now
    | some a =>
      obtain ⟨b, hb, rfl⟩ := Option.map_eq_some_iff.mp hr
      refine (looks_takesIn X hb).andThen ?_
      cases b <;> exact .now
  rw [osa_eq, refuse_eq]
  refine wpAny_bind (wpAny_bind (I.type.here (wpAny_bind (hm.here ?_))))
  rw [href]
  refine wpAny_pure (wpAny_bind (I.type.here (wpAny_bind ((looks_findIn X ha).here (wpAny_bind (L3.here ?_))))))
  exact h _
theorem osa_dictL {od' : Obj} {dx : Addr} {tk : Tok} {pre post : List (Addr × Obj)} {es : List DictEntry} {n : Nat} (F : Fr h₀ L s.heap m) (N : News h₀ L s.heap (pre ++ (dx, od) :: post)) (X : K.In s.heap)
    (I : InstAt s.heap x ox C (some od)) (hd : ox.dict = some dx) (hc : clsIn K C = some cd) (hb : mroIn K C (.type "object") = some true) (href : ∀ self, refuseLoop self "__setattr__" cd.mro = pure ()) (ht : takerIn K C name = some none) (hh : cd.hasDict = true)
    (hl : (lookIn name od).isSome = true) (h1 : ∀ p ∈ pre, p.1 ≠ dx) (h2 : ∀ p ∈ post, p.1 ≠ dx)
    (e : Obj.putName name (PyData.keyHash w.params name) (.str name s.toks) v od = od') (e' : od'.data = .dict es.toArray n) (hz : es.length ≤ 1000)
    (h : ∀ h', Fr h₀ L h' m → News h₀ L h' (pre ++ (dx, od') :: post) → R (.ok (.ret .none)) { s with heap := h', toks := s.toks + 1 }) :
    codeAny (model prog w) A (.call (.builtin "object.__setattr__") ⟨[.ref x, .str name tk, v], []⟩) R s := by
  refine osa_openL X I hc hb href ht fun b => ?_
  obtain ⟨U1, U2⟩ := news_upd (f := Obj.putName name (PyData.keyHash w.params name) (.str name s.toks) v) F N h1 h2 e (by obtain ⟨_, _, dd, _⟩ := od'; cases e'; rfl)
  have D := (N (dx, od) (by simp)).1
  have D' := (U2 (dx, od') (by simp)).1
  obtain ⟨hx, hcl, hn, -⟩ := I
  obtain ⟨oc, odi, oda, osl⟩ := ox
  dsimp only at hcl hd
  subst hcl hd
  refine wpAny_bind (wpAny_pure (wpAny_bind (wpAny_bind (wpAny_loadPart hx (wpAny_bind ((looks_clsIn X hc).here ?_))))))
  rw [hh]
  refine wpAny_pure (a := some dx) (wpAny_bind (wpAny_pure (wpAny_bind ?_)))
  unfold nsSet
  refine wpAny_bind (wpAny_bind (wpAny_askSetting (wpAny_pure (wpAny_bind (wpAny_mkText (wpAny_bind (wpAny_loadPart D ?_)))))))
  unfold lookIn at hl
  split at hl
  · rename_i es₀ n₀ q
    rw [q]
    dsimp only
    have c : (!es₀.any (·.key.isStr name) && es₀.any (·.refKey)) = false := by
      rw [← Array.any_toList, ← Array.any_toList]
      split at hl
      · rename_i en he
        rw [List.any_eq_true.mpr ⟨en, List.mem_of_find?_eq_some he, List.find?_some he⟩]; rfl
      · split at hl
        · cases hl
        · rename_i z; rw [Bool.not_eq_true] at z; rw [z, Bool.and_false]
    rw [aRefKeyMayBeTheName_at, c]
    refine wpAny_updatePart D ?_
    refine wpAny_bind (wpAny_lookBehind D' (by rw [e']; exact pastItsLine_dict (by rw [List.size_toArray, sizeLine_eq]; omega)) ?_)
    exact wpAny_pure (h _ U1 U2)
  · cases hl
theorem set_dictL {es es' : List DictEntry} {n n' : Nat} {dx : Addr} {news' : Led} {Q : Unit → Shared → Prop} (F : Fr h₀ L s.heap m) (X₀ : K.In h₀) (N : News h₀ L s.heap news) (I : InstAt s.heap x ox C (some (dictOf es n))) (hd : ox.dict = some dx)
    (hs : findIn K (.ref C) "__setattr__" = some (some (.builtin "object.__setattr__"))) (hc : clsIn K C = some cd) (hb : mroIn K C (.type "object") = some true) (href : ∀ self, refuseLoop self "__setattr__" cd.mro = pure ()) (ht : takerIn K C name = some none) (hh : cd.hasDict = true) (hl : (getL name es).isSome = true)
    (e : (putL name (PyData.keyHash w.params name) (.str name (s.toks + 1)) v es, putN name es n) = (es', n')) (U : Upd dx (dictOf es n) (dictOf es' n') news news') (hz : es'.length ≤ 1000)
    (h : ∀ h', Fr h₀ L h' m → News h₀ L h' news' → Q () { s with heap := h', toks := s.toks + 2 }) :
    wpAny (model prog w) A (setAttr (.ref x) name v) Q E s := by
  obtain ⟨pre, post, rfl, rfl, a, b⟩ := U.split
  obtain ⟨e1, e2⟩ := Prod.mk.inj e
  exact set_plain (X₀.keeps F.keep) I hs (osa_dictL (s := { s with toks := s.toks + 1 }) F N (X₀.keeps F.keep) I hd hc hb href ht hh hl a b (by rw [putName_dict, e1, e2]) rfl hz fun h' F' N' => h h' F' N')
end
theorem refuse_list (self : Value) : refuseLoop self "__setattr__" [.ref 180, .type "list", .type "object"] = pure () := by
  rw [refuseLoop_ref]
  kernel_rfl
end SR
end
section
open PySem PySem.W PyProof.Rows PySem.Calls PySem.Spec
set_option Elab.async false
set_option maxRecDepth 100000
set_option maxHeartbeats 4000000
namespace SR
section
variable {prog : Program} {w : World} {M : Model} {A : Around} {E : Value → Shared → Prop} {s : Shared} {K : Frag} {h₀ : Heap} {L x d C : Addr} {m : Str → Option Value} {news : Led} {vs : List Value} {ep : Nat}
noncomputable def noSeqIn (K : Frag) (C : Addr) : Bool := seqItemTypes.all fun n => mroIn K C (.type n) == some false
theorem looks_anyM {h : Heap} (X : K.In h) : ∀ {l : List String}, l.all (fun n => mroIn K C (.type n) == some false) = true → Looks M h (l.anyM fun n => isSubtype (.ref C) (.type n)) false
  | [], _ => Looks.of_pure rfl
  | n :: l, e => by
    rw [List.all_cons, Bool.and_eq_true] at e
    have e1 : mroIn K C (.type n) = some false := by simpa using e.1
    rw [List.anyM_cons]
    exact (looks_mroIn X e1).andThen (by simpa using looks_anyM X e.2)
theorem looks_seqKey {h : Heap} (X : K.In h) (T : Looks M h (typeOf (.ref x)) (.ref C)) (hn : noSeqIn K C = true) (k : Value) (name : Str) : Looks M h (sequenceKey (.ref x) k name) k := by
  unfold sequenceKey
  refine T.andThen ?_
  dsimp only
  exact (looks_anyM X hn).andThen Looks.now
theorem acc_type {h : Heap} (hx : h.get? x = some (accO d vs ep)) : Looks M h (typeOf (.ref x)) (.ref 180) := (Looks.ld hx).andThen .now
theorem looks_isList {h : Heap} (X : K.In h) (hx : h.get? x = some (accO d vs ep)) (hm : mroIn K 180 (.type "list") = some true) : Looks M h (isInstance (.ref x) (.type "list")) true := (acc_type hx).andThen (looks_mroIn X hm)

theorem acc_getSlice {sl : Addr} {vl vu vt : Value} {lo hi st : Option Int} {Q : Value → Shared → Prop} (X : K.In s.heap) (hx : s.heap.get? x = some (accO d vs ep)) (hn : noSeqIn K 180 = true) (hm : mroIn K 180 (.type "list") = some true) (hf : findIn K (.ref 180) "__getitem__" = some (some (.builtin "list.__getitem__")))
    (hs : s.heap.IsSliceOf sl vl vu vt) (pl : IsPart vl lo) (pu : IsPart vu hi) (ps : IsPart vt st) (h0 : st ≠ some 0)
    (h : Q (.ref s.heap.objs.size) { s with heap := s.heap.push { cls := .type "list", data := .seq (slicePick vs.toArray lo hi st) } })
    (hsz : vs.length ≤ sizeLine) : wpAny (model prog w) A (getItem (.ref x) (.ref sl)) Q E s := by
  obtain ⟨os, hos, hcs, hds⟩ := id hs
  have hTs : s.TypeIs (.ref sl) "slice" := ⟨os, hos, hcs⟩
  unfold getItem
  try with_reducible refine wpAny_holding ?_
  first | refine wpAny_bind (wpAny_pure ?_) | skip
  refine wpAny_bind ((looks_seqKey X (acc_type hx) hn _ _).here ?_)
  refine wpAny_bind ?_
  unfold callSpecial? specialOf
  refine wpAny_bind (wpAny_bind ((acc_type hx).here ((looks_findIn X hf).here ?_)))
  dsimp only
  refine wpAny_holding ?_
  rw [slot_list_getitem.bind]
  refine wpAny_bind (wpAny_pure (wpAny_bind ?_))
  refine call_sub slot_list_getitem.plain entry_list_getitem (.inr kind_getitem) split_getitem (looks_isList X hx hm) (args_list_getitem _ _) ?_
  show wpAny _ _ (Builtin.List.listSubscript? (.ref sl) >>= _) _ _ s
  refine wpAny_bind ?_
  unfold Builtin.List.listSubscript?
  refine wpAny_bind (wpAny_specialOf hTs slice_no_index ?_)
  simp only [Option.isNone_none, if_true]
  refine wpAny_pure ?_
  show wpAny _ _ (typeOf (.ref sl) >>= _) _ _ s
  refine wpAny_bind (wpAny_typeOf hTs ?_)
  rw [if_neg (by decide)]
  rw [listSliceParts_eq]
  have hstep : ¬ ((rawPart st == rawInt 0) = true) := by
    cases st with
    | none => exact Bool.false_ne_true
    | some c =>
      intro hh
      have : c = 0 := by simpa [rawPart, rawInt] using hh
      exact h0 (by rw [this])
  refine wpAny_bind (wpAny_bind (wpAny_field hos hds (x := vt) rfl (wpAny_bind (wpAny_listPart ps ?_))))
  rw [if_neg hstep]
  refine wpAny_bind (wpAny_field hos hds (x := vl) rfl (wpAny_bind (wpAny_listPart pl ?_)))
  refine wpAny_bind (wpAny_field hos hds (x := vu) rfl (wpAny_bind (wpAny_listPart pu (wpAny_pure ?_))))
  refine wpAny_bind (m := Builtin.List.listItems (.ref x)) ?_
  unfold Builtin.List.listItems
  refine wpAny_bind (wpAny_seqItems hx rfl (wpAny_pure ?_))
  refine wpAny_bind (wpAny_of_eq (sliceIndices_raw lo hi st vs.toArray.size h0) ?_)
  refine wpAny_bind (wpAny_newObj_type (wpAny_pure ⟨_, rfl, wpAny_pure (wpAny_pure h)⟩) (Nat.le_trans (slicePick_size_le vs.toArray lo hi st) (by simpa using hsz)))

theorem accSlice {value slice : PySem.Expr} {vl vu : Value} {lo hi : Option Int} {zs : List Value} {Q : Value → Shared → Prop} (F : Fr h₀ L s.heap m) (X₀ : K.In h₀) (N : News h₀ L s.heap news) (hx : (x, accO d vs ep) ∈ news)
    (hn : noSeqIn K 180 = true) (hm : mroIn K 180 (.type "list") = some true) (hf : findIn K (.ref 180) "__getitem__" = some (some (.builtin "list.__getitem__"))) (pl : IsPart vl lo) (pu : IsPart vu hi) (e : (slicePick vs.toArray lo hi none).toList = zs)
    (hs : subscripted slice false (.ref x) (.ref s.heap.objs.size) = operate [.ref s.heap.objs.size, .ref x] (getItem (.ref x) (.ref s.heap.objs.size))) (ht : ∀ r, letTemporaryGo value (.ref x) r = pure ()) (hz : vs.length ≤ sizeLine)
    (h : ∀ D h', Fr h₀ L h' m → News h₀ L h' ((D, listOf zs.toArray 0) :: news) → (∀ p ∈ news, p.1 < D) → Q (.ref D) { s with heap := h' }) :
    wpAny (model prog w) A (subscriptTail value slice (.ref x) (.ref s.heap.objs.size)) Q E { s with heap := s.heap.push { cls := .type "slice", data := .fields #[vl, vu, .none] } } := by
  have X := X₀.keeps F.keep
  have k : ∀ b o, s.heap.get? b = some o → (s.heap.push { cls := .type "slice", data := .fields #[vl, vu, .none] }).get? b = some o := fun b o e => Heap.get?_push_of_some _ e
  have X' := X.keeps k
  have hx' := k _ _ (N _ hx).1
  have zz : (slicePick vs.toArray lo hi none) = zs.toArray := by rw [← e, Array.toArray_toList]
  have N1 := News.push (F.push { cls := .type "slice", data := .fields #[vl, vu, .none] }) (N.grown k) { cls := .type "list", data := .seq zs.toArray }
  rw [Heap.size_push] at N1
  have g := acc_getSlice (prog := prog) (w := w) (A := A) (E := E) (s := { s with heap := s.heap.push { cls := .type "slice", data := .fields #[vl, vu, .none] } }) (Q := Q) X' hx' hn hm hf (Heap.IsSliceOf.new ..) pl pu .none (by simp)
    (by
      show Q (.ref (s.heap.push _).objs.size) _
      rw [Heap.size_push, zz]
      exact h _ _ ((F.push _).push _) N1 (fun p hp => Nat.lt_succ_of_lt (Heap.lt_size (N p hp).1))) hz
  unfold subscriptTail
  refine wpAny_bind ?_
  rw [getitemInPython_of_ne (by intro h; cases h)]
  unfold specialOf
  refine wpAny_bind (wpAny_bind ((acc_type hx').here ((looks_findIn X' hf).here ?_)))
  refine wpAny_pure (wpAny_bind ?_)
  rw [hs]
  exact wpAny_operating (wpAny_mono g (fun r s₃ h₃ => wpAny_bind (wpAny_of_eq (ht r) (wpAny_pure h₃))) fun _ _ x => x)
end
theorem slice_from {vs : List Value} {i : Nat} : (slicePick vs.toArray (some (i : Int)) none none).toList = vs.drop i := by
  have e : sliceBounds (some (i : Int)) none none vs.toArray.size = (((min i vs.toArray.size : Nat) : Int), ((vs.toArray.size : Nat) : Int), 1) := by
    simp only [sliceBounds, Option.getD_none, show (1 : Int) > 0 by decide, if_true, if_neg (show ¬ ((i : Int) < 0) by omega)]
    congr 1
    omega
  rw [kmk_pick_nat _ e]
  show (vs.drop (min i vs.toArray.size)).take (vs.toArray.size - min i vs.toArray.size) = _
  rw [List.size_toArray, kmk_drop_min, List.take_of_length_le (by rw [List.length_drop]; omega)]

section
variable {prog : Program} {w : World} {M : Model} {A : Around} {E : Value → Shared → Prop} {s : Shared} {K : Frag} {h₀ : Heap} {L x d C : Addr} {m : Str → Option Value} {news : Led} {vs : List Value} {ep : Nat}
theorem mapSeq_acc (f : Array Value → Array Value) : ∃ ep', Obj.mapSeq f (accO d vs ep) = { cls := .ref 180, dict := some d, data := .seq (f vs.toArray) ep' } := ⟨_, rfl⟩
theorem acc_setSlice {sl l : Addr} {ll : Nat} {i : Nat} {t : Tok} {Q : Unit → Shared → Prop} (X : K.In s.heap) (hx : s.heap.get? x = some (accO d vs ep)) (hn : noSeqIn K 180 = true) (hm : mroIn K 180 (.type "list") = some true) (hf : findIn K (.ref 180) "__setitem__" = some (some (.builtin "list.__setitem__")))
    (hs : s.heap.IsSliceOf sl (.int i t) .none .none) (hl : s.heap.get? l = some (listOf #[] ll)) (hi : i ≤ vs.length)
    (h : ∀ h' ep', Heap.SameBut x s.heap h' → h'.get? x = some (accO d (vs.take i) ep') → Q () { s with heap := h' })
    (hsz : vs.length ≤ sizeLine) : wpAny (model prog w) A (setItem (.ref x) (.ref sl) (.ref l)) Q E s := by
  obtain ⟨os, hos, hcs, hds⟩ := id hs
  have hTs : s.TypeIs (.ref sl) "slice" := ⟨os, hos, hcs⟩
  have hTl : s.TypeIs (.ref l) "list" := ⟨_, hl, rfl⟩
  have hxl : x ≠ l := by
    intro e; rw [e, hl] at hx
    have := congrArg Obj.cls (Option.some.inj hx)
    cases this
  unfold setItem
  try with_reducible refine wpAny_holding ?_
  first | refine wpAny_bind (wpAny_pure ?_) | skip
  refine wpAny_bind ((looks_seqKey X (acc_type hx) hn _ _).here ?_)
  refine wpAny_bind ?_
  unfold callSpecial? specialOf
  refine wpAny_bind (wpAny_bind ((acc_type hx).here ((looks_findIn X hf).here ?_)))
  dsimp only
  refine wpAny_holding ?_
  rw [slot_list_setitem.bind]
  refine wpAny_bind (wpAny_pure (wpAny_bind ?_))
  refine call_sub slot_list_setitem.plain entry_list_setitem (.inl kind_setitem) split_setitem (looks_isList X hx hm) (args_list_setitem _ _ _) ?_
  show wpAny _ _ (Builtin.List.listSubscript? (.ref sl) >>= _) _ _ s
  refine wpAny_bind ?_
  unfold Builtin.List.listSubscript?
  refine wpAny_bind (wpAny_specialOf hTs slice_no_index ?_)
  simp only [Option.isNone_none, if_true]
  refine wpAny_pure ?_
  show wpAny _ _ (typeOf (.ref sl) >>= _) _ _ s
  refine wpAny_bind (wpAny_typeOf hTs ?_)
  rw [if_neg (by decide)]
  rw [listSliceParts_eq]
  refine wpAny_bind (wpAny_bind (wpAny_field hos hds (x := .none) rfl (wpAny_bind (wpAny_listPart .none ?_))))
  rw [if_neg (by exact Bool.false_ne_true)]
  refine wpAny_bind (wpAny_field hos hds (x := .int i t) rfl (wpAny_bind (wpAny_listPart (.int i t) ?_)))
  refine wpAny_bind (wpAny_field hos hds (x := .none) rfl (wpAny_bind (wpAny_listPart .none (wpAny_pure ?_))))
  have hsr : Builtin.List.listSameRef (.ref x) (.ref l) = false := by simp [Builtin.List.listSameRef, hxl]
  refine KFB.if_not hsr ?_
  refine wpAny_bind ?_
  unfold Builtin.List.listAllItems
  refine wpAny_bind (wpAny_typeOf hTl ?_)
  refine KFB.if_so (by decide) ?_
  unfold Builtin.List.listItems
  refine wpAny_bind (wpAny_seqItems hl rfl (wpAny_pure ?_))
  refine wpAny_bind ?_
  refine wpAny_bind (wpAny_seqItems hx rfl (wpAny_pure ?_))
  refine wpAny_bind (wpAny_of_eq (sliceIndices_raw (some (i : Int)) none none vs.toArray.size (by simp)) ?_)
  have eb : sliceBounds (some (i : Int)) none none vs.toArray.size = ((i : Int), ((vs.toArray.size : Nat) : Int), 1) := by
    simp only [sliceBounds, Option.getD_none, show (1 : Int) > 0 by decide, if_true, if_neg (show ¬ ((i : Int) < 0) by omega), List.size_toArray]
    congr 1
    omega
  rw [eb]
  dsimp only
  refine KFB.if_so rfl ?_
  refine wpAny_bind (wpAny_rule ?_)
  refine KFB.if_not (by simp [Builtin.List.listTooLong]; omega) ?_
  refine wpAny_bind ?_
  have e0 : ∀ xs : Array Value, xs.size = vs.length → xs.extract 0 (i : Int).toNat ++ #[] ++ xs.extract (max (i : Int) ((vs.toArray.size : Nat) : Int)).toNat = (xs.toList.take i).toArray := by
    intro xs hxs
    have h1 : (max (i : Int) ((vs.toArray.size : Nat) : Int)).toNat = xs.size := by rw [List.size_toArray, hxs]; omega
    rw [h1]
    apply Array.ext'
    simp [Array.toList_extract, List.extract]
  obtain ⟨ep', e⟩ : ∃ ep', Obj.mapSeq (fun xs => xs.extract 0 (i : Int).toNat ++ #[] ++ xs.extract (max (i : Int) ((vs.toArray.size : Nat) : Int)).toNat) (accO d vs ep) = accO d (vs.take i) ep' := by
    obtain ⟨ep', q⟩ := mapSeq_acc (d := d) (vs := vs) (ep := ep) (fun xs => xs.extract 0 (i : Int).toNat ++ #[] ++ xs.extract (max (i : Int) ((vs.toArray.size : Nat) : Int)).toNat)
    exact ⟨ep', by rw [q, e0 vs.toArray (by simp)]⟩
  refine wpAny_updateSeq hx rfl ?_ (by simpa using hsz) ?_
  · refine wpAny_bind (wpAny_letGo ?_)
    refine wpAny_pure ⟨_, rfl, wpAny_pure (wpAny_pure (h _ ep' (Heap.SameBut.update ..) ?_))⟩
    rw [Heap.get?_update_self _ hx (by rw [e]; rfl), e]
  · rw [e0 vs.toArray (by simp)]
    simp
    omega
theorem accSet {l : Addr} {ll : Nat} {i : Nat} {t : Tok} {Q : Unit → Shared → Prop} (F : Fr h₀ L s.heap m) (X₀ : K.In h₀) (N : News h₀ L s.heap news) (hx : (x, accO d vs ep) ∈ news) (hl : (l, listOf #[] ll) ∈ news)
    (hn : noSeqIn K 180 = true) (hm : mroIn K 180 (.type "list") = some true) (hf : findIn K (.ref 180) "__setitem__" = some (some (.builtin "list.__setitem__"))) (hi : i ≤ vs.length) (hz : vs.length ≤ sizeLine)
    (h : ∀ h' ep', Fr h₀ L h' m → News h₀ L h' (ledPut x (accO d (vs.take i) ep') news) → Q () { s with heap := h' }) :
    wpAny (model prog w) A (setItem (.ref x) (.ref s.heap.objs.size) (.ref l)) Q E { s with heap := s.heap.push { cls := .type "slice", data := .fields #[.int i t, .none, .none] } } := by
  have X := X₀.keeps F.keep
  have k : ∀ b o, s.heap.get? b = some o → (s.heap.push { cls := .type "slice", data := .fields #[.int i t, .none, .none] }).get? b = some o := fun b o e => Heap.get?_push_of_some _ e
  have N' := N.grown k
  exact acc_setSlice (s := { s with heap := s.heap.push { cls := .type "slice", data := .fields #[.int i t, .none, .none] } }) (X.keeps k) (k _ _ (N _ hx).1) hn hm hf (Heap.IsSliceOf.new ..) (k _ _ (N _ hl).1) hi
    (fun h' ep' hs ho => h h' ep' ((F.push _).change hs (N _ hx).2.1 (N _ hx).2.2) (News.put N' hx hs ho)) hz
end
end SR
end
section
open PySem PySem.W PyProof.Rows PySem.Calls PySem.Spec
set_option Elab.async false
set_option maxRecDepth 100000
namespace SR
theorem rows_SRd_1 : True := by
  k_with_none
  k_with "execs cons" => (k_here; (fail_if_success with_reducible show wpAny _ Aq _ _ _ _); (try k_fold); refine' a_let ?_; intro Aq)
  k_with "execs cons" => (k_here; (fail_if_success with_reducible show wpAny _ _ _ _ _ ⟨_, _, _, tkq, _⟩); refine' tok_all ?_; intro tkq; dsimp only)
  k_with "execs cons" => (k_here; (fail_if_success refine' m_is (m := mq) (by with_reducible assumption) ?_); refine' m_let ?zzF ?_; (case zzF => k_asm); intro mq Fq; dsimp only at Fq)
  k_with "k_inst" => ((refine' acc_inst ?y0N ?y0h1 ?y0h2; (case y0N => k_asm); (case y0h1 => k_mem); (case y0h2 => k_mem)))
  k_with "k_mem" => (assumption)
  k_with "getMethod ref" => (k_here; k_dflt (refine' method_anyK ?z7k1 ?z7k2 ?z7k3 ?z7k4 ?z7k5 ?z7k6 ?z7k7 ?z7k8 ?z7k9 ?_; (case z7k1 => k_asm); (case z7k2 => k_asm); (case z7k3 => k_inst); (case z7k4 => k_is); (case z7k5 => exact PySem.canon_list_getattribute); (case z7k6 => k_is); (case z7k7 => k_is); (case z7k8 => first | exact .inl (by k_is) | exact .inr (.inl (by k_is)) | exact .inr (.inr (by k_is))); (case z7k9 => k_get); k_whole))
  k_with "getMethod ref" => (k_here; k_dflt (first
  | (refine' superLenK ?z7k1 ?z7k2 ?z7k3 ?z7k4 ?z7k5 ?z7k6 ?z7k7 ?z7k8 ?z7k9 ?z7k10 ?_; (case z7k1 => k_asm); (case z7k2 => k_asm); (case z7k3 => k_asm); (case z7k4 => k_mem); (case z7k5 => k_mem); (case z7k6 => k_mem); (case z7k7 => k_is); (case z7k8 => k_is); (case z7k9 => ks_is); (case z7k10 => k_is); k_whole; intro q'q h'q F'q N'q l1q)
  | (refine' superInitK ?z7k1 ?z7k2 ?z7k3 ?z7k4 ?z7k5 ?z7k6 ?z7k7 ?z7k8 ?z7k9 ?z7k10 ?_; (case z7k1 => k_asm); (case z7k2 => k_asm); (case z7k3 => k_asm); (case z7k4 => k_mem); (case z7k5 => k_mem); (case z7k6 => k_mem); (case z7k7 => k_is); (case z7k8 => k_is); (case z7k9 => ks_is); (case z7k10 => k_is); k_whole; intro q'q h'q F'q N'q l1q)))
  k_with "callWith ref" => (k_here; k_dflt (refine' callWithK ?z7k1 ?z7k2 ?_; (case z7k1 => k_asm); (case z7k2 => k_mem)))
  k_with "call ref" => (k_here; k_dflt (first
  | (refine' callLenK ?z7k1 ?z7k2 ?z7k3 ?_; (case z7k1 => k_asm); (case z7k2 => k_mem); (case z7k3 => k_mem))
  | (refine' callInitK ?z7k1 ?z7k2 ?z7k3 ?z7k4 ?_; (case z7k1 => k_asm); (case z7k2 => k_asm); (case z7k3 => k_mem); (case z7k4 => k_mem); intro h'q F'q N'q)))
  k_with "setAttr ref" => (k_here; k_dflt (refine' set_dictL ?z7k1 ?z7k2 ?z7k3 ?z7k4 ?z7k5 ?z7k6 ?z7k7 ?z7k8 ?z7k9 ?z7k10 ?z7k11 ?z7k12 ?z7k13 ?z7k14 ?z7k15 ?_; (case z7k1 => k_asm); (case z7k2 => k_asm); (case z7k3 => k_asm); (case z7k4 => k_inst); (case z7k5 => exact rfl); (case z7k6 => k_is); (case z7k7 => k_is); (case z7k8 => k_is); (case z7k9 => exact fun self => refuse_list self); (case z7k10 => k_is); (case z7k11 => exact rfl); (case z7k12 => k_get); (case z7k13 => k_put); (case z7k14 => k_upd); (case z7k15 => exact Nat.le_of_ble_eq_true rfl); k_whole; intro h'q F'q N'q; (try dsimp only)))
  trivial
theorem noSeq_180 (P : Params) : noSeqIn (hm.heap_1 P) 180 = true := by kernel_rfl
theorem rows_SRd_2 : True := by
  k_with "subscriptTail" => (k_here; k_dflt (refine' accSlice ?z9k1 ?z9k2 ?z9k3 ?z9k4 ?z9k5 ?z9k6 ?z9k7 ?z9k8 ?z9k9 ?z9k10 ?z9k11 ?z9k12 ?z9k13 ?_; (case z9k1 => k_asm); (case z9k2 => k_asm); (case z9k3 => k_asm); (case z9k4 => k_mem); (case z9k5 => exact noSeq_180 _); (case z9k6 => k_is); (case z9k7 => k_is); (case z9k8 => exact IsPart.int _ _); (case z9k9 => exact IsPart.none); (case z9k10 => exact slice_from); (case z9k11 => with_unfolding_all rfl); (case z9k12 => intro _; with_unfolding_all rfl); (case z9k13 => assumption); k_whole; intro D'q h'q F'q N'q l1q))
  k_with "setItem ref" => (k_here; k_dflt (refine' accSet ?z9k1 ?z9k2 ?z9k3 ?z9k4 ?z9k5 ?z9k6 ?z9k7 ?z9k8 ?z9k9 ?z9k10 ?_; (case z9k1 => k_asm); (case z9k2 => k_asm); (case z9k3 => k_asm); (case z9k4 => k_mem); (case z9k5 => k_mem); (case z9k6 => exact noSeq_180 _); (case z9k7 => k_is); (case z9k8 => k_is); (case z9k9 => assumption); (case z9k10 => assumption); k_whole; intro h'q ep'q F'q N'q))
  k_with "wpAt" => (ks_step "exec Expr"; k_dflt (refine ks_wpAt_Expr_any ?_))
  k_with "wpAt" => (ks_step "eval Call"; k_dflt (refine ks_wpAt_MethodCall ?_))
  k_with "call builtin:list.append" => (k_here; k_dflt (refine' append_acc ?z9k1 ?z9k2 ?z9k3 ?z9k4 ?z9k5 ?z9k6 ?_; (case z9k1 => k_asm); (case z9k2 => k_asm); (case z9k3 => k_asm); (case z9k4 => k_mem); (case z9k5 => k_is); (case z9k6 => assumption); k_whole); intro h'q F'q N'q)
  trivial
theorem of_allLt {d : Addr} {l : Led} (h : AllLt d l) : ∀ p ∈ l, p.1 < d := by
  induction l with
  | nil => intro p hp; cases hp
  | cons q r ih =>
    intro p hp
    rcases List.mem_cons.mp hp with rfl | hp
    · exact h.1
    · exact ih h.2 p hp
theorem rowz_SRd_1 : True := by
  k_with "k_room" => (first | exact room_k (k := 0) (by assumption) (by decide) | exact room_k (k := 1) (by assumption) (by decide) | exact room_k (k := 2) (by assumption) (by decide) | exact room_k (k := 3) (by assumption) (by decide) | exact room_k (k := 4) (by assumption) (by decide) | ktr_room)
  k_with "ktr_room" => (first | exact room_k (k := 0) (by assumption) (by decide) | exact room_k (k := 1) (by assumption) (by decide) | exact room_k (k := 2) (by assumption) (by decide) | exact room_k (k := 3) (by assumption) (by decide) | exact room_k (k := 4) (by assumption) (by decide))
  k_with "k_units" => (first | exact unit_k (k := 3) (by assumption) rfl (by decide) | exact unit_k (k := 0) (by assumption) rfl (by decide) | exact unit_k (k := 6) (by assumption) rfl (by decide) | exact unit_k (k := 4) (by assumption) rfl (by decide) | exact unit_k (k := 7) (by assumption) rfl (by decide) | exact unit_k (k := 9) (by assumption) rfl (by decide) | exact unit_k (k := 1) (by assumption) rfl (by decide) | ktr_units)
  k_with "ktr_units" => (first | exact unit_k (k := 3) (by assumption) rfl (by decide) | exact unit_k (k := 0) (by assumption) rfl (by decide) | exact unit_k (k := 6) (by assumption) rfl (by decide) | exact unit_k (k := 4) (by assumption) rfl (by decide) | exact unit_k (k := 7) (by assumption) rfl (by decide) | exact unit_k (k := 9) (by assumption) rfl (by decide) | exact unit_k (k := 1) (by assumption) rfl (by decide))
  k_with "units_room" => (first | exact unit_k (k := 3) (by assumption) rfl (by decide) | exact unit_k (k := 0) (by assumption) rfl (by decide) | exact unit_k (k := 6) (by assumption) rfl (by decide) | exact unit_k (k := 4) (by assumption) rfl (by decide) | exact unit_k (k := 7) (by assumption) rfl (by decide) | exact unit_k (k := 9) (by assumption) rfl (by decide) | exact unit_k (k := 1) (by assumption) rfl (by decide))
  trivial
noncomputable abbrev tupO (vs : List Value) : Obj := { cls := .type "tuple", data := .seq vs.toArray }
set_option maxHeartbeats 8000000 in
theorem tell_push (w : World) (x d : Addr) (vs : List Value) (ep : Nat) (hsh : Int) (tk tk' : Tok) (news : Led) (h1 : (x, accO d vs ep) ∈ news) (h2 : (d, accD hsh tk tk') ∈ news) (hz : vs.length ≤ sizeLine) (s1 s2 : Str) (t1 t2 : Tok) :
    Tell w 125 [.ref x, .str s1 t1, .str s2 t2] 10 100 news (fun r news' => r = .none ∧ ∃ t, (∀ p ∈ news, p.1 < t) ∧ news' = ledPut x (accO d (vs ++ [.ref t]) (ep + 1)) ((t, tupO [.str s1 t1, .str s2 t2]) :: news)) := by
  unfold Tell
  k_fill
  intro p loose mean mg mb dp un gd cn cs a ccd cl outer A₀ base h₀ L m s Q E B F X N T hk hG hd hu hret
  refine wpAny_call ?_
  k_dflt ktr_enter
  k_steps
  exact hret _ _ _ _ _ (by k_asm) (by k_asm) (by assumption) ⟨rfl, _, by assumption, rfl⟩

theorem ne_of_allLt {d : Addr} {l : Led} (h : ∀ p ∈ l, p.1 < d) : ∀ p ∈ l, p.1 ≠ d := fun p hp => Nat.ne_of_lt (h p hp)
theorem rowz_SRd_2 : True := by
  k_with "k_all" => (exact ne_of_allLt (by assumption))
  trivial
set_option maxHeartbeats 8000000 in
theorem tell_count (w : World) (x d : Addr) (vs : List Value) (ep : Nat) (hsh : Int) (tk tk' : Tok) (news : Led) (h1 : (x, accO d vs ep) ∈ news) (h2 : (d, accD hsh tk tk') ∈ news) :
    Tell w 177 [.ref x] 10 100 news (fun r news' => (∃ t, r = .int vs.length t) ∧ news' = news) := by
  unfold Tell
  k_fill
  intro p loose mean mg mb dp un gd cn cs a ccd cl outer A₀ base h₀ L m s Q E B F X N T hk hG hd hu hret
  refine wpAny_call ?_
  k_dflt (refine' ks_code_super ?k1 ?k2 ?k3 ?k4 ?k5 ?kA ?kF ?kK ?k6 ?k7 ?k8 ?k9 ?kB ?_ ?c1 ?c2 ?c3 ?c4; (case kA => exact rfl); (case kF => exact rfl); (case kK => assumption); (case k1 => k_asm); (case k2 => k_asm); (case k3 => k_asm); (case k4 => k_asm); (case k5 => k_asm); (case k6 => k_is); (case k7 => k_is); (case k8 => k_room); (case k9 => exact BindsTo.of_eq rfl); (case kB => exact locs rfl); (case c1 => decide); (case c2 => exact rfl); (case c3 => exact rfl); (case c4 => exact rfl); intro g' L' h' FG' F' N' B' X' T' l1; (try dsimp only); (try k_lift B'))
  k_steps
  exact hret _ _ _ _ _ (by k_asm) (cb_drop (by assumption) (fun p hp => by simp [hp])) (by assumption) ⟨⟨_, rfl⟩, rfl⟩
theorem makesL_180 (P : Params) : makesL (hm.heap_1 P) 180 = true := by kernel_rfl
set_option maxHeartbeats 8000000 in
theorem tell_new (w : World) (news : Led) :
    Tell w 180 [] 20 100 news (fun r news' => ∃ x d hsh tk tk', r = .ref x ∧ (∀ p ∈ news, p.1 < d) ∧ d < x ∧ news' = (x, accO d [] 0) :: (d, accD hsh tk tk') :: news) := by
  unfold Tell
  k_fill
  intro p loose mean mg mb dp un gd cn cs a ccd cl outer A₀ base h₀ L m s Q E B F X N T hk hG hd hu hret
  refine wpAny_call ?_
  k_dflt (refine' make_LK ?m1 ?m2 ?m3 ?m4 ?m5 ?m6 ?_; (case m1 => k_asm); (case m2 => k_asm); (case m3 => k_in); (case m4 => exact makesL_180 _); (case m5 => k_is); (case m6 => k_is))
  intro x d h' F' N' l1 l2
  k_lt2 l2
  k_dflt (refine' ks_code_super ?k1 ?k2 ?k3 ?k4 ?k5 ?kA ?kF ?kK ?k6 ?k7 ?k8 ?k9 ?kB ?_ ?c1 ?c2 ?c3 ?c4; (case kA => exact rfl); (case kF => exact rfl); (case kK => assumption); (case k1 => k_asm); (case k2 => k_asm); (case k3 => k_asm); (case k4 => k_asm); (case k5 => k_asm); (case k6 => k_is); (case k7 => k_is); (case k8 => k_room); (case k9 => exact binds_K (by k_in) rfl (by k_is) rfl rfl rfl); (case kB => exact locs rfl); (case c1 => decide); (case c2 => exact rfl); (case c3 => exact rfl); (case c4 => exact rfl); intro g' L' h' FG' F' N' B' X' T' l1; (try dsimp only); (try k_lift B'))
  k_steps
  exact hret _ _ _ _ _ (by k_asm) (cb_drop (by assumption) (fun p hp => List.mem_cons_of_mem _ (List.mem_cons_of_mem _ hp))) (by assumption) ⟨x, d, _, _, _, rfl, by assumption, by assumption, rfl⟩
set_option maxHeartbeats 8000000 in
theorem tell_popFrom (w : World) (x d : Addr) (vs : List Value) (ep : Nat) (hsh : Int) (tk tk' : Tok) (news : Led) (h1 : (x, accO d vs ep) ∈ news) (h2 : (d, accD hsh tk tk') ∈ news) (hz : vs.length ≤ sizeLine) (i : Nat) (t : Tok) (hi : i ≤ vs.length) :
    Tell w 133 [.ref x, .int i t] 10 100 news (fun r news' => ∃ D ep', r = .ref D ∧ (∀ p ∈ news, p.1 < D) ∧ news' = ledPut x (accO d (vs.take i) ep') ((D, listOf (vs.drop i).toArray 0) :: news)) := by
  unfold Tell
  k_fill
  intro p loose mean mg mb dp un gd cn cs a ccd cl outer A₀ base h₀ L m s Q E B F X N T hk hG hd hu hret
  refine wpAny_call ?_
  k_dflt (refine' code_def ?k1 ?k2 ?k3 ?k4 ?k5 ?kA ?kF ?kK ?k6 ?k7 ?k8 ?k9 ?kB ?_ ?c2 ?c3 ?c4 ?c5; (case kA => exact rfl); (case kF => exact rfl); (case kK => assumption); (case k1 => k_asm); (case k2 => k_asm); (case k3 => k_asm); (case k4 => k_asm); (case k5 => k_asm); (case k6 => k_is); (case k7 => k_is); (case k8 => ktr_room); (case k9 => exact binds_K (by k_in) rfl (by k_is) rfl rfl rfl); (case c5 => decide); (case kB => exact locs rfl); (case c2 => exact rfl); (case c3 => exact rfl); (case c4 => exact rfl); k_whole; intro g' L' h' FG' F' N' B' X' T'; (try dsimp only); (try k_fold))
  k_steps
  exact hret _ _ _ _ _ (by k_asm) (cb_drop (by assumption) (fun p hp => by
    rcases of_ledPut hp with rfl | ⟨hp, hn⟩
    · exact List.Mem.head _
    · exact mem_ledPut (List.mem_cons_of_mem _ hp) hn)) (by assumption) ⟨_, _, rfl, by assumption, rfl⟩
end SR
end
section
open PySem PySem.W PyProof.Rows PySem.Calls PySem.Spec
set_option Elab.async false
set_option maxRecDepth 100000
namespace SR
/-- an object that holds a row of items, whatever its class -/
noncomputable def SeqAt (h : Heap) (x : Addr) (its : Array Value) : Prop := ∃ o n, h.get? x = some o ∧ o.data = .seq its n
theorem SeqAt.at {h h' : Heap} {x : Addr} {its : Array Value} (z : SeqAt h x its) (k : ∀ o, h.get? x = some o → h'.get? x = some o) : SeqAt h' x its :=
  let ⟨o, n, e, d⟩ := z; ⟨o, n, k o e, d⟩
section
variable {prog : Program} {w : World} {A : Around} {E : Value → Shared → Prop} {s : Shared}
theorem seq_next {it l : Addr} {i : Nat} {its : Array Value} {v : Value} {Q : Option Value → Shared → Prop} (hit : s.heap.IsListIter it l i) (hl : SeqAt s.heap l its) (hx : its[i]? = some v)
    (hQ : ∀ h', h'.IsListIter it l (i + 1) → Heap.SameBut it s.heap h' → Q (some v) { s with heap := h' }) : wpAny (model prog w) A (pyNext (.ref it)) Q E s := by
  obtain ⟨oi, hoi, hci, hdi⟩ := id hit
  obtain ⟨ol, nl, hol, hdl⟩ := hl
  unfold pyNext
  refine wpAny_bind (wpAny_attempt (wpAny_callSpecial?_slot (name := Str.ofString "__next__") hit.typeIs slot_listiter_next (wpAny_call_entry slot_listiter_next hit.typeIs entry_listiter_next ?_ (args_listiter_next _))))
  show wpAny _ _ (field (.ref it) 0 >>= _) _ _ s
  refine wpAny_bind (wpAny_field hoi hdi (x := .ref l) rfl ?_)
  show wpAny _ _ (if (Value.ref l == Value.none) = true then _ else _) _ _ s
  rw [if_neg (show ¬ ((Value.ref l == Value.none) = true) from Bool.false_ne_true)]
  show wpAny _ _ (field (.ref it) 1 >>= _) _ _ s
  refine wpAny_bind (wpAny_field hoi hdi (x := .int i 0) rfl ?_)
  show wpAny _ _ (seqItems? (.ref l) >>= _) _ _ s
  refine wpAny_bind (wpAny_seqItems hol hdl ?_)
  simp only [Int.toNat_natCast, hx]
  refine wpAny_bind (wpAny_setField hoi hdi (by simp) (wpAny_pure ⟨v, rfl, wpAny_pure (hQ _ ?_ (Heap.SameBut.update ..))⟩))
  refine ⟨_, Heap.get?_update_self _ hoi (Obj.isFreed_of_fields (Obj.data_mapFields hdi _)), (Obj.cls_mapFields ..).trans hci, ?_⟩
  rw [Obj.data_mapFields hdi]; simp [rawInt]
theorem seq_end {it l : Addr} {i : Nat} {its : Array Value} {Q : Option Value → Shared → Prop} (hh : A.handled = none) (hit : s.heap.IsListIter it l i) (hl : SeqAt s.heap l its) (hx : its[i]? = none)
    (hQ : ∀ h', Heap.ExtBut it s.heap h' → Q none { s with heap := h' }) : wpAny (model prog w) A (pyNext (.ref it)) Q E s := by
  obtain ⟨oi, hoi, hci, hdi⟩ := id hit
  obtain ⟨ol, nl, hol, hdl⟩ := hl
  unfold pyNext
  refine wpAny_bind (wpAny_attempt (wpAny_callSpecial?_slot (name := Str.ofString "__next__") hit.typeIs slot_listiter_next (wpAny_call_entry slot_listiter_next hit.typeIs entry_listiter_next ?_ (args_listiter_next _))))
  show wpAny _ _ (field (.ref it) 0 >>= _) _ _ s
  refine wpAny_bind (wpAny_field hoi hdi (x := .ref l) rfl ?_)
  show wpAny _ _ (if (Value.ref l == Value.none) = true then _ else _) _ _ s
  rw [if_neg (show ¬ ((Value.ref l == Value.none) = true) from Bool.false_ne_true)]
  show wpAny _ _ (field (.ref it) 1 >>= _) _ _ s
  refine wpAny_bind (wpAny_field hoi hdi (x := .int i 0) rfl ?_)
  show wpAny _ _ (seqItems? (.ref l) >>= _) _ _ s
  refine wpAny_bind (wpAny_seqItems hol hdl ?_)
  simp only [Int.toNat_natCast, hx]
  refine wpAny_bind (wpAny_rule (wpAny_bind (wpAny_setField hoi hdi (by simp) ?_)))
  show wpAny _ _ (newExc (.type "StopIteration") [] >>= _) _ _ _
  refine wpAny_bind ?_
  simp only [newExc, newTuple]
  refine wpAny_bind (wpAny_newObj_type ?_ (by size_fits))
  refine wpAny_bind (m := firstArgMember _ _) (wpAny_of_eq (a := Value.none) (by first | rfl | (simp only [firstArgMember]; rfl)) ?_)
  refine wpAny_newObj_type ?_ (by size_fits)
  simp only [raiseNew]
  refine wpAny_bind (wpAny_handled ?_)
  rw [show A.in1.handled = none from hh]
  refine wpAny_bind (wpAny_pure (wpAny_throw ?_))
  refine wpAny_bind (wpAny_isInstance (T := "StopIteration") (b := true) ⟨_, Heap.get?_push_size _ rfl, rfl⟩ isSubtype_stop ?_)
  exact wpAny_pure (hQ _ (((Heap.SameBut.update ..).extBut.push _).push _))

/-- the walk over an object that holds pairs -/
theorem walkAcc (hh : A.handled = none) (I ax : Addr) (hne : ax ≠ I) (its : Array Value) (Ts : Nat → Addr) (vals : Nat → Array Value)
    (hit : ∀ j, j < its.size → its[j]? = some (.ref (Ts j))) (hTI : ∀ j, j < its.size → Ts j ≠ I) :
    WalksU prog w A I (I :: ax :: (List.range its.size).map Ts) [I] its.size (fun j v => v = vals j)
      (fun j h => h.IsListIter I ax j ∧ SeqAt h ax its ∧ ∀ k, k < its.size → h.IsTuple (Ts k) (vals k))
      (fun j T h => (j < its.size ∧ T = Ts j) ∧ h.IsListIter I ax (j + 1) ∧ SeqAt h ax its ∧ ∀ k, k < its.size → h.IsTuple (Ts k) (vals k)) where
  sub := fun b hb => by simp at hb; simp [hb]
  frame := fun _ _ _ st hk => ⟨st.1.at fun o e => hk I (by simp) o e, st.2.1.at fun o e => hk ax (by simp) o e,
    fun k hk' => (st.2.2 k hk').at fun o e => hk (Ts k) (List.mem_cons_of_mem _ (List.mem_cons_of_mem _ (List.mem_map.mpr ⟨k, List.mem_range.mpr hk', rfl⟩))) o e⟩
  item := fun i s Q E hi st hQ => by
    refine seq_next st.1 st.2.1 (v := .ref (Ts i)) (hit i hi) fun h' hit' hs' => ?_
    have tup : ∀ k, k < its.size → h'.IsTuple (Ts k) (vals k) := fun k hk' => (st.2.2 k hk').extBut hs'.extBut (hTI k hk')
    exact hQ (Ts i) (vals i) h' s.toks rfl (tup i hi) ⟨⟨hi, rfl⟩, hit', st.2.1.at fun o e => hs'.extBut ax o hne e, tup⟩ fun b o hb e => hs'.extBut b o (fun h => hb (by simp [h])) e
  go := fun _ _ _ _ _ s Q _ hm hQ => wpAny_letOwnedTupleGo_listiter hm.2.1 (hQ s.heap hm.2 fun _ _ _ e => e)
  apart := fun j T _ hm hmem => by
    rcases List.mem_cons.mp hmem with e | e
    · exact hTI j hm.1.1 (hm.1.2 ▸ e)
    · cases e
  done := fun s Q E st hQ => seq_end hh st.1 st.2.1 (by simp) fun h' he' => hQ h' s.toks fun b o hb e => he' b o (fun h => hb (by simp [h])) e
  self := fun _ _ _ _ st hQ => wpAny_pyIter_listiter st.1 hQ

variable {K : Frag} {h₀ : Heap} {L x d : Addr} {m : Str → Option Value} {news : Led} {vs : List Value} {ep : Nat}
theorem iter_accK {Q : Value → Shared → Prop} (F : Fr h₀ L s.heap m) (X₀ : K.In h₀) (N : News h₀ L s.heap news) (hx : (x, accO d vs ep) ∈ news) (hm : mroIn K 180 (.type "list") = some true) (hf : findIn K (.ref 180) "__iter__" = some (some (.builtin "list.__iter__")))
    (hQ : Q (.ref s.heap.objs.size) { s with heap := s.heap.push { cls := .type "list_iterator", data := .fields #[.ref x, .int 0 0] } }) : wpAny (model prog w) A (pyIter (.ref x)) Q E s := by
  have X := X₀.keeps F.keep
  have z := (N _ hx).1
  have step : wpAny (model prog w) A (call (.builtin "list.__iter__") [.ref x]) (fun v => (fun (r : Option Value) s' => r = some (.ref s.heap.objs.size) ∧ s' = { s with heap := s.heap.push { cls := .type "list_iterator", data := .fields #[.ref x, .int 0 0] } }) (some v)) E s := by
    refine call_sub slot_list_iter.plain entry_list_iter (.inl kind_iter) split_iter (looks_isList X z hm) (args_list_iter _) ?_
    show wpAny _ _ (do ret (← newFields "list_iterator" [.ref x, rawInt 0])) _ _ s
    exact wpAny_bind (wpAny_newObj_type (wpAny_pure ⟨_, rfl, rfl, rfl⟩))
  unfold pyIter specialOf
  refine wpAny_bind (wpAny_bind ((acc_type z).here ((looks_findIn X hf).here ?_)))
  dsimp only
  simp only [callSpecialIfBoundUnlessNone?, bindSpecialIfBound?]
  refine wpAny_bind (wpAny_holding (wpAny_bind (wpAny_bind ?_)))
  unfold specialOf
  refine wpAny_bind ((acc_type z).here ((looks_findIn X hf).here ?_))
  simp only [slot_list_iter.bind]
  refine wpAny_bind (wpAny_askSetting (wpAny_ite ?_))
  have fin : ∀ {refuse : Sem Value} {R : Option Value → Shared → Prop}, R (some (.ref s.heap.objs.size)) { s with heap := s.heap.push { cls := .type "list_iterator", data := .fields #[.ref x, .int 0 0] } } →
      wpAny (model prog w) A (if (Value.builtin "list.__iter__" == Value.none) = true then (refuse >>= fun v => pure (some v)) else (call (.builtin "list.__iter__") [.ref x] >>= fun v => pure (some v))) R E s := by
    intro refuse R hR
    simp only [builtin_beq_none, Bool.false_eq_true, if_false]
    refine wpAny_bind (wpAny_mono step (fun v s' h' => ?_) fun _ _ h' => h')
    obtain ⟨e1, rfl⟩ := h'
    cases e1
    exact wpAny_pure hR
  have T : ({ s with heap := s.heap.push { cls := .type "list_iterator", data := .fields #[.ref x, .int 0 0] } } : Shared).TypeIs (.ref s.heap.objs.size) "list_iterator" := ⟨_, Heap.get?_push_size _ rfl, rfl⟩
  split
  · exact wpAny_bind (wpAny_pure (wpAny_pure (fin (wpAny_bind (wpAny_specialOf T slot_listiter_next.lookup (wpAny_pure hQ))))))
  · exact wpAny_tryCatch (wpAny_bind (wpAny_pure (wpAny_pure (fin (wpAny_bind (wpAny_specialOf T slot_listiter_next.lookup (wpAny_pure hQ)))))))
end
end SR
end
section
open PySem PySem.W PyProof.Rows PySem.Calls PySem.Spec
set_option Elab.async false
set_option maxRecDepth 100000
namespace SR
theorem empty_cps : (Str.ofString "").cps = #[] := by decide +kernel
theorem join_cps : ∀ l : List Str, (Txt.join (Str.ofString "") l).cps.toList = (l.map fun x => x.cps.toList).flatten := by
  intro l
  unfold Txt.join
  rw [StrLaws.glued_eq_join]
  induction l with
  | nil => rfl
  | cons a r ih =>
    cases r with
    | nil => simp [Str.join]
    | cons b q =>
      rw [Str.join]
      · show (((a.cps ++ (Str.ofString "").cps) ++ (Str.join (Str.ofString "") (b :: q)).cps)).toList = _
        rw [empty_cps, Array.toList_append, Array.toList_append, ih]
        simp
      · intro h; cases h
theorem str_of {x y : Str} (h : x.cps.toList = y.cps.toList) : x = y := by
  obtain ⟨a⟩ := x; obtain ⟨b⟩ := y
  congr 1
  exact Array.toList_inj.mp h
theorem join_two (a b : Str) : Txt.join (Str.ofString "") [a, b] = a ++ b := by
  apply str_of
  rw [join_cps]
  show _ = (a.cps ++ b.cps).toList
  simp
section
variable {prog : Program} {w : World} {A : Around} {E : Value → Shared → Prop} {s : Shared}
theorem elt_join {cenv : Env} {elt : PySem.Expr} {pl : Sem Bool} {mg m₂ : Str → Option Value} {a b : Str} {tE ta tb : Tok} {p1 p2 p3 p4 p5 p6 : Pos} {k : Nat} (hu : s.heap.Ns mainGlobals mg) (hv : mg (Str.ofString "EMPTYSTRING") = some (.str (Str.ofString "") tE)) (hn : s.heap.Ns cenv.locals m₂) (h1 : m₂ (Str.ofString "fws") = some (.str a ta)) (h2 : m₂ (Str.ofString "part") = some (.str b tb))
    (hg : cenv.globals = mainGlobals) (hk : cenv.scope.kind = .function) (hx : cenv.kindOf (Str.ofString "EMPTYSTRING") = some .globalImplicit) (hx1 : cenv.kindOf (Str.ofString "fws") = some .local) (hx2 : cenv.kindOf (Str.ofString "part") = some .local) (hz : a.length + b.length ≤ 1000)
    (he : eval elt cenv = (do
      let ov ← eval (.Name (Str.ofString "EMPTYSTRING") p1) cenv
      standAt p2.atName
      let (f, first) ← holding [ov] (getMethod ov (Str.ofString "join") pl)
      callWith p6 f first (backTo p6 (starEach [.Tuple [.Name (Str.ofString "fws") p3, .Name (Str.ofString "part") p4] k p5] cenv)) [])) :
    wpAny (model prog w) A (eval elt cenv) (fun y s₃ => (∃ t, y = .str (a ++ b) t) ∧ Keeps s s₃) E s := by
  rw [he]
  refine wpAny_bind (Name_function_global hk hx (loadGlobal_global (env := cenv) (by rw [hg]; exact hu) hv ?_) (by decide))
  refine wpAny_bind (wpAny_standAt (wpAny_bind (wpAny_holding ?_)))
  walk1
  walk1
  walk1
  refine Tuple_ ?_
  walk1
  refine wpAny_Name (wpAny_loadName_local hk hx1 hn h1 ?_) (by decide)
  walk1
  refine wpAny_Name (wpAny_loadName_local hk hx2 hn h2 ?_) (by decide)
  walk1
  refine wpAny_newObj_type ?_ (by size_fits)
  walk1
  refine join_tuple (items := #[.str a ta, .str b tb]) (ys := [a, b]) ⟨_, Heap.get?_push_size _ rfl, rfl, _, rfl⟩ (.cons _ _ (.cons _ _ .nil)) ?_ ?_
  · have e : (Str.ofString "").length = 0 := by show (Str.ofString "").cps.size = 0; rw [empty_cps]; rfl
    rw [e]; simp; omega
  · intro t' k'
    refine ⟨⟨t', ?_⟩, _, _, rfl, fun b o e => Heap.get?_push_of_some _ e⟩
    rw [join_two]
end
end SR
end
section
open PySem PySem.W PyProof.Rows PySem.Calls PySem.Spec
set_option Elab.async false
set_option maxRecDepth 100000
namespace SR
/-- a piece of a heap: the pair's place and its two texts -/
structure Pc where
  T : Addr
  a : Str
  ta : Tok
  b : Str
  tb : Tok
noncomputable abbrev Pc.ref (q : Pc) : Value := .ref q.T
noncomputable abbrev Pc.vals (q : Pc) : List Value := [.str q.a q.ta, .str q.b q.tb]
noncomputable def Pc.zero : Pc := ⟨0, Str.empty, 0, Str.empty, 0⟩
theorem four_of {α : Type} : ∀ {l : List α}, l.length = 4 → ∃ a b c d, l = [a, b, c, d] := by
  intro l h
  rcases l with _ | ⟨a, _ | ⟨b, _ | ⟨c, _ | ⟨d, _ | ⟨e, r⟩⟩⟩⟩⟩
  iterate 4 (cases h)
  · exact ⟨a, b, c, d, rfl⟩
  · cases h
section
variable {prog : Program} {w : World} {A : Around} {E : Value → Shared → Prop} {s : Shared} {K : Frag} {h₀ : Heap} {L x d c P : Addr} {m mg mb : Str → Option Value} {rest : Led} {ep : Nat} {p : Program} {loose : List Str} {mean : ExcName → Option Value}
theorem passing_all (n : Nat) : passing (fun _ => true) n 0 = List.range n := by
  unfold passing
  rw [List.drop_zero, List.filter_eq_self]
  intro a _
  rfl
theorem isCode_of {h : Heap} {o : Obj} {ps : Array Value} (C : CodeHd h c P) (hP : h.get? P = some o) (hd : o.data = .fields ps) (ht : TriplesOk ps.toList) : h.IsCode c P ps := by
  obtain ⟨o', vs, file, tf, flags, tg, inF, text, tt, e1, _, e3, _, f3, f4, f5, f6, f7, f11⟩ := C
  exact ⟨o', vs, file, tf, flags, tg, inF, text, tt, o, e1, e3, f3, f4, f5, f6, f7, hP, hd, ht, f11⟩
theorem of_isCode {h : Heap} {ps : Array Value} (C : h.IsCode c P ps) : ∃ o, h.get? P = some o ∧ o.data = .fields ps ∧ TriplesOk ps.toList := by
  obtain ⟨_, _, _, _, _, _, _, _, _, o, _, _, _, _, _, _, _, hP, hd, ht, _⟩ := C
  exact ⟨o, hP, hd, ht⟩

structure IsTab (o : Obj) (ps : Array Value) : Prop where
  eq : o = tabObj ps
theorem IsTab.data {o : Obj} {ps : Array Value} (h : IsTab o ps) : o.data = .fields ps := by cases h.eq; rfl
/-- the code of a generator, its table known whole -/
theorem genexprCode_T {env : Env} {ps : Array Value} {pos : Pos} {qualname : Str} {scope : Scope} {Q : Value → Shared → Prop} (hc : env.code = .ref c) (C : CodeHd s.heap c P) (hP : s.heap.get? P = some (tabObj ps)) (ht : TriplesOk ps.toList)
    (hQ : ∀ code h' tk ps', Heap.ExtBut P s.heap h' → h'.get? P = some (tabObj ps') → TriplesOk ps'.toList → Q code { s with heap := h', toks := tk }) :
    wpAny (model prog w) A (genexprCode env pos qualname scope) Q E s := by
  cases hf : codeAmong pos ps.toList with
  | some cv => exact wpAny_genexprCode_hit hc (C.code hP ht) hf (hQ cv s.heap s.toks ps (Heap.ExtBut.refl _ _) hP ht)
  | none =>
    refine wpAny_genexprCodeX hc (C.code hP ht) (C.tab hP) hf fun c' h' tk hx _ _ hi _ hta _ => ?_
    obtain ⟨_, _, _, ht'⟩ := of_isCode hi
    exact hQ _ h' tk _ hx hta.2 ht'
theorem gen_acc {env : Env} {elt iter : PySem.Expr} {pa pb pt p1 p2 p3 p4 p5 p6 : Pos} {kt kk : Nat} {scope : Scope} {cl : List (Str × Addr)} {pos : Pos} {o : Obj} {ps : Array Value} {Q : Value → Shared → Prop} {pcs : List Pc} {tE : Tok}
    (F : Fr h₀ L s.heap m) (X : K.In h₀) (N : News h₀ L s.heap ((P, o) :: rest)) (T : Top p loose mean mg mb h₀) (hr : ∀ q ∈ rest, q.1 ≠ P) (C : CodeHd h₀ c P) (ho : IsTab o ps) (htr : TriplesOk ps.toList) (hcode : env.code = .ref c) (hglob : env.globals = mainGlobals)
    (hx : (x, accO d (pcs.map Pc.ref) ep) ∈ rest) (hp : ∀ q ∈ pcs, (q.T, tupO q.vals) ∈ rest) (hz : ∀ q ∈ pcs, q.a.length + q.b.length ≤ 1000) (hm : mroIn K 180 (.type "list") = some true) (hf : findIn K (.ref 180) "__iter__" = some (some (.builtin "list.__iter__"))) (hE : nsIn K mainGlobals (Str.ofString "EMPTYSTRING") = some (some (.str (Str.ofString "") tE)))
    (hh : A.handled = none) (hco : scope.isCoroutine = false) (hclos : closureFor scope env = pure cl) (hcell : ∀ y ∈ scope.names, y.2 ≠ .cell) (h0 : scope.names.lookup (".0" : Str) = some NameKind.local) (hxa : scope.names.lookup (Str.ofString "fws") = some .local) (hxb : scope.names.lookup (Str.ofString "part") = some .local)
    (hxE : scope.names.lookup (Str.ofString "EMPTYSTRING") = some .globalImplicit) (hkind : scope.kind = .function) (hroom : A.depth < recursionLimit) (hself : ∀ (Q : Value → Shared → Prop), Q (.ref x) s → wpAny (model prog w) A (eval iter env) Q E s)
    (hs : ∀ x, genFold iter env x = pure x)
    (he : ∀ C code bi, ∃ pl : Sem Bool, eval elt (genEnv scope cl C code bi env) = (do
      let ov ← eval (.Name (Str.ofString "EMPTYSTRING") p1) (genEnv scope cl C code bi env)
      standAt p2.atName
      let (f, first) ← holding [ov] (getMethod ov (Str.ofString "join") pl)
      callWith p6 f first (backTo p6 (starEach [.Tuple [.Name (Str.ofString "fws") p3, .Name (Str.ofString "part") p4] kk p5] (genEnv scope cl C code bi env))) []))
    (hQ : ∀ a h₅ tk gs (k : Addr) o' ps', gs.bare = true → Fr h₀ L h₅ m → News h₀ L h₅ ((P, o') :: rest) → IsTab o' ps' → TriplesOk ps'.toList → L ≤ k → (∀ q ∈ (P, o') :: rest, q.1 ≤ k) →
      Gen prog w A k a pcs.length (fun j v => ∃ t, v = .str ((pcs.getD j Pc.zero).a ++ (pcs.getD j Pc.zero).b) t) { s with gens := s.gens.push gs, toks := tk, heap := h₅ } → Q (.ref a) { s with gens := s.gens.push gs, toks := tk, heap := h₅ }) :
    wpAny (model prog w) A (eval (.GeneratorExp elt [⟨.Tuple [.Name (Str.ofString "fws") pa, .Name (Str.ofString "part") pb] kt pt, iter, [], 0⟩] scope pos) env) Q E s := by
  refine wpAny_GeneratorExp_walksQT hh hco hclos hcell h0 hxa hxb (by decide) hkind hroom (hself _ ?_) hs
  have hP := N _ (.head _)
  refine iter_accK F X N (List.mem_cons_of_mem _ hx) hm hf ?_
  have lim : s.heap.NoLimit := T.nolimit.keeps F.keep
  have up1 : ∀ {l : Obj} b o, s.heap.get? b = some o → (s.heap.push l).get? b = some o := fun b o e => Heap.get?_push_of_some _ e
  refine ⟨lim.push _, genexprCode_T hcode ((C.keeps F.keep).keeps up1) (up1 _ _ (by rw [hP.1, ho.eq])) htr fun code h₃ tk₃ ps' hx₃ hP' ht' => ?_⟩
  obtain ⟨o', hd'⟩ : ∃ o', IsTab o' ps' := ⟨_, ⟨rfl⟩⟩
  rw [← hd'.eq] at hP'
  have up3 : ∀ b o, b ≠ P → s.heap.get? b = some o → h₃.get? b = some o := fun b o hb e => hx₃ b o hb (up1 b o e)
  have hPL : L ≠ P := fun e => hP.2.1 e.symm
  have F₃ : Fr h₀ L h₃ m := ⟨F.ns.at' fun o e => up3 _ o hPL e, fun b o e => up3 b o (fun q => by rw [q, hP.2.2] at e; cases e) (F.keep b o e), F.above⟩
  have N₃ : News h₀ L h₃ ((P, o') :: rest) := by
    intro q hq
    rcases List.mem_cons.mp hq with rfl | hq
    · exact ⟨hP', hP.2.1, hP.2.2⟩
    · exact ⟨up3 _ _ (hr q hq) (N _ (.tail _ hq)).1, (N _ (.tail _ hq)).2⟩
  obtain ⟨bm, ob, b1, b2, b3, b4, b5, b6⟩ := T.bmain
  refine wpAny_builtinsFor (m := mg) (bm := bm) (o := ob) (by rw [hglob]; exact T.g.keeps F₃.keep) b1 b2 (F₃.keep _ _ b3) b4 b5 b6 ?_
  have lim3 : h₃.NoLimit := T.nolimit.keeps F₃.keep
  have hIP : s.heap.objs.size ≠ P := fun e => Nat.lt_irrefl _ (e ▸ Heap.lt_size hP.1)
  have hit3 : h₃.IsListIter s.heap.objs.size x 0 := ⟨_, hx₃ _ _ hIP (Heap.get?_push_size _ rfl), rfl, rfl⟩
  have hsz : s.heap.objs.size < h₃.objs.size := by
    obtain ⟨_, e, _⟩ := hit3
    exact Heap.lt_size e
  have hxs : x < s.heap.objs.size := Heap.lt_size (N _ (List.mem_cons_of_mem _ hx)).1
  have hT : ∀ q ∈ pcs, q.T < s.heap.objs.size := fun q hq => Heap.lt_size (N _ (List.mem_cons_of_mem _ (hp q hq))).1
  have hget : ∀ j, j < pcs.length → pcs.getD j Pc.zero ∈ pcs := fun j hj => by
    rw [List.getD_eq_getElem?_getD, List.getElem?_eq_getElem hj]
    exact List.getElem_mem hj
  have hszA : (pcs.map Pc.ref).toArray.size = pcs.length := by simp
  have hitems : ∀ j, j < (pcs.map Pc.ref).toArray.size → (pcs.map Pc.ref).toArray[j]? = some (.ref (pcs.getD j Pc.zero).T) := fun j hj => by
    rw [hszA] at hj
    simp [List.getD_eq_getElem?_getD, hj]
  have hTup : ∀ h : Heap, (∀ b o, b ≠ P → s.heap.get? b = some o → h.get? b = some o) → ∀ k, k < (pcs.map Pc.ref).toArray.size → h.IsTuple (pcs.getD k Pc.zero).T (pcs.getD k Pc.zero).vals.toArray := fun h up k hk => by
    rw [hszA] at hk
    have hq := hget k hk
    exact ⟨_, up _ _ (hr _ (hp _ hq)) (N _ (List.mem_cons_of_mem _ (hp _ hq))).1, rfl, _, rfl⟩
  have W := fun (A' : Around) (hA : A'.handled = none) => walkAcc (prog := prog) (w := w) hA s.heap.objs.size x (Nat.ne_of_lt hxs) (pcs.map Pc.ref).toArray (fun j => (pcs.getD j Pc.zero).T) (fun j => (pcs.getD j Pc.zero).vals.toArray) hitems (fun j hj => Nat.ne_of_lt (hT _ (hget j (hszA ▸ hj))))
  have hbelow : ∀ q ∈ (P, o') :: rest, q.1 < s.heap.objs.size := by
    intro q hq
    rcases List.mem_cons.mp hq with rfl | hq
    · exact Heap.lt_size hP.1
    · exact Heap.lt_size (N _ (.tail _ hq)).1
  have hLs : L < s.heap.objs.size := F.ns.lt
  obtain ⟨k, hk⟩ : ∃ k, s.heap.objs.size = k + 1 := ⟨s.heap.objs.size - 1, by have : 0 < s.heap.objs.size := Nat.lt_of_le_of_lt (Nat.zero_le _) hLs; omega⟩
  refine ⟨s.heap.objs.size, _, [s.heap.objs.size], _, _, _, _, fun _ => true, fun j v => ∃ t, v = .str ((pcs.getD j Pc.zero).a ++ (pcs.getD j Pc.zero).b) t, rfl, W, ?_, ⟨hit3, ?_, hTup h₃ up3⟩, ?_, lim3, ?_, ?_, ?_⟩
  · rintro i vals rfl
    exact ⟨_, _, rfl⟩
  · exact ⟨_, _, (N₃ _ (List.mem_cons_of_mem _ hx)).1, rfl⟩
  · intro b hb
    refine Nat.lt_of_le_of_lt ?_ hsz
    rcases List.mem_cons.mp hb with rfl | hb
    · exact Nat.le_refl _
    · rcases List.mem_cons.mp hb with rfl | hb
      · exact Nat.le_of_lt hxs
      · obtain ⟨j, hj, rfl⟩ := List.mem_map.mp hb
        exact Nat.le_of_lt (hT _ (hget j (hszA ▸ List.mem_range.mp hj)))
  · intro hmem
    obtain ⟨_, ⟨oc, _, _, e, _⟩, _⟩ := lim
    exact Nat.lt_irrefl _ ((List.mem_singleton.mp hmem) ▸ Heap.lt_size e)
  · intro href hhref
    refine ⟨fun A' E' i va vb s₂ m₂ _ _ _ _ _ _ => wpAny_pure ⟨rfl, _, _, rfl, fun _ _ e => e⟩, fun A' E' i va vb s₂ m₂ _ hP hpz hn₂ ha hb hkp => ?_⟩
    have hva : va = .str (pcs.getD i Pc.zero).a (pcs.getD i Pc.zero).ta := by have := congrArg (fun z : Array Value => z[0]?) hP; simpa using this
    have hvb : vb = .str (pcs.getD i Pc.zero).b (pcs.getD i Pc.zero).tb := by have := congrArg (fun z : Array Value => z[1]?) hP; simpa using this
    subst hva hvb
    have hu : s₂.heap.Ns mainGlobals mg := (T.g.keeps F₃.keep).at' fun og e => hkp _ (List.mem_range.mpr (Heap.lt_size e)) (fun hmem => by
      obtain ⟨og', _, _, e', _⟩ := T.g
      exact Nat.lt_irrefl _ ((List.mem_singleton.mp hmem) ▸ Heap.lt_size (F.keep _ _ e'))) og (hhref _ _ e)
    obtain ⟨pl, hel⟩ := he h₃.objs.size code builtinsNs
    refine elt_join (pl := pl) hu (mg_of X T.g hE) hn₂ ha hb hglob hkind hxE hxa hxb ?_ hel
    by_cases hi : i < pcs.length
    · exact hz _ (hget i hi)
    · rw [List.getD_eq_getElem?_getD, List.getElem?_eq_none (Nat.le_of_not_lt hi)]
      exact Nat.zero_le _
  · intro a h₅ tk gs hgb hag hsz5 hk5 Wg hat
    have hLk : L ≤ k := by
      rw [hk] at hLs
      exact Nat.le_of_lt_succ hLs
    refine hQ a h₅ tk gs k o' ps' hgb (F₃.keeps hk5) (N₃.grown hk5) hd' ht' hLk (fun q hq => by
      have := hbelow q hq
      rw [hk] at this
      exact Nat.le_of_lt_succ this) ?_
    have hn : (passing (fun _ => true) (pcs.map Pc.ref).toArray.size 0).length = pcs.length := by rw [passing_all, List.length_range, hszA]
    refine ⟨_, _, _, _, { sub := Wg.sub, grefl := Wg.grefl, gtrans := Wg.gtrans, frame := Wg.frame, self := Wg.self, item := fun i s' Q' E' hi st hq => Wg.item i s' Q' E' (by rw [hn]; exact hi) st fun v s'' hP => hq v s'' ?_, done := fun s' Q' E' st hq => Wg.done s' Q' E' (by rw [hn]; exact st) hq }, hat, fun i s' st => st.1.typeIs, List.mem_cons_self, ?_, ?_⟩
    · obtain ⟨i', hi', hF⟩ := hP
      rw [passing_all] at hi'
      have e : i' = i := by
        have hlt : i < (pcs.map Pc.ref).toArray.size := by rw [hszA]; exact hi
        rw [List.getElem?_range hlt] at hi'
        exact (Option.some.inj hi').symm
      subst e
      exact hF
    · intro b hb
      show b < h₅.objs.size
      rw [hsz5]
      rcases List.mem_cons.mp hb with rfl | hb
      · exact Nat.lt_succ_self _
      · rcases List.mem_cons.mp hb with rfl | hb
        · exact Nat.lt_succ_of_lt hag
        · exact Nat.lt_succ_of_lt (Nat.lt_trans (List.mem_range.mp hb) hag)
    · intro b hb
      rcases List.mem_cons.mp hb with rfl | hb
      · show k < h₃.objs.size
        rw [hk] at hsz
        exact Nat.lt_of_succ_lt hsz
      · rw [List.mem_singleton.mp hb, hk]
        exact Nat.lt_succ_self _
end
end SR
end
section
open PySem PySem.W PyProof.Rows PySem.Calls PySem.Spec LCg
set_option Elab.async false
set_option maxRecDepth 100000
namespace SR
theorem fin_lt {n i : Nat} (h : i < n) : n + 1 - (i + 1) < n + 1 - i := by omega
/-- the state between two turns of a loop -/
inductive LoopO (h₀ : Heap) (L : Addr) (s : Shared) (n : Nat) (St : Nat → Heap → Prop) (Off S : Led → Prop) (J : Nat → (Str → Option Value) → Led → Prop) (k : Nat) (s' : Shared) : Prop
  | mk (i : Nat) (h : Heap) (tk : Nat) (g : Array GenState) (m₁ : Str → Option Value) (news₁ : Led) (e : s' = { s with heap := h, toks := tk, gens := g }) (hi : i ≤ n) (hk : k = n + 1 - i) (st : St i h) (F : Fr h₀ L h m₁) (N : News h₀ L h news₁) (off : Off news₁) (G : AllBare g) (hS : S news₁) (hJ : J i m₁ news₁) : LoopO h₀ L s n St Off S J k s'
inductive EndI (h₀ : Heap) (L : Addr) (dr : Drawn) (os : OsState) (I : Addr) (oI : Obj) (S : Led → Prop) (J : (Str → Option Value) → Led → Prop) (s' : Shared) : Prop
  | mk (h' : Heap) (tk : Nat) (g : Array GenState) (m' : Str → Option Value) (news' : Led) (e : s' = ⟨h', g, dr, tk, os⟩) (F : Fr h₀ L h' m') (N : News h₀ L h' ((I, oI) :: news')) (off : ∀ p ∈ news', p.1 ≠ I) (G : AllBare g) (hS : S news') (hJ : J m' news') : EndI h₀ L dr os I oI S J s'
/-- what must hold where a turn of a loop ends -/
noncomputable def TurnEnd (h₀ : Heap) (L : Addr) (s : Shared) (I : Addr) (oI : Obj) (S : Led → Prop) (J : (Str → Option Value) → Led → Prop) (R : Result → Shared → Prop) (f : Flow) (s' : Shared) : Prop :=
  match f with
  | .next | .cont => EndI h₀ L s.drawn s.os I oI S J s'
  | .brk => R (.ok .next) s'
  | .ret v => R (.ok (.ret v)) s'
section
variable {prog : Program} {w : World} {A : Around} {E : Value → Shared → Prop} {s : Shared} {h₀ : Heap} {env : Env}
theorem for_own {x : Str} {px : Pos} {body : List Stmt} {R : Result → Shared → Prop} {I : Addr} {fp : List Addr} {n : Nat} {P : Nat → Value → Prop} {St : Nat → Heap → Prop} {S : Led → Prop} {m₀ : Str → Option Value} {news₀ : Led} (J : Nat → (Str → Option Value) → Led → Prop)
    (W : Walks prog w A I fp [I] n P St) (hIo : ∀ i h, St i h → ∃ o, h.get? I = some o)
    (hSt : ∀ i h h' o nw, St i h → h.get? I = some o → h'.get? I = some o → (∀ b o, h₀.get? b = some o → h'.get? b = some o) → News h₀ env.locals h' nw → S nw → St i h')
    (hx : env.kindOf x = some .local) (hp : (env.scope.kind == .class || (env.scope.kind == .module && env.locals != env.globals)) = false)
    (F : Fr h₀ env.locals s.heap m₀) (N : News h₀ env.locals s.heap news₀) (hst : St 0 s.heap) (hIL : env.locals ≠ I) (hI₀ : h₀.get? I = none) (off : ∀ p ∈ news₀, p.1 ≠ I) (hS : S news₀) (hG : AllBare s.gens) (hJ : J 0 m₀ news₀)
    (hR : ∀ m₁ news₁ h tk g, J n m₁ news₁ → Fr h₀ env.locals h m₁ → News h₀ env.locals h news₁ → AllBare g → R (.ok .next) { s with heap := h, toks := tk, gens := g })
    (turn : ∀ i v m₁ news₁ oI h tk g (E' : Value → Shared → Prop), i < n → P i v → J i m₁ news₁ → Fr h₀ env.locals h (fun y => if y = x then some v else m₁ y) → News h₀ env.locals h ((I, oI) :: news₁) → (∀ p ∈ news₁, p.1 ≠ I) → AllBare g → S news₁ →
      wpAny (model prog w) A (execs body env) (TurnEnd h₀ env.locals s I oI S (J (i + 1)) R) E' { s with heap := h, toks := tk, gens := g }) :
    codeAny (model prog w) A (.forLoop (.Name x px) (.ref I) body [] env) R s := by
  refine codeAny_forLoop (LoopO h₀ env.locals s n St (fun l => ∀ p ∈ l, p.1 ≠ I) S J) ?_ (n + 1)
    ⟨0, s.heap, s.toks, s.gens, m₀, news₀, rfl, Nat.zero_le _, rfl, hst, F, N, off, hG, hS, hJ⟩
  rintro k s' ⟨i, h, tk, g, m₁, news₁, rfl, hi, rfl, hst', F', N', off', hG', hS', hJ'⟩
  by_cases hlt : i < n
  · refine W.item i _ _ _ hlt hst' fun v h₂ tk₂ hPv hst₂ hk₂ => ?_
    have F₂ : Fr h₀ env.locals h₂ m₁ := fr_but F' hk₂ hIL hI₀
    refine wpAny_assign_Name (wpAny_storeName_local hx F₂.ns (fun h₃ hn₃ hs₃ => ?_) hp)
    have hL₀ : h₀.get? env.locals = none := Heap.get?_none_of_le F₂.above
    have hst₃ : St (i + 1) h₃ := by
      obtain ⟨oI, heI⟩ := hIo _ _ hst₂
      have N₂ : News h₀ env.locals h₂ news₁ := fun p hp => ⟨hk₂ p.1 p.2 (by simpa using off' p hp) (N' p hp).1, (N' p hp).2⟩
      exact hSt _ _ _ _ news₁ hst₂ heI (hs₃.extBut _ _ (Ne.symm hIL) heI) (fun b o e => hs₃.extBut b o (fun q => by rw [q, hL₀] at e; cases e) (F₂.keep b o e)) (fun p hp => ⟨hs₃.extBut _ _ (N₂ p hp).2.1 (N₂ p hp).1, (N₂ p hp).2⟩) hS'
    obtain ⟨oI, heI⟩ := hIo _ _ hst₃
    have F₃ : Fr h₀ env.locals h₃ (fun y => if y = x then some v else m₁ y) := ⟨hn₃, fun b o e => hs₃.extBut b o (fun q => by rw [q, hL₀] at e; cases e) (F₂.keep b o e), F₂.above⟩
    have N₃ : News h₀ env.locals h₃ ((I, oI) :: news₁) := fun p hp => by
      rcases List.mem_cons.mp hp with rfl | hp
      · exact ⟨heI, Ne.symm hIL, hI₀⟩
      · exact ⟨hs₃.extBut _ _ (N' p hp).2.1 (hk₂ p.1 p.2 (by simpa using off' p hp) (N' p hp).1), (N' p hp).2⟩
    refine wpAny_mono (turn i v m₁ news₁ oI h₃ _ g _ hlt hPv hJ' F₃ N₃ off' hG' hS') (fun f s₄ h₄ => ?_) fun _ _ e => e
    have fin : EndI h₀ env.locals s.drawn s.os I oI S (J (i + 1)) s₄ → ∃ m, m < n + 1 - i ∧ LoopO h₀ env.locals s n St (fun l => ∀ p ∈ l, p.1 ≠ I) S J m s₄ := by
      rintro ⟨h', tk', g', m', news', rfl, F₅, N₅, off₅, hG₅, hS₅, hJ₅⟩
      have N₆ : News h₀ env.locals h' news' := fun p hp => N₅ p (List.mem_cons_of_mem _ hp)
      exact ⟨n + 1 - (i + 1), fin_lt hlt, i + 1, h', tk', g', m', news', rfl, hlt, rfl, hSt _ _ _ _ news' hst₃ heI (N₅ _ (.head _)).1 F₅.keep N₆ hS₅, F₅, N₆, off₅, hG₅, hS₅, hJ₅⟩
    cases f with
    | next => exact fin h₄
    | cont => exact fin h₄
    | brk => exact h₄
    | ret v => exact h₄
  · obtain rfl : i = n := Nat.le_antisymm hi (Nat.not_lt.mp hlt)
    refine W.done _ _ _ hst' fun h₂ tk₂ hk₂ => ?_
    exact wpAny_pure (hR m₁ news₁ h₂ tk₂ g hJ' (fr_but F' hk₂ hIL hI₀) (fun p hp => ⟨hk₂ p.1 p.2 (by simpa using off' p hp) (N' p hp).1, (N' p hp).2⟩) hG')
end
end SR
end
section
open PySem PySem.W PyProof.Rows PySem.Calls PySem.Spec LCg
set_option Elab.async false
set_option maxRecDepth 100000
namespace SR
inductive EndO (h₀ : Heap) (L : Addr) (dr : Drawn) (os : OsState) (wr : List Addr) (own : Led) (S : Led → Prop) (J : (Str → Option Value) → Led → Prop) (s' : Shared) : Prop
  | mk (h' : Heap) (tk : Nat) (g : Array GenState) (m' : Str → Option Value) (news' : Led) (e : s' = ⟨h', g, dr, tk, os⟩) (F : Fr h₀ L h' m') (N : News h₀ L h' (own ++ news')) (off : ∀ p ∈ news', p.1 ∉ wr) (G : AllBare g) (hS : S news') (hJ : J m' news') : EndO h₀ L dr os wr own S J s'
noncomputable def TurnEndO (h₀ : Heap) (L : Addr) (s : Shared) (wr : List Addr) (own : Led) (S : Led → Prop) (J : (Str → Option Value) → Led → Prop) (R : Result → Shared → Prop) (f : Flow) (s' : Shared) : Prop :=
  match f with
  | .next | .cont => EndO h₀ L s.drawn s.os wr own S J s'
  | .brk => R (.ok .next) s'
  | .ret v => R (.ok (.ret v)) s'
section
variable {prog : Program} {w : World} {A : Around} {E : Value → Shared → Prop} {s : Shared} {h₀ : Heap} {env : Env}
theorem forLoop_go {R : Result → Shared → Prop} {target : PySem.Expr} {it : Value} {body orelse : List Stmt} (I : Nat → Shared → Prop)
    (turn : ∀ n s, I n s → wpAny (model prog w) A (pyNext it) (fun r s₁ => match r with
      | none => wpAny (model prog w) A (execs orelse env) (fun f s₃ => R (.ok f) s₃) (notedBy (model prog w) A env fun e s' => R (.error e) s') s₁
      | some v => wpAny (model prog w) A (letOwnedTupleGo target it v) (fun _ s₀ => wpAny (model prog w) A (assign target env v) (fun _ s₂ => wpAny (model prog w) A (execs body env) (fun f s₃ => match f with
          | .next | .cont => ∃ m, m < n ∧ I m s₃
          | .brk => R (.ok .next) s₃
          | .ret v => R (.ok (.ret v)) s₃) (notedBy (model prog w) A env fun e s' => R (.error e) s') s₂) (notedBy (model prog w) A env fun e s' => R (.error e) s') s₀) (notedBy (model prog w) A env fun e s' => R (.error e) s') s₁) (notedBy (model prog w) A env fun e s' => R (.error e) s') s)
    (n : Nat) (h : I n s) : codeAny (model prog w) A (.forLoop target it body orelse env) R s := by
  refine codeAny_loop' rfl I (fun n s hI => ?_) n h
  show wpAny _ _ ((forTurn target it body orelse env).onRaise (fun x => do noteFrame x env; theTreesLotGoes x)) _ _ s
  refine wpAny_noted ?_
  simp only [forTurn]
  refine wpAny_bind (wpAny_standAt (wpAny_bind (wpAny_onRaise (wpAny_mono (turn n s hI) (fun r s₁ h₁ => ?_) fun _ _ h' => wpAny_standAt h'))))
  cases r with
  | none => exact wpAny_pure (.inr ⟨rfl, codeAny_block h₁⟩)
  | some v =>
    refine wpAny_bind (wpAny_mono h₁ (fun _ s₀ h₀ => wpAny_bind (wpAny_mono h₀ (fun _ s₂ h₂ => wpAny_bind (wpAny_mono h₂ (fun f s₃ h₃ => ?_) fun _ _ h' => h')) fun _ _ h' => h')) fun _ _ h' => h')
    cases f with
    | next => exact wpAny_pure (.inl ⟨rfl, h₃⟩)
    | cont => exact wpAny_pure (.inl ⟨rfl, h₃⟩)
    | brk => exact wpAny_pure h₃
    | ret v => exact wpAny_pure h₃
theorem for_ownT {xa xb : Str} {pa pb pt : Pos} {kt : Nat} {body : List Stmt} {R : Result → Shared → Prop} {I : Addr} {fp wr : List Addr} {n : Nat} {Pt : Nat → Array Value → Prop} {St : Nat → Heap → Prop} {Mid : Nat → Addr → Heap → Prop} {S : Led → Prop} {m₀ : Str → Option Value} {news₀ : Led} (J : Nat → (Str → Option Value) → Led → Prop)
    (hh : A.handled = none) (W : WalksU prog w A I fp wr n Pt St Mid) (hsz : ∀ i vals, Pt i vals → ∃ va vb, vals = #[va, vb])
    (hWo : ∀ i h, St i h → ∃ own : Led, own.map (·.1) = wr ∧ ∀ p ∈ own, h.get? p.1 = some p.2)
    (hSt : ∀ i h h' (own nw : Led), St i h → own.map (·.1) = wr → (∀ p ∈ own, h.get? p.1 = some p.2) → (∀ p ∈ own, h'.get? p.1 = some p.2) → (∀ b o, h₀.get? b = some o → h'.get? b = some o) → News h₀ env.locals h' nw → S nw → St i h')
    (hxa : env.kindOf xa = some .local) (hxb : env.kindOf xb = some .local) (hp : (env.scope.kind == .class || (env.scope.kind == .module && env.locals != env.globals)) = false)
    (F : Fr h₀ env.locals s.heap m₀) (N : News h₀ env.locals s.heap news₀) (hst : St 0 s.heap) (hIL : env.locals ∉ wr) (hI₀ : ∀ b ∈ wr, h₀.get? b = none) (off : ∀ p ∈ news₀, p.1 ∉ wr) (hS : S news₀) (hG : AllBare s.gens) (hJ : J 0 m₀ news₀)
    (hR : ∀ m₁ news₁ h tk g, J n m₁ news₁ → Fr h₀ env.locals h m₁ → News h₀ env.locals h news₁ → AllBare g → R (.ok .next) { s with heap := h, toks := tk, gens := g })
    (turn : ∀ i va vb m₁ news₁ own h tk g (E' : Value → Shared → Prop), i < n → Pt i #[va, vb] → J i m₁ news₁ → Fr h₀ env.locals h (fun y => if y = xb then some vb else if y = xa then some va else m₁ y) → own.map (·.1) = wr → News h₀ env.locals h (own ++ news₁) → (∀ p ∈ news₁, p.1 ∉ wr) → AllBare g → S news₁ → St (i + 1) h →
      wpAny (model prog w) A (execs body env) (TurnEndO h₀ env.locals s wr own S (J (i + 1)) R) E' { s with heap := h, toks := tk, gens := g }) :
    codeAny (model prog w) A (.forLoop (.Tuple [.Name xa pa, .Name xb pb] kt pt) (.ref I) body [] env) R s := by
  refine forLoop_go (LoopO h₀ env.locals s n St (fun l => ∀ p ∈ l, p.1 ∉ wr) S J) ?_ (n + 1)
    ⟨0, s.heap, s.toks, s.gens, m₀, news₀, rfl, Nat.zero_le _, rfl, hst, F, N, off, hG, hS, hJ⟩
  rintro k s' ⟨i, h, tk, g, m₁, news₁, rfl, hi, rfl, hst', F', N', off', hG', hS', hJ'⟩
  have but : ∀ {h' : Heap}, (∀ b o, b ∉ wr → h.get? b = some o → h'.get? b = some o) → Fr h₀ env.locals h' m₁ ∧ News h₀ env.locals h' news₁ := fun {h'} hk =>
    ⟨⟨F'.ns.at' fun o e => hk _ o hIL e, fun b o e => hk b o (fun hm => by rw [hI₀ b hm] at e; cases e) (F'.keep b o e), F'.above⟩, fun p hp => ⟨hk _ _ (off' p hp) (N' p hp).1, (N' p hp).2⟩⟩
  by_cases hlt : i < n
  · refine W.item i _ _ _ hlt hst' fun T vals h₁ tk₁ hPv hT₁ hmid hk₁ => ?_
    obtain ⟨va, vb, rfl⟩ := hsz i vals hPv
    refine W.go _ _ _ i T _ _ _ hmid fun h₂ hst₂ hk₂ => ?_
    have hT₂ : h₂.IsTuple T #[va, vb] := hT₁.elim fun o h => ⟨o, hk₂ _ o (W.apart i T _ hmid) h.1, h.2⟩
    obtain ⟨F₂, N₂⟩ := but (h' := h₂) fun b o hb e => hk₂ b o hb (hk₁ b o hb e)
    refine wpAny_assign_Tuple hh hT₂ rfl rfl fun h₃ hx₃ => ?_
    have old₃ : ∀ b o, h₂.get? b = some o → h₃.get? b = some o := fun b o e => hx₃ b o (Nat.ne_of_lt (Heap.lt_size e)) e
    show wpAny _ _ (assignInOrder [assign (.Name xa pa) env, assign (.Name xb pb) env] [va, vb]) _ _ _
    refine assignInOrder_cons (wpAny_assign_Name (wpAny_storeName_local hxa (F₂.ns.keeps old₃) (fun h₄ hn₄ hs₄ => ?_) hp))
    refine assignInOrder_cons (wpAny_assign_Name (wpAny_storeName_local hxb hn₄ (fun h₅ hn₅ hs₅ => ?_) hp))
    refine assignInOrder_nil ?_
    have up : ∀ b o, b ≠ env.locals → h₂.get? b = some o → h₅.get? b = some o := fun b o hb e => hs₅.extBut b o hb (hs₄.extBut b o hb (old₃ b o e))
    have hL₀ : h₀.get? env.locals = none := Heap.get?_none_of_le F'.above
    have F₅ : Fr h₀ env.locals h₅ (fun y => if y = xb then some vb else if y = xa then some va else m₁ y) := ⟨hn₅, fun b o e => up b o (fun q => by rw [q, hL₀] at e; cases e) (F₂.keep b o e), F'.above⟩
    have N₅ : News h₀ env.locals h₅ news₁ := fun p hp => ⟨up _ _ (N₂ p hp).2.1 (N₂ p hp).1, (N₂ p hp).2⟩
    obtain ⟨own, ho1, ho2⟩ := hWo _ _ hst₂
    have hmem : ∀ p ∈ own, p.1 ∈ wr := fun p hp => by rw [← ho1]; exact List.mem_map_of_mem hp
    have ho5 : ∀ p ∈ own, h₅.get? p.1 = some p.2 := fun p hp => up _ _ (fun q => hIL (q ▸ hmem p hp)) (ho2 p hp)
    have hst₅ : St (i + 1) h₅ := hSt _ _ _ own news₁ hst₂ ho1 ho2 ho5 F₅.keep N₅ hS'
    have N₆ : News h₀ env.locals h₅ (own ++ news₁) := fun p hp => by
      rcases List.mem_append.mp hp with hp | hp
      · exact ⟨ho5 p hp, fun q => hIL (q ▸ hmem p hp), hI₀ _ (hmem p hp)⟩
      · exact N₅ p hp
    refine wpAny_mono (turn i va vb m₁ news₁ own h₅ _ g _ hlt hPv hJ' F₅ ho1 N₆ off' hG' hS' hst₅) (fun f s₄ h₄ => ?_) fun _ _ e => e
    have fin : EndO h₀ env.locals s.drawn s.os wr own S (J (i + 1)) s₄ → ∃ m, m < n + 1 - i ∧ LoopO h₀ env.locals s n St (fun l => ∀ p ∈ l, p.1 ∉ wr) S J m s₄ := by
      rintro ⟨h', tk', g', m', news', rfl, F₇, N₇, off₇, hG₇, hS₇, hJ₇⟩
      have N₈ : News h₀ env.locals h' news' := fun p hp => N₇ p (List.mem_append_right _ hp)
      exact ⟨n + 1 - (i + 1), fin_lt hlt, i + 1, h', tk', g', m', news', rfl, hlt, rfl, hSt _ _ _ own news' hst₅ ho1 ho5 (fun p hp => (N₇ p (List.mem_append_left _ hp)).1) F₇.keep N₈ hS₇, F₇, N₈, off₇, hG₇, hS₇, hJ₇⟩
    cases f with
    | next => exact fin h₄
    | cont => exact fin h₄
    | brk => exact h₄
    | ret v => exact h₄
  · obtain rfl : i = n := Nat.le_antisymm hi (Nat.not_lt.mp hlt)
    refine W.done _ _ _ hst' fun h₂ tk₂ hk₂ => ?_
    obtain ⟨F₂, N₂⟩ := but hk₂
    exact wpAny_pure (hR m₁ news₁ h₂ tk₂ g hJ' F₂ N₂ hG')
end
end SR
end
section
open PySem PySem.W PyProof.Rows PySem.Calls PySem.Spec LCg
set_option Elab.async false
set_option maxRecDepth 100000
namespace SR
/-- where a turn of a comprehension ends -/
inductive CompE (h₀ : Heap) (L : Addr) (m : Str → Option Value) (dr : Drawn) (os : OsState) (I : Addr) (oI : Obj) (C D : Addr) (ys : List Value) (S : Led → Prop) (J : Value → Led → Prop) (oC : Obj) (y : Value) (s' : Shared) : Prop
  | mk (h' : Heap) (tk : Nat) (g : Array GenState) (news' : Led) (e : s' = ⟨h', g, dr, tk, os⟩) (F : Fr h₀ L h' m) (N : News h₀ L h' ((I, oI) :: (C, oC) :: (D, lst ys) :: news')) (off : ∀ p ∈ news', p.1 ≠ I ∧ p.1 ≠ C ∧ p.1 ≠ D) (G : AllBare g) (hS : S news') (hJ : J y news') : CompE h₀ L m dr os I oI C D ys S J oC y s'
noncomputable def CompEndO (h₀ : Heap) (L : Addr) (m : Str → Option Value) (s : Shared) (I : Addr) (oI : Obj) (C D : Addr) (ys : List Value) (S : Led → Prop) (J : Value → Led → Prop) (oC : Obj) (y : Value) (s' : Shared) : Prop := CompE h₀ L m s.drawn s.os I oI C D ys S J oC y s'
/-- the state between two turns of a comprehension -/
inductive CompSt (h₀ : Heap) (L : Addr) (m : Str → Option Value) (s : Shared) (n : Nat) (I C D : Addr) (St : Nat → Heap → Prop) (S : Led → Prop) (J : Nat → List Value → Led → Prop) (k : Nat) (s' : Shared) : Prop
  | mk (h' : Heap) (tk : Nat) (g : Array GenState) (i : Nat) (ys : List Value) (m' : Str → Option Value) (news' : Led) (e : s' = { s with heap := h', toks := tk, gens := g }) (hi : i ≤ n) (hk : k = n + 1 - i) (hy : ys.length ≤ i) (st : St i h') (F : Fr h₀ L h' m) (hn : h'.Ns C m') (N : News h₀ L h' ((D, lst ys) :: news')) (off : ∀ p ∈ news', p.1 ≠ I ∧ p.1 ≠ C ∧ p.1 ≠ D) (G : AllBare g) (hS : S news') (hJ : J i ys news') : CompSt h₀ L m s n I C D St S J k s'
noncomputable abbrev testsOf (ifs : List PySem.Expr) (env : Env) : Sem Bool := forIn ifs true fun c r => if r = true then do let ok ← isTrue c env (eval c env); pure (ForInStep.yield ok) else pure (ForInStep.yield r)
section
variable {prog : Program} {w : World} {A : Around} {E : Value → Shared → Prop} {s : Shared} {h₀ : Heap} {L : Addr} {m : Str → Option Value} {env : Env}
theorem block_O {elt iter : PySem.Expr} {x : Str} {px : Pos} {ifs : List PySem.Expr} {scope : Scope} {cl : List (Str × Addr)} {pos : Pos} {s₂ : Shared} {I : Addr} {fp : List Addr} {n : Nat} {P : Nat → Value → Prop} {St : Nat → Heap → Prop} {S : Led → Prop} {news : Led} {RR : Value → Addr → Result → Shared → Prop} (J : Nat → List Value → Led → Prop)
    (W : Walks prog w A I fp [I] n P St) (hsz : n ≤ sizeLine) (hIo : ∀ i h, St i h → ∃ o, h.get? I = some o)
    (hSt : ∀ i h h' o nw, St i h → h.get? I = some o → h'.get? I = some o → (∀ b o, h₀.get? b = some o → h'.get? b = some o) → News h₀ L h' nw → S nw → St i h')
    (hcell : ∀ y ∈ scope.names, y.2 ≠ .cell) (hkind : scope.kind = .function) (hx : scope.names.lookup x = some .local) (hst : St 0 s₂.heap) (hfp : ∀ b ∈ fp, b < s₂.heap.objs.size)
    (F : Fr h₀ L s₂.heap m) (N : News h₀ L s₂.heap news) (hIL : L ≠ I) (hI₀ : h₀.get? I = none) (off : ∀ p ∈ news, p.1 ≠ I) (hS : S news) (hG : AllBare s₂.gens) (hJ : J 0 [] news)
    (turn : ∀ i v ys news₁ oI C oC D m₂ h tk g (E' : Value → Shared → Prop), i < n → ys.length ≤ i → P i v → J i ys news₁ → NsObj oC m₂ → m₂ x = some v → Fr h₀ L h m → News h₀ L h ((I, oI) :: (C, oC) :: (D, lst ys) :: news₁) → (∀ p ∈ news₁, p.1 ≠ I ∧ p.1 ≠ C ∧ p.1 ≠ D) → ((@Ne Nat I C) ∧ (@Ne Nat I D) ∧ (@Ne Nat C D)) → AllBare g → S news₁ →
      wpAny (model prog w) A (testsOf ifs (compEnvC scope cl C env)) (fun ok s' => if ok = true then
        wpAny (model prog w) A (eval elt (compEnvC scope cl C env)) (CompEndO h₀ L m s₂ I oI C D ys S (fun y news' => J (i + 1) (ys ++ [y]) news') oC) E' s'
        else CompEndO h₀ L m s₂ I oI C D ys S (fun _ news' => J (i + 1) ys news') oC .none s') E' { s₂ with heap := h, toks := tk, gens := g })
    (hRR : ∀ D C h tk g m' ys news', Fr h₀ L h m → News h₀ L h ((D, lst ys) :: news') → (∀ p ∈ news', p.1 ≠ D) → h.Ns C m' → h₀.get? C = none → C ≠ L → D ≠ L → C ≠ D → (∀ p ∈ news', p.1 ≠ C) → AllBare g → J n ys news' → RR (.ref D) C (.ok .next) { s₂ with heap := h, toks := tk, gens := g }) :
    wpAny (model prog w) A (newList []) (fun acc s₃ => wpAny (model prog w) A (newFunctionEnv scope env.globals cl [] env.qual none .none (some env)) (fun cenv s₄ =>
      codeAny (model prog w) A (.compStart (.ListComp elt [⟨.Name x px, iter, ifs, 0⟩] scope pos) 0 (.ref I) acc { cenv with scope := relabel scope env }) (RR acc cenv.locals) s₄) E s₃) E s₂ := by
  refine wpAny_newObj_type (wpAny_newFunctionEnv hcell (by intro y hy; simp at hy) (fun h₁ hns₁ hsb₁ => ?_) hkind)
  dsimp only at hns₁ hsb₁ ⊢
  generalize hH2 : s₂.heap.push { cls := .type "list", dict := none, data := .seq ([] : List Value).toArray } = H2 at hns₁ hsb₁ ⊢
  have hC : H2.objs.size = s₂.heap.objs.size + 1 := by rw [← hH2, Heap.size_push]
  have hDC : s₂.heap.objs.size ≠ H2.objs.size := by rw [hC]; exact Nat.ne_of_lt (Nat.lt_succ_self _)
  have below : ∀ b, b < s₂.heap.objs.size → b ≠ H2.objs.size ∧ b ≠ s₂.heap.objs.size := fun b hb => ⟨by rw [hC]; exact Nat.ne_of_lt (Nat.lt_succ_of_lt hb), Nat.ne_of_lt hb⟩
  have hDf : s₂.heap.objs.size ∉ fp := fun hm => Nat.lt_irrefl _ (hfp _ hm)
  have hCf : H2.objs.size ∉ fp := fun hm => by have := hfp _ hm; rw [hC] at this; exact Nat.lt_irrefl _ (Nat.lt_of_succ_lt this)
  have hIf : I ∈ fp := W.sub I (List.mem_singleton.mpr rfl)
  have hIlt : I < s₂.heap.objs.size := hfp I hIf
  have old : ∀ b o, s₂.heap.get? b = some o → h₁.get? b = some o := fun b o e => hsb₁.extBut b o (below b (Heap.lt_size e)).1 (Heap.get?_push_of_some _ (hH2 ▸ Heap.get?_push_of_some _ e))
  have hacc : h₁.get? s₂.heap.objs.size = some (lst []) := hsb₁.extBut _ _ hDC (Heap.get?_push_of_some _ (hH2 ▸ Heap.get?_push_size _ rfl))
  have hst₁ : St 0 h₁ := W.frame _ _ _ hst fun b _ o e => old b o e
  have fresh₀ : ∀ a, s₂.heap.objs.size ≤ a → h₀.get? a = none := fun a ha => by
    cases e : h₀.get? a with
    | none => rfl
    | some o' => exact absurd (Heap.lt_size (F.keep a o' e)) (Nat.not_lt.mpr ha)
  have hD₀ : h₀.get? s₂.heap.objs.size = none := fresh₀ _ (Nat.le_refl _)
  have hC₀ : h₀.get? H2.objs.size = none := fresh₀ _ (by rw [hC]; exact Nat.le_succ _)
  have hLlt : L < s₂.heap.objs.size := F.ns.lt
  have hDL : s₂.heap.objs.size ≠ L := Ne.symm (below L hLlt).2
  have hCL : H2.objs.size ≠ L := Ne.symm (below L hLlt).1
  have hCI : I ≠ H2.objs.size := (below I hIlt).1
  have hDI : I ≠ s₂.heap.objs.size := (below I hIlt).2
  have off₀ : ∀ p ∈ news, p.1 ≠ I ∧ p.1 ≠ H2.objs.size ∧ p.1 ≠ s₂.heap.objs.size := fun p hp => ⟨off p hp, (below _ (Heap.lt_size (N p hp).1)).1, (below _ (Heap.lt_size (N p hp).1)).2⟩
  have loop : ∀ s₃ : Shared, s₃ = { s₂ with heap := h₁, toks := s₂.toks + ([] : List (Str × Value)).length } →
      codeAny (model prog w) A (.compLoop (.ListComp elt [⟨.Name x px, iter, ifs, 0⟩] scope pos) 0 (.ref I) (.ref s₂.heap.objs.size) (compEnvC scope cl H2.objs.size env))
        (RR (.ref s₂.heap.objs.size) H2.objs.size) s₃ := by
    rintro s₃ rfl
    refine codeAny_compLoop_tests
      (CompSt h₀ L m s₂ n I H2.objs.size s₂.heap.objs.size St S J) ?_ (n + 1)
      ⟨h₁, _, s₂.gens, 0, [], _, news, rfl, Nat.zero_le _, rfl, Nat.le_refl _, hst₁, F.keeps old, hns₁, fun p hp => ?_, off₀, hG, hS, hJ⟩
    · rintro k s' ⟨h', tk, g, i, ys, m', news', rfl, hi, rfl, hyl, hst', F', hn', N', off', hG', hS', hJ'⟩
      by_cases hlt : i < n
      · refine W.item i _ _ _ hlt hst' fun v h₂ tk₂ hPv hst₂ hk₂ => ?_
        refine wpAny_assign_Name (wpAny_storeName_local (lookup_relabel_local hx) (hn'.at' fun o e => hk₂ _ o (by simpa using Ne.symm hCI) e) (fun h₃ hn₃ hs₃ => ?_) (by simp [compEnvC, relabel, hkind]))
        have hst₃ : St (i + 1) h₃ := W.frame _ _ _ hst₂ fun b hb o e => hs₃.extBut b o (fun q => hCf (by have q' : b = H2.objs.size := q; rw [← q']; exact hb)) e
        obtain ⟨oI, heI⟩ := hIo _ _ hst₃
        obtain ⟨oC, heC, hoC⟩ := ns_obj hn₃
        have F₃ : Fr h₀ L h₃ m := (fr_but F' hk₂ hIL hI₀).change hs₃ hCL hC₀
        have N₃ : News h₀ L h₃ ((I, oI) :: (H2.objs.size, oC) :: (s₂.heap.objs.size, lst ys) :: news') := fun p hp => by
          rcases List.mem_cons.mp hp with rfl | hp
          · exact ⟨heI, Ne.symm hIL, hI₀⟩
          · rcases List.mem_cons.mp hp with rfl | hp
            · exact ⟨heC, hCL, hC₀⟩
            · have z := N' p hp
              have hne : p.1 ≠ I ∧ p.1 ≠ H2.objs.size := by
                rcases List.mem_cons.mp hp with rfl | hp
                · exact ⟨Ne.symm hDI, hDC⟩
                · exact ⟨(off' p hp).1, (off' p hp).2.1⟩
              exact ⟨hs₃.extBut _ _ hne.2 (hk₂ p.1 p.2 (by simpa using hne.1) z.1), z.2⟩
        refine wpAny_mono (turn i v ys news' oI H2.objs.size oC s₂.heap.objs.size _ h₃ _ g _ hlt hyl hPv hJ' hoC (by simp) F₃ N₃ off' ⟨hCI, hDI, Ne.symm hDC⟩ hG' hS') (fun ok s₄ h₄ => ?_) fun _ _ e => e
        cases ok with
        | true =>
          simp only [if_true] at h₄ ⊢
          refine wpAny_mono h₄ (fun y s₅ h₅ => ?_) fun _ _ e => e
          obtain ⟨h₄, tk₄, g₄, news₄, rfl, F₄, N₄, off₄, hG₄, hS₄, hJ₄⟩ := h₅
          have zI := (N₄ (I, oI) List.mem_cons_self).1
          have zC := (N₄ (H2.objs.size, oC) (List.mem_cons_of_mem _ List.mem_cons_self)).1
          have zD := (N₄ (s₂.heap.objs.size, lst ys) (List.mem_cons_of_mem _ (List.mem_cons_of_mem _ List.mem_cons_self))).1
          have N₄' : News h₀ L h₄ news₄ := fun p hp => N₄ p (List.mem_cons_of_mem _ (List.mem_cons_of_mem _ (List.mem_cons_of_mem _ hp)))
          have hst₄ : St (i + 1) h₄ := hSt _ _ _ _ _ hst₃ heI zI F₄.keep N₄' hS₄
          refine append_at (hsz := by show ys.toArray.size ≤ sizeLine; rw [List.size_toArray]; exact Nat.le_trans (Nat.le_trans hyl hi) hsz) zD fun h₅ hs₅ hD₅ => ?_
          refine ⟨n + 1 - (i + 1), fin_lt hlt, h₅, tk₄, g₄, i + 1, ys ++ [y], _, news₄, rfl, hlt, rfl, by rw [List.length_append, List.length_singleton]; exact Nat.succ_le_succ hyl, W.frame _ _ _ hst₄ fun b hb o e => hs₅.extBut b o (fun q => hDf (q ▸ hb)) e, F₄.change hs₅ hDL hD₀,
            (hoC.ns zC).sameBut hs₅ (Ne.symm hDC), fun p hp => ?_, off₄, hG₄, hS₄, hJ₄⟩
          rcases List.mem_cons.mp hp with rfl | hp
          · exact ⟨hD₅.trans (congrArg some (lst_snoc ys y)), hDL, hD₀⟩
          · exact ⟨hs₅.extBut _ _ (off₄ p hp).2.2 (N₄' p hp).1, (N₄' p hp).2⟩
        | false =>
          simp only [Bool.false_eq_true, if_false] at h₄ ⊢
          obtain ⟨h₅, tk₄, g₄, news₄, rfl, F₄, N₄, off₄, hG₄, hS₄, hJ₄⟩ := h₄
          have zI := (N₄ (I, oI) List.mem_cons_self).1
          have zC := (N₄ (H2.objs.size, oC) (List.mem_cons_of_mem _ List.mem_cons_self)).1
          have N₄' : News h₀ L h₅ news₄ := fun p hp => N₄ p (List.mem_cons_of_mem _ (List.mem_cons_of_mem _ (List.mem_cons_of_mem _ hp)))
          have hst₄ : St (i + 1) h₅ := hSt _ _ _ _ _ hst₃ heI zI F₄.keep N₄' hS₄
          exact ⟨n + 1 - (i + 1), fin_lt hlt, h₅, tk₄, g₄, i + 1, ys, _, news₄, rfl, hlt, rfl, Nat.le_succ_of_le hyl, hst₄, F₄, hoC.ns zC, fun p hp => N₄ p (List.mem_cons_of_mem _ (List.mem_cons_of_mem _ hp)), off₄, hG₄, hS₄, hJ₄⟩
      · obtain rfl : i = n := Nat.le_antisymm hi (Nat.not_lt.mp hlt)
        refine W.done _ _ _ hst' fun h₂ tk₂ hk₂ => ?_
        exact hRR _ _ h₂ tk₂ g _ ys news' (fr_but F' hk₂ hIL hI₀) (news_but N' hk₂ fun p hp => by
          rcases List.mem_cons.mp hp with rfl | hp
          · exact Ne.symm hDI
          · exact (off' p hp).1) (fun p hp => (off' p hp).2.2) (hn'.at' fun o e => hk₂ _ o (by simpa using Ne.symm hCI) e) hC₀ hCL hDL (Ne.symm hDC) (fun p hp => (off' p hp).2.1) hG' hJ'
    · rcases List.mem_cons.mp hp with rfl | hp
      · exact ⟨hacc, hDL, hD₀⟩
      · exact ⟨old _ _ (N p hp).1, (N p hp).2⟩
  exact codeAny_compStart_list (loop _ rfl) (W.self 0 _ _ _ hst₁ (loop _ rfl))
end
end SR
end
section
open PySem PySem.W PyProof.Rows PySem.Calls PySem.Spec LCg
set_option Elab.async false
set_option maxRecDepth 100000
namespace SR
section
variable {prog : Program} {w : World} {A : Around} {E : Value → Shared → Prop} {s : Shared} {h₀ : Heap} {L : Addr} {m : Str → Option Value} {env : Env}
/-- a comprehension's turn -/
noncomputable abbrev TurnO (prog : Program) (w : World) (A : Around) (h₀ : Heap) (L : Addr) (m : Str → Option Value) (env : Env) (elt : PySem.Expr) (x : Str) (ifs : List PySem.Expr) (scope : Scope) (cl : List (Str × Addr)) (s : Shared) (I : Addr) (n : Nat) (P : Nat → Value → Prop) (S : Led → Prop) (J : Nat → List Value → Led → Prop) : Prop :=
  ∀ i v ys news₁ oI C oC D m₂ h tk g (E' : Value → Shared → Prop), i < n → ys.length ≤ i → P i v → J i ys news₁ → NsObj oC m₂ → m₂ x = some v → Fr h₀ L h m → News h₀ L h ((I, oI) :: (C, oC) :: (D, lst ys) :: news₁) → (∀ p ∈ news₁, p.1 ≠ I ∧ p.1 ≠ C ∧ p.1 ≠ D) → ((@Ne Nat I C) ∧ (@Ne Nat I D) ∧ (@Ne Nat C D)) → AllBare g → S news₁ →
      wpAny (model prog w) A (testsOf ifs (compEnvC scope cl C env)) (fun ok s' => if ok = true then
        wpAny (model prog w) A (eval elt (compEnvC scope cl C env)) (CompEndO h₀ L m s I oI C D ys S (fun y news' => J (i + 1) (ys ++ [y]) news') oC) E' s'
        else CompEndO h₀ L m s I oI C D ys S (fun _ news' => J (i + 1) ys news') oC .none s') E' { s with heap := h, toks := tk, gens := g }
noncomputable def SrcO (prog : Program) (w : World) (A : Around) (h₀ : Heap) (L : Addr) (m : Str → Option Value) (mm : Addr → Str → Option Value) (env : Env) (elt : PySem.Expr) (x : Str) (ifs : List PySem.Expr) (scope : Scope) (cl : List (Str × Addr)) (Q' : Addr → Shared → Prop) (xv : Value) (s₁ : Shared) : Prop :=
  ∀ E : Value → Shared → Prop, wpAny (model prog w) A (pyIter xv) (fun it s₂ => ∃ I fp n P St S news J, it = .ref I ∧ Walks prog w A I fp [I] n P St ∧ n ≤ sizeLine ∧ (∀ i h, St i h → ∃ o, h.get? I = some o) ∧
    (∀ i h h' o nw, St i h → h.get? I = some o → h'.get? I = some o → (∀ b o, h₀.get? b = some o → h'.get? b = some o) → News h₀ L h' nw → S nw → St i h') ∧ St 0 s₂.heap ∧ (∀ b ∈ fp, b < s₂.heap.objs.size) ∧
    Fr h₀ L s₂.heap m ∧ News h₀ L s₂.heap news ∧ L ≠ I ∧ h₀.get? I = none ∧ (∀ p ∈ news, p.1 ≠ I) ∧ S news ∧ AllBare s₂.gens ∧ J 0 [] news ∧ TurnO prog w A h₀ L m env elt x ifs scope cl s₂ I n P S J ∧
    (∀ D ys news' h tk g, J n ys news' → Fr h₀ L h (mm D) → News h₀ L h ((D, lst ys) :: news') → (∀ p ∈ news', p.1 ≠ D) → AllBare g → Q' D { s₂ with heap := h, toks := tk, gens := g })) E s₁
theorem SrcO.list {mm : Addr → Str → Option Value} {elt : PySem.Expr} {x : Str} {ifs : List PySem.Expr} {scope : Scope} {cl : List (Str × Addr)} {Q' : Addr → Shared → Prop} {ax : Addr} {its : Array Value} {news : Led} (hh : A.handled = none) (F : Fr h₀ L s.heap m) (N : News h₀ L s.heap news) (hG : AllBare s.gens)
    (hs : SrcAt h₀ ax its news) (hsz : its.size ≤ sizeLine) (J : Nat → List Value → Led → Prop) (hJ : J 0 [] news)
    (turn : ∀ I, (∀ p ∈ news, p.1 < I) → TurnO prog w A h₀ L m env elt x ifs scope cl s I its.size (fun i v => its[i]? = some v) (SrcAt h₀ ax its) J)
    (done : ∀ D ys news' h tk g, J its.size ys news' → Fr h₀ L h (mm D) → News h₀ L h ((D, lst ys) :: news') → (∀ p ∈ news', p.1 ≠ D) → AllBare g → Q' D { s with heap := h, toks := tk, gens := g }) :
    SrcO prog w A h₀ L m mm env elt x ifs scope cl Q' (.ref ax) s := by
  intro E
  have hl := hs.list F.keep N
  have hlt : ax < s.heap.objs.size := by obtain ⟨_, e, _⟩ := hl; exact Heap.lt_size e
  refine wpAny_pyIter_list hl ?_
  have up : ∀ b o, s.heap.get? b = some o → (s.heap.push { cls := .type "list_iterator", data := .fields #[.ref ax, .int 0 0] }).get? b = some o := fun b o e => Heap.get?_push_of_some _ e
  refine ⟨_, _, _, _, _, SrcAt h₀ ax its, news, J, rfl, Walks.list hh s.heap.objs.size ax (Nat.ne_of_lt hlt) its, hsz, fun i h st => by obtain ⟨o, e, _⟩ := st.1; exact ⟨o, e⟩, list_st, ⟨⟨_, Heap.get?_push_size _ rfl, rfl, rfl⟩, hl.push _⟩, fun b hb => ?_,
    F.keeps up, N.grown up, Nat.ne_of_lt F.ns.lt, next_is_new F, fun p hp => Nat.ne_of_lt (Heap.lt_size (N p hp).1), hs, hG, hJ, turn _ fun p hp => Heap.lt_size (N p hp).1, done⟩
  show b < (s.heap.push _).objs.size
  rw [Heap.size_push]
  rcases List.mem_cons.mp hb with rfl | hb
  · exact Nat.lt_succ_self _
  · rw [List.mem_singleton.mp hb]; exact Nat.lt_succ_of_lt hlt
theorem SrcO.range {mm : Addr → Str → Option Value} {elt : PySem.Expr} {x : Str} {ifs : List PySem.Expr} {scope : Scope} {cl : List (Str × Addr)} {Q' : Addr → Shared → Prop} {r : Addr} {a b : Int} {t u v : Tok} {n : Nat} {news : Led} (hh : A.handled = none) (F : Fr h₀ L s.heap m) (N : News h₀ L s.heap news) (hG : AllBare s.gens)
    (hr : IsRange s.heap r a b 1 t u v) (hsm : Builtin.Range.small a b 1 = true) (hn : Builtin.Range.rangeSize a b 1 = ((n : Nat) : Int)) (hsz : n ≤ sizeLine) (J : Nat → List Value → Led → Prop) (hJ : J 0 [] news)
    (turn : ∀ I, (∀ p ∈ news, p.1 < I) → TurnO prog w A h₀ L m env elt x ifs scope cl s I n (fun i v => ∃ t, v = .int (a + (i : Int)) t) (fun _ => True) J)
    (done : ∀ D ys news' h tk g, J n ys news' → Fr h₀ L h (mm D) → News h₀ L h ((D, lst ys) :: news') → (∀ p ∈ news', p.1 ≠ D) → AllBare g → Q' D { s with heap := h, toks := tk, gens := g }) :
    SrcO prog w A h₀ L m mm env elt x ifs scope cl Q' (.ref r) s := by
  intro E
  refine wpAny_pyIter_range hr hsm ?_
  refine ⟨_, _, _, _, _, fun _ => True, news, J, rfl, range_walks hh a n, hsz, fun i h st => ⟨_, st⟩, range_st, by show IsRangeIter _ _ _ _ _; rw [hn]; simpa using Heap.get?_push_size _ rfl, fun b hb => ?_,
    F.keeps fun _ _ e => Heap.get?_push_of_some _ e, N.grown fun _ _ e => Heap.get?_push_of_some _ e, Nat.ne_of_lt F.ns.lt, next_is_new F, fun p hp => Nat.ne_of_lt (Heap.lt_size (N p hp).1), trivial, hG, hJ, turn _ fun p hp => Heap.lt_size (N p hp).1, done⟩
  rw [List.mem_singleton.mp hb]
  show s.heap.objs.size < (s.heap.push _).objs.size
  rw [Heap.size_push]; exact Nat.lt_succ_self _

theorem ListComp_O {elt iter : PySem.Expr} {x : Str} {px : Pos} {ifs : List PySem.Expr} {scope : Scope} {cl : List (Str × Addr)} {pos : Pos} {Q : Value → Shared → Prop} (_F₀ : Fr h₀ L s.heap m)
    (hclos : closureFor scope env = pure cl) (hcell : ∀ y ∈ scope.names, y.2 ≠ .cell) (hkind : scope.kind = .function)
    (hnames : ∀ y ∈ scope.names, y.2 = .local → scope.names.lookup y.1 = some .local) (hx : scope.names.lookup x = some .local)
    (h : wpAny (model prog w) A (eval iter env) (SrcO prog w A h₀ L m (fun _ => m) env elt x ifs scope cl (fun D s' => Q (.ref D) s')) E s)
    (hs : ∀ x, foldedSetIterable iter env x = pure x := by intro _; rfl) :
    wpAny (model prog w) A (eval (.ListComp elt [⟨.Name x px, iter, ifs, 0⟩] scope pos) env) Q E s := by
  rw [eval_ListComp]
  refine wpAny_comprehension_free (use := none) rfl hs hclos hkind hnames (wpAny_mono h (fun xv s₁ h₁ => ?_) fun _ _ e => e)
  refine wpAny_mono (h₁ E) (fun it s₂ h₂ => ?_) fun _ _ e => e
  obtain ⟨I, fp, n, P, St, S, news, J, rfl, W, hsz, hIo, hSt, hst, hfp, F, N, hIL, hI₀, off, hS, hG, hJ, turn, done⟩ := h₂
  refine block_O J W hsz hIo hSt hcell hkind hx hst hfp F N hIL hI₀ off hS hG hJ turn ?_
  intro D C h tk g m' ys news' F' N' o1 hn hC₀ hCL hDL hCD offC hG' hJ'
  refine ⟨m', hn, fun h'' hs'' => done D ys news' h'' tk g hJ' (F'.change hs'' hCL hC₀) (fun p hp => ?_) o1 hG'⟩
  refine ⟨hs''.extBut _ _ ?_ (N' p hp).1, (N' p hp).2⟩
  rcases List.mem_cons.mp hp with rfl | hp
  · exact Ne.symm hCD
  · exact offC p hp

theorem Assign_ListComp_O {elt iter : PySem.Expr} {x y : Str} {px py : Pos} {ifs : List PySem.Expr} {scope : Scope} {cl : List (Str × Addr)} {pos spos : Pos} {Q : Flow → Shared → Prop} (_F₀ : Fr h₀ L s.heap m) (hLe : env.locals = L)
    (hsw : swapsWith (.ListComp elt [⟨.Name x px, iter, ifs, 0⟩] scope pos) (some (.Name y py)) spos.line env = pure true)
    (hclos : closureFor scope env = pure cl) (hcell : ∀ z ∈ scope.names, z.2 ≠ .cell) (hkind : scope.kind = .function)
    (hnames : ∀ z ∈ scope.names, z.2 = .local → scope.names.lookup z.1 = some .local) (hx : scope.names.lookup x = some .local)
    (hy : env.kindOf y = some .local) (hp : (env.scope.kind == .class || (env.scope.kind == .module && env.locals != env.globals)) = false)
    (h : wpAny (model prog w) A (eval iter env) (SrcO prog w A h₀ L m (fun D z => if z = y then some (.ref D) else m z) env elt x ifs scope cl (fun _ s' => Q .next s')) E s)
    (hs : ∀ x, foldedSetIterable iter env x = pure x := by intro _; rfl) :
    wpAny (model prog w) A (exec (.Assign [.Name y py] (.ListComp elt [⟨.Name x px, iter, ifs, 0⟩] scope pos) spos) env) Q E s := by
  subst hLe
  rw [exec_Assign_Name_used _ _ _ _ hsw]
  refine wpAny_bind (wpAny_standAt (wpAny_bind ?_))
  show wpAny _ A (do let _ ← comprehension (.ListComp elt [⟨.Name x px, iter, ifs, 0⟩] scope pos) scope env _ (newList []) false (eval iter env) (some (assign (.Name y py) env))) _ _ s
  refine wpAny_bind (wpAny_mono (wpAny_comprehension_free (use := some (assign (.Name y py) env)) (Q := fun _ s' => Q .next s') rfl hs hclos hkind hnames
    (wpAny_mono h (fun xv s₁ h₁ => ?_) fun _ _ e => e)) (fun _ s' hq => wpAny_pure (wpAny_pure hq)) fun _ _ e => e)
  refine wpAny_mono (h₁ E) (fun it s₂ h₂ => ?_) fun _ _ e => e
  obtain ⟨I, fp, n, P, St, S, news, J, rfl, W, hsz, hIo, hSt, hst, hfp, F, N, hIL, hI₀, off, hS, hG, hJ, turn, done⟩ := h₂
  refine block_O J W hsz hIo hSt hcell hkind hx hst hfp F N hIL hI₀ off hS hG hJ turn ?_
  intro D C h' tk g m' ys news' F' N' o1 hn hC₀ hCL hDL hCD offC hG' hJ'
  show wpAny _ A (assign (.Name y py) env (.ref D)) _ _ _
  refine wpAny_assign_Name (wpAny_storeName_local hy F'.ns (fun h₂ hn₂ hs₂ => ?_) hp)
  have hL₀ : h₀.get? env.locals = none := Heap.get?_none_of_le F'.above
  have F₂ : Fr h₀ env.locals h₂ (fun z => if z = y then some (.ref D) else m z) := ⟨hn₂, fun b o e => hs₂.extBut b o (fun q => by rw [q, hL₀] at e; cases e) (F'.keep b o e), F'.above⟩
  refine ⟨m', hn.sameBut hs₂ hCL, fun h'' hs'' => done D ys news' h'' _ g hJ' (F₂.change hs'' hCL hC₀) (fun p hp => ?_) o1 hG'⟩
  have z : h₂.get? p.1 = some p.2 := hs₂.extBut _ _ (N' p hp).2.1 (N' p hp).1
  refine ⟨hs''.extBut _ _ ?_ z, (N' p hp).2⟩
  rcases List.mem_cons.mp hp with rfl | hp
  · exact Ne.symm hCD
  · exact offC p hp
end
end SR
end
section
open PySem PySem.W PyProof.Rows PySem.Calls PySem.Spec LCg
set_option Elab.async false
set_option maxRecDepth 100000
namespace SR
section
variable {prog : Program} {w : World} {A : Around} {E : Value → Shared → Prop} {s : Shared} {h₀ : Heap} {L : Addr} {m : Str → Option Value} {env : Env}
theorem block_OT {elt iter c : PySem.Expr} {xa xb : Str} {pa pb pt : Pos} {kt : Nat} {scope : Scope} {cl : List (Str × Addr)} {pos : Pos} {s₂ : Shared} {I : Addr} {fp : List Addr} {n : Nat} {Pt : Nat → Array Value → Prop} {St : Nat → Heap → Prop} {Mid : Nat → Addr → Heap → Prop} {S : Led → Prop} {news : Led} {RR : Value → Addr → Result → Shared → Prop} (J : Nat → List Value → Led → Prop)
    (hh : A.handled = none) (W : WalksU prog w A I fp [I] n Pt St Mid) (hsz' : ∀ i vals, Pt i vals → ∃ va vb, vals = #[va, vb]) (hsz : n ≤ sizeLine) (hIo : ∀ i h, St i h → ∃ o, h.get? I = some o)
    (hSt : ∀ i h h' o nw, St i h → h.get? I = some o → h'.get? I = some o → (∀ b o, h₀.get? b = some o → h'.get? b = some o) → News h₀ L h' nw → S nw → St i h')
    (hcell : ∀ y ∈ scope.names, y.2 ≠ .cell) (hkind : scope.kind = .function) (hxa : scope.names.lookup xa = some .local) (hxb : scope.names.lookup xb = some .local) (hab : xa ≠ xb) (hst : St 0 s₂.heap) (hfp : ∀ b ∈ fp, b < s₂.heap.objs.size)
    (F : Fr h₀ L s₂.heap m) (N : News h₀ L s₂.heap news) (hIL : L ≠ I) (hI₀ : h₀.get? I = none) (off : ∀ p ∈ news, p.1 ≠ I) (hS : S news) (hG : AllBare s₂.gens) (hJ : J 0 [] news)
    (turn : ∀ i va vb ys news₁ oI C oC D m₂ h tk g (E' : Value → Shared → Prop), i < n → ys.length ≤ i → Pt i #[va, vb] → J i ys news₁ → NsObj oC m₂ → m₂ xa = some va → m₂ xb = some vb → Fr h₀ L h m → News h₀ L h ((I, oI) :: (C, oC) :: (D, lst ys) :: news₁) → (∀ p ∈ news₁, p.1 ≠ I ∧ p.1 ≠ C ∧ p.1 ≠ D) → ((@Ne Nat I C) ∧ (@Ne Nat I D) ∧ (@Ne Nat C D)) → AllBare g → S news₁ →
      wpAny (model prog w) A (isTrue c (compEnvC scope cl C env) (eval c (compEnvC scope cl C env))) (fun ok s' => if ok = true then
        wpAny (model prog w) A (eval elt (compEnvC scope cl C env)) (CompEndO h₀ L m s₂ I oI C D ys S (fun y news' => J (i + 1) (ys ++ [y]) news') oC) E' s'
        else CompEndO h₀ L m s₂ I oI C D ys S (fun _ news' => J (i + 1) ys news') oC .none s') E' { s₂ with heap := h, toks := tk, gens := g })
    (hRR : ∀ D C h tk g m' ys news', Fr h₀ L h m → News h₀ L h ((D, lst ys) :: news') → (∀ p ∈ news', p.1 ≠ D) → h.Ns C m' → h₀.get? C = none → C ≠ L → D ≠ L → C ≠ D → (∀ p ∈ news', p.1 ≠ C) → AllBare g → J n ys news' → RR (.ref D) C (.ok .next) { s₂ with heap := h, toks := tk, gens := g }) :
    wpAny (model prog w) A (newList []) (fun acc s₃ => wpAny (model prog w) A (newFunctionEnv scope env.globals cl [] env.qual none .none (some env)) (fun cenv s₄ =>
      codeAny (model prog w) A (.compStart (.ListComp elt [⟨.Tuple [.Name xa pa, .Name xb pb] kt pt, iter, [c], 0⟩] scope pos) 0 (.ref I) acc { cenv with scope := relabel scope env }) (RR acc cenv.locals) s₄) E s₃) E s₂ := by
  refine wpAny_newObj_type (wpAny_newFunctionEnv hcell (by intro y hy; simp at hy) (fun h₁ hns₁ hsb₁ => ?_) hkind)
  dsimp only at hns₁ hsb₁ ⊢
  generalize hH2 : s₂.heap.push { cls := .type "list", dict := none, data := .seq ([] : List Value).toArray } = H2 at hns₁ hsb₁ ⊢
  have hC : H2.objs.size = s₂.heap.objs.size + 1 := by rw [← hH2, Heap.size_push]
  have hDC : s₂.heap.objs.size ≠ H2.objs.size := by rw [hC]; exact Nat.ne_of_lt (Nat.lt_succ_self _)
  have below : ∀ b, b < s₂.heap.objs.size → b ≠ H2.objs.size ∧ b ≠ s₂.heap.objs.size := fun b hb => ⟨by rw [hC]; exact Nat.ne_of_lt (Nat.lt_succ_of_lt hb), Nat.ne_of_lt hb⟩
  have hDf : s₂.heap.objs.size ∉ fp := fun hm => Nat.lt_irrefl _ (hfp _ hm)
  have hCf : H2.objs.size ∉ fp := fun hm => by have := hfp _ hm; rw [hC] at this; exact Nat.lt_irrefl _ (Nat.lt_of_succ_lt this)
  have hIf : I ∈ fp := W.sub I (List.mem_singleton.mpr rfl)
  have hIlt : I < s₂.heap.objs.size := hfp I hIf
  have old : ∀ b o, s₂.heap.get? b = some o → h₁.get? b = some o := fun b o e => hsb₁.extBut b o (below b (Heap.lt_size e)).1 (Heap.get?_push_of_some _ (hH2 ▸ Heap.get?_push_of_some _ e))
  have hacc : h₁.get? s₂.heap.objs.size = some (lst []) := hsb₁.extBut _ _ hDC (Heap.get?_push_of_some _ (hH2 ▸ Heap.get?_push_size _ rfl))
  have hst₁ : St 0 h₁ := W.frame _ _ _ hst fun b _ o e => old b o e
  have fresh₀ : ∀ a, s₂.heap.objs.size ≤ a → h₀.get? a = none := fun a ha => by
    cases e : h₀.get? a with
    | none => rfl
    | some o' => exact absurd (Heap.lt_size (F.keep a o' e)) (Nat.not_lt.mpr ha)
  have hD₀ : h₀.get? s₂.heap.objs.size = none := fresh₀ _ (Nat.le_refl _)
  have hC₀ : h₀.get? H2.objs.size = none := fresh₀ _ (by rw [hC]; exact Nat.le_succ _)
  have hLlt : L < s₂.heap.objs.size := F.ns.lt
  have hDL : s₂.heap.objs.size ≠ L := Ne.symm (below L hLlt).2
  have hCL : H2.objs.size ≠ L := Ne.symm (below L hLlt).1
  have hCI : I ≠ H2.objs.size := (below I hIlt).1
  have hDI : I ≠ s₂.heap.objs.size := (below I hIlt).2
  have off₀ : ∀ p ∈ news, p.1 ≠ I ∧ p.1 ≠ H2.objs.size ∧ p.1 ≠ s₂.heap.objs.size := fun p hp => ⟨off p hp, (below _ (Heap.lt_size (N p hp).1)).1, (below _ (Heap.lt_size (N p hp).1)).2⟩
  have loop : ∀ s₃ : Shared, s₃ = { s₂ with heap := h₁, toks := s₂.toks + ([] : List (Str × Value)).length } →
      codeAny (model prog w) A (.compLoop (.ListComp elt [⟨.Tuple [.Name xa pa, .Name xb pb] kt pt, iter, [c], 0⟩] scope pos) 0 (.ref I) (.ref s₂.heap.objs.size) (compEnvC scope cl H2.objs.size env))
        (RR (.ref s₂.heap.objs.size) H2.objs.size) s₃ := by
    rintro s₃ rfl
    refine kct_loop
      (CompSt h₀ L m s₂ n I H2.objs.size s₂.heap.objs.size St S J) ?_ (n + 1)
      ⟨h₁, _, s₂.gens, 0, [], _, news, rfl, Nat.zero_le _, rfl, Nat.le_refl _, hst₁, F.keeps old, hns₁, fun p hp => ?_, off₀, hG, hS, hJ⟩
    · rintro k s' ⟨h', tk, g, i, ys, m', news', rfl, hi, rfl, hyl, hst', F', hn', N', off', hG', hS', hJ'⟩
      by_cases hlt : i < n
      · refine W.item i _ _ _ hlt hst' fun T vals h₂a tk₂ hPv hT₁ hmid hk₂a => ?_
        obtain ⟨va, vb, rfl⟩ := hsz' i vals hPv
        refine W.go _ _ _ i T _ _ _ hmid fun h₂ hst₂ hk₂b => ?_
        have hT₂ : h₂.IsTuple T #[va, vb] := hT₁.elim fun o h => ⟨o, hk₂b _ o (W.apart i T _ hmid) h.1, h.2⟩
        have hk₂ : ∀ b o, b ∉ [I] → h'.get? b = some o → h₂.get? b = some o := fun b o hb e => hk₂b b o hb (hk₂a b o hb e)
        refine wpAny_assign_Tuple hh hT₂ rfl rfl fun h₂' hx₂ => ?_
        have old₂ : ∀ b o, h₂.get? b = some o → h₂'.get? b = some o := fun b o e => hx₂ b o (Nat.ne_of_lt (Heap.lt_size e)) e
        have hk₂' : ∀ b o, b ∉ [I] → h'.get? b = some o → h₂'.get? b = some o := fun b o hb e => old₂ b o (hk₂ b o hb e)
        show wpAny _ _ (assignInOrder [assign (.Name xa pa) (compEnvC scope cl H2.objs.size env), assign (.Name xb pb) (compEnvC scope cl H2.objs.size env)] [va, vb]) _ _ _
        refine assignInOrder_cons (wpAny_assign_Name (wpAny_storeName_local (lookup_relabel_local hxa) (hn'.at' fun o e => hk₂' _ o (by simpa using Ne.symm hCI) e) (fun h₂c hn₂c hs₂c => ?_) (by simp [compEnvC, relabel, hkind])))
        refine assignInOrder_cons (wpAny_assign_Name (wpAny_storeName_local (lookup_relabel_local hxb) hn₂c (fun h₃ hn₃ hs₃b => ?_) (by simp [compEnvC, relabel, hkind])))
        refine assignInOrder_nil ?_
        have hs₃ : ∀ b o, b ≠ H2.objs.size → h₂'.get? b = some o → h₃.get? b = some o := fun b o hb e => hs₃b.extBut b o hb (hs₂c.extBut b o hb e)
        have hst₃ : St (i + 1) h₃ := W.frame _ _ _ hst₂ fun b hb o e => hs₃ b o (fun q => hCf (by have q' : b = H2.objs.size := q; rw [← q']; exact hb)) (old₂ b o e)
        obtain ⟨oI, heI⟩ := hIo _ _ hst₃
        obtain ⟨oC, heC, hoC⟩ := ns_obj hn₃
        have F₃ : Fr h₀ L h₃ m := ((fr_but F' hk₂' hIL hI₀).change hs₂c hCL hC₀).change hs₃b hCL hC₀
        have N₃ : News h₀ L h₃ ((I, oI) :: (H2.objs.size, oC) :: (s₂.heap.objs.size, lst ys) :: news') := fun p hp => by
          rcases List.mem_cons.mp hp with rfl | hp
          · exact ⟨heI, Ne.symm hIL, hI₀⟩
          · rcases List.mem_cons.mp hp with rfl | hp
            · exact ⟨heC, hCL, hC₀⟩
            · have z := N' p hp
              have hne : p.1 ≠ I ∧ p.1 ≠ H2.objs.size := by
                rcases List.mem_cons.mp hp with rfl | hp
                · exact ⟨Ne.symm hDI, hDC⟩
                · exact ⟨(off' p hp).1, (off' p hp).2.1⟩
              exact ⟨hs₃ _ _ hne.2 (hk₂' p.1 p.2 (by simpa using hne.1) z.1), z.2⟩
        refine wpAny_mono (turn i va vb ys news' oI H2.objs.size oC s₂.heap.objs.size _ h₃ _ g _ hlt hyl hPv hJ' hoC (by simp [hab]) (by simp) F₃ N₃ off' ⟨hCI, hDI, Ne.symm hDC⟩ hG' hS') (fun ok s₄ h₄ => ?_) fun _ _ e => e
        cases ok with
        | true =>
          simp only [if_true] at h₄ ⊢
          refine wpAny_mono h₄ (fun y s₅ h₅ => ?_) fun _ _ e => e
          obtain ⟨h₄, tk₄, g₄, news₄, rfl, F₄, N₄, off₄, hG₄, hS₄, hJ₄⟩ := h₅
          have zI := (N₄ (I, oI) List.mem_cons_self).1
          have zC := (N₄ (H2.objs.size, oC) (List.mem_cons_of_mem _ List.mem_cons_self)).1
          have zD := (N₄ (s₂.heap.objs.size, lst ys) (List.mem_cons_of_mem _ (List.mem_cons_of_mem _ List.mem_cons_self))).1
          have N₄' : News h₀ L h₄ news₄ := fun p hp => N₄ p (List.mem_cons_of_mem _ (List.mem_cons_of_mem _ (List.mem_cons_of_mem _ hp)))
          have hst₄ : St (i + 1) h₄ := hSt _ _ _ _ _ hst₃ heI zI F₄.keep N₄' hS₄
          refine append_at (hsz := by show ys.toArray.size ≤ sizeLine; rw [List.size_toArray]; exact Nat.le_trans (Nat.le_trans hyl hi) hsz) zD fun h₅ hs₅ hD₅ => ?_
          refine ⟨n + 1 - (i + 1), fin_lt hlt, h₅, tk₄, g₄, i + 1, ys ++ [y], _, news₄, rfl, hlt, rfl, by rw [List.length_append, List.length_singleton]; exact Nat.succ_le_succ hyl, W.frame _ _ _ hst₄ fun b hb o e => hs₅.extBut b o (fun q => hDf (q ▸ hb)) e, F₄.change hs₅ hDL hD₀,
            (hoC.ns zC).sameBut hs₅ (Ne.symm hDC), fun p hp => ?_, off₄, hG₄, hS₄, hJ₄⟩
          rcases List.mem_cons.mp hp with rfl | hp
          · exact ⟨hD₅.trans (congrArg some (lst_snoc ys y)), hDL, hD₀⟩
          · exact ⟨hs₅.extBut _ _ (off₄ p hp).2.2 (N₄' p hp).1, (N₄' p hp).2⟩
        | false =>
          simp only [Bool.false_eq_true, if_false] at h₄ ⊢
          obtain ⟨h₅, tk₄, g₄, news₄, rfl, F₄, N₄, off₄, hG₄, hS₄, hJ₄⟩ := h₄
          have zI := (N₄ (I, oI) List.mem_cons_self).1
          have zC := (N₄ (H2.objs.size, oC) (List.mem_cons_of_mem _ List.mem_cons_self)).1
          have N₄' : News h₀ L h₅ news₄ := fun p hp => N₄ p (List.mem_cons_of_mem _ (List.mem_cons_of_mem _ (List.mem_cons_of_mem _ hp)))
          have hst₄ : St (i + 1) h₅ := hSt _ _ _ _ _ hst₃ heI zI F₄.keep N₄' hS₄
          exact ⟨n + 1 - (i + 1), fin_lt hlt, h₅, tk₄, g₄, i + 1, ys, _, news₄, rfl, hlt, rfl, Nat.le_succ_of_le hyl, hst₄, F₄, hoC.ns zC, fun p hp => N₄ p (List.mem_cons_of_mem _ (List.mem_cons_of_mem _ hp)), off₄, hG₄, hS₄, hJ₄⟩
      · obtain rfl : i = n := Nat.le_antisymm hi (Nat.not_lt.mp hlt)
        refine W.done _ _ _ hst' fun h₂ tk₂ hk₂ => ?_
        exact hRR _ _ h₂ tk₂ g _ ys news' (fr_but F' hk₂ hIL hI₀) (news_but N' hk₂ fun p hp => by
          rcases List.mem_cons.mp hp with rfl | hp
          · exact Ne.symm hDI
          · exact (off' p hp).1) (fun p hp => (off' p hp).2.2) (hn'.at' fun o e => hk₂ _ o (by simpa using Ne.symm hCI) e) hC₀ hCL hDL (Ne.symm hDC) (fun p hp => (off' p hp).2.1) hG' hJ'
    · rcases List.mem_cons.mp hp with rfl | hp
      · exact ⟨hacc, hDL, hD₀⟩
      · exact ⟨old _ _ (N p hp).1, (N p hp).2⟩
  exact codeAny_compStart_list (loop _ rfl) (W.self 0 _ _ _ hst₁ (loop _ rfl))
end
end SR
end
section
open PySem PySem.W PyProof.Rows PySem.Calls PySem.Spec
set_option Elab.async false
set_option maxRecDepth 100000
namespace SR
theorem codeHd_100 {w : World} {h : Heap} (X : (hm.heap_1 w.params).In h) : CodeHd h 100 96 := codeHd_of_K X (by kernel_rfl)
theorem codeHd_93 {w : World} {h : Heap} (X : (hm.heap_1 w.params).In h) : CodeHd h 93 89 := codeHd_of_K X (by kernel_rfl)
theorem allLt_ne {a d : Addr} {l : Led} (h : AllLt a l) (le : @LE.le Nat _ a d) : ∀ p ∈ l, p.1 ≠ d := fun p hp => Nat.ne_of_lt (Nat.lt_of_lt_of_le (of_allLt h p hp) le)

/-- what stands in a code table: nothing yet, or the one code that was made -/
noncomputable def TabSt (line col : Nat) (qual : Str) (news : Led) (ps : Array Value) : Prop :=
  ps = #[] ∨ ∃ c' oc vs t, ps = #[rawInt line, rawInt col, .ref c'] ∧ (c', oc) ∈ news ∧ oc.data = .fields vs ∧ vs[1]? = some (.str qual t)
section
variable {M : Model} {A : Around} {E : Value → Shared → Prop} {s : Shared} {h₀ : Heap} {L a c P : Addr} {m mg mb : Str → Option Value} {cn : Str} {cs : Scope} {ccd : Value} {cl : List (Str × Addr)} {news : List (Addr × Obj)} {g : Obj → List (Addr × Obj)}
  {p : Program} {loose : List Str} {mean : ExcName → Option Value} {name qual : Str} {params : Arguments} {body : List Stmt} {scope : Scope} {ps : Array Value} {pos : Pos} {firstLine : Nat} {clos : List (Str × Addr)}
theorem nest3_K {o1 o2 o3 : Obj} {qual' : Str} {Q : Value → Shared → Prop} (F : Fr h₀ L s.heap m) (N : News h₀ L s.heap news) (T : Top p loose mean mg mb h₀) (C : CodeHd h₀ c P) (hcd : ccd = .ref c) (U : UpdF P (tabObj ps) news g) (hq : qual = qual') (ht : TabSt pos.line pos.col qual' news ps)
    (hcl : closureFor scope (envX cn cs L a ccd cl) = pure clos) (m1 : (L + 1, o1) ∈ news) (m2 : (L + 1 + 1, o2) ∈ news) (m3 : (L + 1 + 1 + 1, o3) ∈ news) (e1 : ∀ fs, o1.data ≠ .fields fs) (e2 : ∀ fs, o2.data ≠ .fields fs) (e3 : ∀ fs, o3.data ≠ .fields fs)
    (h : ∀ f c' oc vs t ctv doc h' tk, Fr h₀ L h' m →
      News h₀ L h' ((f, fnMade name qual params body scope clos doc ((mg "__name__").getD .none) c' ctv) :: (c', oc) :: g (tabObj #[rawInt pos.line, rawInt pos.col, .ref c'])) →
      oc.data = .fields vs → vs[1]? = some (.str qual t) → (∀ q ∈ news, q.1 < f) → c' < f → c' ≠ L + 1 → c' ≠ L + 1 + 1 → c' ≠ L + 1 + 1 + 1 → (∀ b o, (b, o) ∈ news → (∀ fs, o.data ≠ .fields fs) → c' ≠ b) → (ps = #[rawInt pos.line, rawInt pos.col, .ref c'] ∨ ∀ q ∈ news, q.1 < c') → Q (.ref f) { s with heap := h', toks := tk }) :
    wpAny M A (makeFunction name qual params (.stmts body) scope (envX cn cs L a ccd cl) [] [] [] pos firstLine) Q E s := by
  subst hq
  rcases ht with rfl | ⟨c', oc, vs, t, rfl, hc, hd, hv⟩
  · refine nest_K F N T C hcd U (by trivial) rfl hcl fun f c' oc vs t ctv doc h' tk F' N' hd hv l1 l2 => ?_
    refine h f c' oc vs t ctv doc h' tk F' N' hd hv (fun q hq => Nat.lt_trans (l1 q hq) l2) l2 ?_ ?_ ?_ ?_ (.inr fun q hq => l1 q hq)
    · exact Nat.ne_of_gt (l1 _ m1)
    · exact Nat.ne_of_gt (l1 _ m2)
    · exact Nat.ne_of_gt (l1 _ m3)
    · exact fun b o hb _ => Nat.ne_of_gt (l1 _ hb)
  · have hg : g (tabObj #[rawInt pos.line, rawInt pos.col, .ref c']) = news := by
      obtain ⟨own, rest, rfl, hgr, h1, h2⟩ := U.split
      exact hgr _
    have hm : (P, tabObj #[rawInt pos.line, rawInt pos.col, .ref c']) ∈ news := by
      obtain ⟨own, rest, rfl, hgr, h1, h2⟩ := U.split
      exact List.mem_append_right _ (.head _)
    refine nestHit_K F N T C hcd hm (by first | trivial | simp [TriplesOk, rawInt]) (by show codeAmong pos [.int pos.line 0, .int pos.col 0, .ref c'] = some (.ref c'); unfold codeAmong; simp only [beq_self_eq_true, Bool.and_self, if_true]) hcl fun f ctv doc h' tk F' N' l1 => ?_
    have ne : ∀ {b o}, (b, o) ∈ news → (∀ fs, o.data ≠ .fields fs) → c' ≠ b := by
      intro b o hb ho e
      subst e
      have := (N _ hb).1
      rw [(N _ hc).1] at this
      cases this
      exact ho _ hd
    refine h f c' oc vs t ctv doc h' tk F' ?_ hd hv l1 (l1 _ hc) (ne m1 e1) (ne m2 e2) (ne m3 e3) (fun b o hb ho => ne hb ho) (.inl rfl)
    rw [hg]
    intro q hq
    rcases List.mem_cons.mp hq with rfl | hq
    · exact N' _ (.head _)
    · rcases List.mem_cons.mp hq with rfl | hq
      · exact N' _ (.tail _ hc)
      · exact N' _ (.tail _ hq)
end
end SR
end
section
open PySem PySem.W PyProof.Rows PySem.Calls PySem.Spec
set_option Elab.async false
set_option maxRecDepth 100000
namespace SR
noncomputable abbrev qI2D : Str := Str.ofString "_int2digits.<locals>.inner"
noncomputable abbrev qD2I : Str := Str.ofString "_digits2int.<locals>.inner"
/-- a nested def's code object in a table -/
noncomputable def CodeOk (q : Str) (oc : Obj) : Prop := ∃ vs t, oc.data = .fields vs ∧ vs[1]? = some (.str q t)
theorem tabSt_more {line col : Nat} {q : Str} {news news' : Led} {ps : Array Value} (h : TabSt line col q news ps) (hs : ∀ p ∈ news, p ∈ news') : TabSt line col q news' ps := by
  rcases h with h | ⟨c', oc, vs, t, h1, h2, h3, h4⟩
  · exact .inl h
  · exact .inr ⟨c', oc, vs, t, h1, hs _ h2, h3, h4⟩
theorem rows_SRi_1 : True := by
  k_with_none
  k_with "execs cons" => (k_here; (fail_if_success with_reducible show wpAny _ Aq _ _ _ _); (try k_fold); refine' a_let ?_; intro Aq)
  k_with "execs cons" => (k_here; (fail_if_success with_reducible show wpAny _ _ _ _ _ ⟨_, _, _, tkq, _⟩); refine' tok_all ?_; intro tkq; dsimp only)
  k_with "execs cons" => (k_here; (fail_if_success refine' m_is (m := mq) (by with_reducible assumption) ?_); refine' m_let ?zzF ?_; (case zzF => k_asm); intro mq Fq; dsimp only at Fq)
  k_with "k_room" => (first | exact room_k (k := 0) (by assumption) (by decide) | exact room_k (k := 1) (by assumption) (by decide) | exact room_k (k := 2) (by assumption) (by decide) | exact room_k (k := 3) (by assumption) (by decide) | exact room_k (k := 4) (by assumption) (by decide) | ktr_room)
  k_with "ktr_room" => (first | exact room_k (k := 0) (by assumption) (by decide) | exact room_k (k := 1) (by assumption) (by decide) | exact room_k (k := 2) (by assumption) (by decide) | exact room_k (k := 3) (by assumption) (by decide) | exact room_k (k := 4) (by assumption) (by decide))
  k_with "k_units" => (first | exact unit_k (k := 3) (by assumption) rfl (by decide) | exact unit_k (k := 0) (by assumption) rfl (by decide) | exact unit_k (k := 6) (by assumption) rfl (by decide) | exact unit_k (k := 4) (by assumption) rfl (by decide) | exact unit_k (k := 7) (by assumption) rfl (by decide) | exact unit_k (k := 9) (by assumption) rfl (by decide) | exact unit_k (k := 1) (by assumption) rfl (by decide) | ktr_units)
  k_with "ktr_units" => (first | exact unit_k (k := 3) (by assumption) rfl (by decide) | exact unit_k (k := 0) (by assumption) rfl (by decide) | exact unit_k (k := 6) (by assumption) rfl (by decide) | exact unit_k (k := 4) (by assumption) rfl (by decide) | exact unit_k (k := 7) (by assumption) rfl (by decide) | exact unit_k (k := 9) (by assumption) rfl (by decide) | exact unit_k (k := 1) (by assumption) rfl (by decide))
  k_with "units_room" => (first | exact unit_k (k := 3) (by assumption) rfl (by decide) | exact unit_k (k := 0) (by assumption) rfl (by decide) | exact unit_k (k := 6) (by assumption) rfl (by decide) | exact unit_k (k := 4) (by assumption) rfl (by decide) | exact unit_k (k := 7) (by assumption) rfl (by decide) | exact unit_k (k := 9) (by assumption) rfl (by decide) | exact unit_k (k := 1) (by assumption) rfl (by decide))
  k_with "k_all" => (first | assumption | exact allLt_ne hLr (by omega))
  k_with "k_mem" => (assumption)
  k_with "is_list" => (exact News.isList (by assumption) (by k_mem))
  k_with "kn_code" => (first | exact codeHd_100 (by assumption) | exact codeHd_93 (by assumption))
  k_with "exec FunctionDef" => (k_here; k_dflt (refine' nestDef_K ?z16d0 ?z16k0 ?z16a0 ?_; (case z16d0 => exact rfl); (case z16k0 => exact rfl); (case z16a0 => exact rfl)); k_dflt (refine' nest3_K ?z16F ?z16N ?z16T ?z16C ?z16cd ?z16U ?z16hq ?z16t ?z16cl ?z16m1 ?z16m2 ?z16m3 ?z16e1 ?z16e2 ?z16e3 ?_; (case z16F => k_asm); (case z16N => k_asm); (case z16T => k_asm); (case z16cd => exact rfl); (case z16C => kn_code); (case z16U => k_updF); (case z16t => exact tabSt_more (by with_reducible assumption) (by intro p9q h9q; repeat (first | exact h9q | apply List.mem_cons_of_mem))); (case z16hq => kernel_rfl); (case z16cl => exact rfl); (case z16m1 => k_mem); (case z16m2 => k_mem); (case z16m3 => k_mem); (case z16e1 => (intro fsq eq; simp_all)); (case z16e2 => (intro fsq eq; simp_all)); (case z16e3 => (intro fsq eq; simp_all)); k_whole); intro f'q c'q oc'q vs'q t'q ct'q dc'q h'q tk'q F'q N'q d1'q d2'q l1q l2q n1q n2q n3q n4q n4bq; (try dsimp only at N'q); (try k_lt l1q); (try k_lt2 l2q))
  trivial
/-- how a def that fills a code table hands back: the table, its one code, what stood before -/
theorem tab_ret {h₀ h' : Heap} {L c' P : Addr} {oc : Obj} {vs : Array Value} {t : Tok} {line col : Nat} {q q' : Str} {news9 rest : Led}
    (N : News h₀ L h' news9) (m1 : (P, tabObj #[rawInt line, rawInt col, .ref c']) ∈ news9) (m2 : (c', oc) ∈ news9) (m3 : ∀ p ∈ rest, p ∈ news9) (hd : oc.data = .fields vs) (hv : vs[1]? = some (.str q t)) (hq : q = q') :
    News h₀ L h' ((P, tabObj #[rawInt line, rawInt col, .ref c']) :: (c', oc) :: rest) ∧ c' ≠ P ∧ TabSt line col q' ((P, tabObj #[rawInt line, rawInt col, .ref c']) :: (c', oc) :: rest) #[rawInt line, rawInt col, .ref c'] ∧ CodeOk q' oc := by
  subst hq
  refine ⟨fun p hp => ?_, fun e => ?_, .inr ⟨c', oc, vs, t, rfl, by simp, hd, hv⟩, vs, t, hd, hv⟩
  · rcases List.mem_cons.mp hp with rfl | hp
    · exact N _ m1
    · rcases List.mem_cons.mp hp with rfl | hp
      · exact N _ m2
      · exact N _ (m3 _ hp)
  · subst e
    have h1 := (N _ m1).1
    rw [(N _ m2).1] at h1
    cases h1
    cases hd
    simp [rawInt] at hv
set_option maxHeartbeats 8000000 in
theorem tell_d2i (w : World) (q : Addr) (qn : Nat) (d0 d1 d2 : Int) (t0 t1 t2 : Tok) (rest : Led) (hr : ∀ p ∈ rest, p.1 ≠ 96) (ps : Array Value) (hps : TabSt 71 4 qD2I rest ps) (hq : (q, listOf #[.int d0 t0, .int d1 t1, .int d2 t2] qn) ∈ rest) (tn : Tok) (a0 : 0 ≤ d0) (b0 : d0 ≤ 1) (a1 : 0 ≤ d1) (b1 : d1 ≤ 1) (a2 : 0 ≤ d2) (b2 : d2 ≤ 1) :
    Tell w 101 [.ref q, .int 1 tn] 20 100 ((96, tabObj ps) :: rest) (fun r news' => (∃ t, r = .int (d0 + 2 * d1 + 4 * d2) t) ∧ ∃ c' oc ps', news' = (96, tabObj ps') :: (c', oc) :: rest ∧ c' ≠ 96 ∧ TabSt 71 4 qD2I news' ps' ∧ (ps' = ps ∨ ∀ p ∈ rest, p.1 ≠ c') ∧ ps' = #[rawInt 71, rawInt 4, .ref c'] ∧ CodeOk qD2I oc) := by
  unfold Tell
  k_fill
  intro p loose mean mg mb dp un gd cn cs a ccd cl outer A₀ base h₀ L m s Q E B F X N T hk hG hd hu hret
  have C := codeHd_100 X
  obtain ⟨_, _, _, _, _⟩ := cs
  cases hk
  refine wpAny_call ?_
  k_dflt k_enter
  rename (96 < _ ∧ AllLt _ rest) => l1
  obtain ⟨l96, hLr⟩ := l1
  k_steps
  rename _ ∨ _ => n4b
  obtain ⟨N9, n9, st9, ok9⟩ := tab_ret (P := 96) (rest := rest) (line := 71) (col := 4) (q' := qD2I) (by k_asm) (by k_mem) (by k_mem) (by intro p9 h9; repeat (first | exact h9 | apply List.mem_cons_of_mem)) (by with_reducible assumption) (by with_reducible assumption) (by kernel_rfl)
  exact hret _ _ _ _ _ (by k_asm) N9 (by assumption) ⟨⟨_, congrArg (fun z => Value.int z _) (by
    show (d2 * 2 + d1) * 2 + d0 = _
    omega)⟩, _, _, _, rfl, n9, st9, n4b.imp (fun e => e.symm) fun h9 p9 hp9 => Nat.ne_of_lt (h9 p9 (by repeat (first | exact hp9 | apply List.mem_cons_of_mem))), rfl, ok9⟩
end SR
end
section
open PySem PySem.W PyProof.Rows PySem.Calls PySem.Spec
set_option Elab.async false
set_option maxRecDepth 100000
namespace SR
section
variable {prog : Program} {w : World} {A : Around} {E : Value → Shared → Prop} {s : Shared} {h₀ : Heap} {L : Addr} {m : Str → Option Value} {news : Led}
theorem join_acc {sep : Str} {t : Tok} {a k : Addr} {n : Nat} {G : Nat → Value → Prop} {Q : Value → Shared → Prop} (Fh : Fr h₀ L s.heap m) (N : News h₀ L s.heap news) (hG : AllBare s.gens) (X : Gen prog w A k a n G s) (hLk : L ≤ k) (hb : ∀ q ∈ news, q.1 ≤ k) (tx : Nat → Str) (htx : ∀ j v, G j v → ∃ u, v = .str (tx j) u)
    (hok : JoinOk sep ((List.range n).map tx) = true) (hsz : n ≤ sizeLine)
    (hQ : ∀ h' tk g' t', Fr h₀ L h' m → News h₀ L h' news → AllBare g' → Q (.str (Txt.join sep ((List.range n).map tx)) t') { s with heap := h', toks := tk, gens := g' }) : wpAny (model prog w) A (call (.builtin "str.join") [.str sep t, .ref a]) Q E s := by
  obtain ⟨fp, wr, g, St, W, hst, hT, ha, hfp, hwr⟩ := X
  refine SC.joinGen W.in4_2 hT hst hfp ha (fun j v hv => let ⟨u, e⟩ := htx j v hv; ⟨_, u, e⟩) (fun s' lt hm hacc => ?_) hsz
  have hl : lt.map (·.1) = (List.range n).map tx := by
    have hsz : lt.length = n := by simpa [strValues] using hacc.1
    refine List.ext_getElem (by simp [hsz]) fun j h1 h2 => ?_
    rw [List.length_map] at h1
    obtain ⟨u, hv⟩ := htx j _ (hacc.2 j (.str lt[j].1 lt[j].2) (by simp [strValues, List.getElem?_eq_getElem h1]))
    injection hv with h1 _
    simp [h1]
  rw [hl]
  refine ⟨hok, fun t' tk => ?_⟩
  have hs : { s' with toks := tk } = { s with heap := s'.heap, toks := tk, gens := s'.gens } := by
    obtain ⟨_, _, _, _, _⟩ := s
    obtain ⟨_, _, _, _, _⟩ := s'
    have h1 := hm.drawn
    have h2 := hm.os
    dsimp only at h1 h2
    subst h1 h2
    rfl
  rw [hs]
  refine hQ _ _ _ _ (Fh.moved hm fun b hb => Nat.lt_of_le_of_lt hLk (hwr b hb)) (fun q hq => ⟨hm.heap _ _ (fun hmem => Nat.lt_irrefl _ (Nat.lt_of_lt_of_le (hwr _ hmem) (hb q hq))) (N q hq).1, (N q hq).2⟩) (hG.movedS hm)
end
theorem codeHd_153 {w : World} {h : Heap} (X : (hm.heap_1 w.params).In h) : CodeHd h 153 149 := codeHd_of_K X (by kernel_rfl)
theorem rowz_SRo_1 : True := by
  k_with_none
  k_with "execs cons" => (k_here; (fail_if_success with_reducible show wpAny _ Aq _ _ _ _); (try k_fold); refine' a_let ?_; intro Aq)
  k_with "execs cons" => (k_here; (fail_if_success with_reducible show wpAny _ _ _ _ _ ⟨_, _, _, tkq, _⟩); refine' tok_all ?_; intro tkq; dsimp only)
  k_with "execs cons" => (k_here; (fail_if_success refine' m_is (m := mq) (by with_reducible assumption) ?_); refine' m_let ?zzF ?_; (case zzF => k_asm); intro mq Fq; dsimp only at Fq)
  k_with "k_room" => (first | exact room_k (k := 0) (by assumption) (by decide) | exact room_k (k := 1) (by assumption) (by decide) | exact room_k (k := 2) (by assumption) (by decide) | exact room_k (k := 3) (by assumption) (by decide) | exact room_k (k := 4) (by assumption) (by decide) | ktr_room)
  k_with "ktr_room" => (first | exact room_k (k := 0) (by assumption) (by decide) | exact room_k (k := 1) (by assumption) (by decide) | exact room_k (k := 2) (by assumption) (by decide) | exact room_k (k := 3) (by assumption) (by decide) | exact room_k (k := 4) (by assumption) (by decide))
  k_with "k_units" => (first | exact unit_k (k := 3) (by assumption) rfl (by decide) | exact unit_k (k := 0) (by assumption) rfl (by decide) | exact unit_k (k := 6) (by assumption) rfl (by decide) | exact unit_k (k := 4) (by assumption) rfl (by decide) | exact unit_k (k := 7) (by assumption) rfl (by decide) | exact unit_k (k := 9) (by assumption) rfl (by decide) | exact unit_k (k := 1) (by assumption) rfl (by decide) | ktr_units)
  k_with "ktr_units" => (first | exact unit_k (k := 3) (by assumption) rfl (by decide) | exact unit_k (k := 0) (by assumption) rfl (by decide) | exact unit_k (k := 6) (by assumption) rfl (by decide) | exact unit_k (k := 4) (by assumption) rfl (by decide) | exact unit_k (k := 7) (by assumption) rfl (by decide) | exact unit_k (k := 9) (by assumption) rfl (by decide) | exact unit_k (k := 1) (by assumption) rfl (by decide))
  k_with "units_room" => (first | exact unit_k (k := 3) (by assumption) rfl (by decide) | exact unit_k (k := 0) (by assumption) rfl (by decide) | exact unit_k (k := 6) (by assumption) rfl (by decide) | exact unit_k (k := 4) (by assumption) rfl (by decide) | exact unit_k (k := 7) (by assumption) rfl (by decide) | exact unit_k (k := 9) (by assumption) rfl (by decide) | exact unit_k (k := 1) (by assumption) rfl (by decide))
  k_with "k_all" => (first | assumption | exact allLt_ne hLr (by omega))
  k_with "k_mem" => (assumption)
  trivial
set_option maxHeartbeats 8000000 in
theorem tell_str (w : World) (rest : Led) (hr : ∀ p ∈ rest, p.1 ≠ 149) (o : Obj) (ps : Array Value) (ho : IsTab o ps) (htr : TriplesOk ps.toList) (x d : Addr) (pcs : List Pc) (ep : Nat) (hx : (x, accO d (pcs.map Pc.ref) ep) ∈ rest) (hp : ∀ q ∈ pcs, (q.T, tupO q.vals) ∈ rest) (hz : ∀ q ∈ pcs, q.a.length + q.b.length ≤ 1000) (hz2 : pcs.length ≤ 1000) :
    Tell w 154 [.ref x] 20 100 ((149, o) :: rest) (fun r news' => (∃ t, r = .str (Txt.join (Str.ofString "") (pcs.map fun q => q.a ++ q.b)) t) ∧ ∃ o' ps', news' = (149, o') :: rest ∧ IsTab o' ps' ∧ TriplesOk ps'.toList) := by
  unfold Tell
  k_fill
  intro p loose mean mg mb dp un gd cn cs a ccd cl outer A₀ base h₀ L m s Q E B F X N T hk hG hd hu hret
  have C := codeHd_153 X
  obtain ⟨_, _, _, _, _⟩ := cs
  cases hk
  refine wpAny_call ?_
  k_dflt k_enter
  k_steps
  refine gen_acc (K := SR.hm.heap_1 w.params) (P := 149) (c := 153) (o := o) (ps := ps) (rest := rest) (x := x) (d := d) (ep := ep) (pcs := pcs) (tE := 318) (cl := []) (by k_asm) (by k_asm) (by k_asm) (by k_asm) hr (codeHd_153 (by k_asm)) ho htr rfl rfl hx hp hz (by k_is) (by k_is) (by k_is) rfl rfl (by with_unfolding_all rfl) (by decide) (by rfl) (by rfl) (by rfl) (by rfl) rfl (by k_room) ?hself (by intro _; with_unfolding_all rfl) (fun C' code bi => ⟨_, rfl⟩) ?_
  case hself => (intro Q9 hq9; walk1; exact hq9)
  intro a9 h9 tk9 gs9 k9 o9 ps9 hgb9 F9 N9 ho9 ht9 hLk9 hbk9 X9
  have hl : (List.range pcs.length).map (fun j => (pcs.getD j Pc.zero).a ++ (pcs.getD j Pc.zero).b) = pcs.map fun q => q.a ++ q.b := by
    refine List.ext_getElem (by simp) fun j h1 h2 => ?_
    simp at h1
    simp [List.getD_eq_getElem?_getD, h1]
  walk1
  refine join_acc (by k_asm) N9 (AllBare.push hG hgb9) X9 hLk9 hbk9 (fun j => (pcs.getD j Pc.zero).a ++ (pcs.getD j Pc.zero).b) (fun j v hv => hv) ?hok (Nat.le_trans hz2 (by rw [sizeLine_eq]; omega)) ?_
  case hok =>
    rw [hl]
    refine joinOk_of ?_
    have hs : ∀ l : List Pc, (∀ q ∈ l, q.a.length + q.b.length ≤ 1000) → ((l.map fun q => q.a ++ q.b).map (·.length)).sum ≤ 1000 * l.length := by
      intro l
      induction l with
      | nil => intro _; simp
      | cons q r ih =>
        intro hq
        have h1 := hq q (.head _)
        have h2 := ih fun y hy => hq y (.tail _ hy)
        have h3 : (q.a ++ q.b).length = q.a.length + q.b.length := by
          show (q.a.cps ++ q.b.cps).size = _
          rw [Array.size_append]; rfl
        simp only [List.map_cons, List.sum_cons, List.length_cons, h3]
        omega
    have h0 : (Str.ofString "").length = 0 := by show (Str.ofString "").cps.size = 0; rw [empty_cps]; rfl
    have h1 := hs pcs hz
    rw [h0]
    simp only [List.length_map] at *
    omega
  rw [hl]
  intro h6 tk6 g6 t6 F6 N6 G6
  k_steps
  exact hret _ _ _ _ _ (by k_asm) (by k_asm) G6 ⟨⟨_, rfl⟩, _, _, rfl, ho9, ht9⟩
end SR
end
section
open PySem PySem.W PyProof.Rows PySem.Calls PySem.Spec
set_option Elab.async false
set_option maxRecDepth 100000
namespace SR
theorem rows_SRk_1 : True := by
  k_with_none
  k_with "execs cons" => (k_here; k_fold)
  k_with "execs cons" => (k_here; (fail_if_success with_reducible show wpAny _ Aq _ _ _ _); (try k_fold); refine' a_let ?_; intro Aq)
  k_with "execs cons" => (k_here; (fail_if_success with_reducible show wpAny _ _ _ _ _ ⟨_, _, _, tkq, _⟩); refine' tok_all ?_; intro tkq; dsimp only)
  k_with "execs cons" => (k_here; (fail_if_success refine' m_is (m := mq) (by with_reducible assumption) ?_); refine' m_let ?zzF ?_; (case zzF => k_asm); intro mq Fq; dsimp only at Fq)
  k_with "k_room" => (first | exact room_k (k := 0) (by assumption) (by decide) | exact room_k (k := 1) (by assumption) (by decide) | exact room_k (k := 2) (by assumption) (by decide) | exact room_k (k := 3) (by assumption) (by decide) | exact room_k (k := 4) (by assumption) (by decide) | ktr_room)
  k_with "ktr_room" => (first | exact room_k (k := 0) (by assumption) (by decide) | exact room_k (k := 1) (by assumption) (by decide) | exact room_k (k := 2) (by assumption) (by decide) | exact room_k (k := 3) (by assumption) (by decide) | exact room_k (k := 4) (by assumption) (by decide))
  k_with "k_units" => (first | exact unit_k (k := 3) (by assumption) rfl (by decide) | exact unit_k (k := 0) (by assumption) rfl (by decide) | exact unit_k (k := 6) (by assumption) rfl (by decide) | exact unit_k (k := 4) (by assumption) rfl (by decide) | exact unit_k (k := 7) (by assumption) rfl (by decide) | exact unit_k (k := 9) (by assumption) rfl (by decide) | exact unit_k (k := 1) (by assumption) rfl (by decide) | ktr_units)
  k_with "ktr_units" => (first | exact unit_k (k := 3) (by assumption) rfl (by decide) | exact unit_k (k := 0) (by assumption) rfl (by decide) | exact unit_k (k := 6) (by assumption) rfl (by decide) | exact unit_k (k := 4) (by assumption) rfl (by decide) | exact unit_k (k := 7) (by assumption) rfl (by decide) | exact unit_k (k := 9) (by assumption) rfl (by decide) | exact unit_k (k := 1) (by assumption) rfl (by decide))
  k_with "units_room" => (first | exact unit_k (k := 3) (by assumption) rfl (by decide) | exact unit_k (k := 0) (by assumption) rfl (by decide) | exact unit_k (k := 6) (by assumption) rfl (by decide) | exact unit_k (k := 4) (by assumption) rfl (by decide) | exact unit_k (k := 7) (by assumption) rfl (by decide) | exact unit_k (k := 9) (by assumption) rfl (by decide) | exact unit_k (k := 1) (by assumption) rfl (by decide))
  k_with "k_all" => (first | assumption | exact allLt_ne hLr (by omega))
  k_with "k_mem" => (assumption)
  k_with "is_list" => (exact News.isList (by assumption) (by k_mem))
  k_with "kn_code" => (first | exact codeHd_100 (by assumption) | exact codeHd_93 (by assumption))
  k_with "exec FunctionDef" => (k_here; k_dflt (refine' nestDef_K ?z11d0 ?z11k0 ?z11a0 ?_; (case z11d0 => exact rfl); (case z11k0 => exact rfl); (case z11a0 => exact rfl)); k_dflt (refine' nest3_K ?z11F ?z11N ?z11T ?z11C ?z11cd ?z11U ?z11hq ?z11t ?z11cl ?z11m1 ?z11m2 ?z11m3 ?z11e1 ?z11e2 ?z11e3 ?_; (case z11F => k_asm); (case z11N => k_asm); (case z11T => k_asm); (case z11cd => exact rfl); (case z11C => kn_code); (case z11U => k_updF); (case z11t => exact tabSt_more (by with_reducible assumption) (by intro p9q h9q; repeat (first | exact h9q | apply List.mem_cons_of_mem))); (case z11hq => kernel_rfl); (case z11cl => exact rfl); (case z11m1 => k_mem); (case z11m2 => k_mem); (case z11m3 => k_mem); (case z11e1 => (intro fsq eq; simp_all)); (case z11e2 => (intro fsq eq; simp_all)); (case z11e3 => (intro fsq eq; simp_all)); k_whole); intro f'q c'q oc'q vs'q t'q ct'q dc'q h'q tk'q F'q N'q d1'q d2'q l1q l2q n1q n2q n3q n4q n4bq; (try dsimp only at N'q); (try k_lt l1q); (try k_lt2 l2q); (have n5q := n4q _ (listOf _ 0) (by k_mem) (by intro fsq eq; cases eq)))
  trivial
theorem call_bl {prog : Program} {w : World} {A : Around} {E : Value → Shared → Prop} {s : Shared} {a k : Int} {t : Tok} {Q : Value → Shared → Prop} (hk : (Builtin.Int.intBits a : Int) = k) (h : Q (.int k s.toks) { s with toks := s.toks + 1 }) :
    wpAny (model prog w) A (call (.builtin "int.bit_length") [.int a t]) Q E s := call_int_bit_length (by rw [hk]; exact h)
theorem rows_SRk_2 : True := by
  k_with "call builtin:int.bit_length" => (k_dflt (refine call_bl (by assumption) ?_))
  k_with "binaryOp Mult ref int" => (k_here; (with_reducible show wpAny _ _ (binaryOp Operator.Mult (Value.ref _) (Value.int _ _)) _ _ _); k_dflt (refine' KMa.mul ?z13F ?z13N ?z13l ?z13lo ?z13hi ?z13z ?z13e ?_; (case z13F => k_asm); (case z13N => k_asm); (case z13l => is_list); (case z13lo => decide); (case z13hi => decide); (case z13z => (simp only [List.length_cons, List.length_nil]; decide)); (case z13e => (simp only [Int.reduceAdd, Int.reduceSub, Int.reduceFDiv, Int.reduceToNat, List.replicate_succ, List.replicate_zero, List.flatten_cons, List.flatten_nil, List.cons_append, List.nil_append, List.append_nil]; first | done | exact rfl)); k_whole); intro D'q h'q F'q N'q l1q; (try k_lt l1q))
  trivial
theorem allLt_lt {a d : Addr} {l : Led} (h : AllLt a l) (le : @LE.le Nat _ a d) : ∀ p ∈ l, p.1 < d := fun p hp => Nat.lt_of_lt_of_le (of_allLt h p hp) le
noncomputable def bits (v : Int) : List Int := [v % 2, v / 2 % 2, v / 4 % 2]
noncomputable def I2dPost (ps : Array Value) (v : Int) (rest : Led) (r : Value) (news' : Led) : Prop :=
  ∃ D c' oc ps' vs ns n, r = .ref D ∧ news' = (89, tabObj ps') :: (c', oc) :: (D, listOf vs.toArray n) :: rest ∧ c' ≠ 89 ∧ (∀ p ∈ rest, p.1 < D) ∧ 89 < D ∧ TabSt 56 4 qI2D news' ps' ∧ IntsAre vs ns ∧ vs.length ≤ 3 ∧ (ns ++ [0, 0, 0]).take 3 = bits v ∧ c' ≠ D ∧ (ps' = ps ∨ ∀ p ∈ rest, p.1 ≠ c') ∧ ps' = #[rawInt 56, rawInt 4, .ref c'] ∧ CodeOk qI2D oc
set_option maxHeartbeats 8000000 in
theorem tell_i2d_0 (w : World) (rest : Led) (hr : ∀ p ∈ rest, p.1 ≠ 89) (ps : Array Value) (hps : TabSt 56 4 qI2D rest ps) (ta tn : Tok) (v : Int) (hbits : (Builtin.Int.intBits v : Int) = 0) (hv : v = 0) :
    Tell w 94 [.int v ta, .int 1 tn] 20 100 ((89, tabObj ps) :: rest) (I2dPost ps v rest) := by
  subst hv
  unfold Tell
  k_fill
  intro p loose mean mg mb dp un gd cn cs a ccd cl outer A₀ base h₀ L m s Q E B F X N T hk hG hd hu hret
  have C := codeHd_93 X
  obtain ⟨_, _, _, _, _⟩ := cs
  cases hk
  refine wpAny_call ?_
  k_dflt k_enter
  rename (89 < _ ∧ AllLt _ rest) => l1
  obtain ⟨l96, hLr⟩ := l1
  k_steps
  rename _ ∨ _ => n4b
  obtain ⟨N9, n9, st9, ok9⟩ := tab_ret (P := 89) (rest := (_, listOf _ 0) :: rest) (line := 56) (col := 4) (q' := qI2D) (by k_asm) (by k_mem) (by k_mem) (by intro p9 h9; rcases List.mem_cons.mp h9 with rfl | h9; (· k_mem); (repeat (first | exact h9 | apply List.mem_cons_of_mem))) (by with_reducible assumption) (by with_reducible assumption) (by kernel_rfl)
  exact hret _ _ _ _ _ (by k_asm) N9 (by assumption) ⟨_, _, _, _, _, _, _, rfl, rfl, n9, allLt_lt hLr (by omega), by (show @LT.lt Nat _ 89 _); omega, st9, by repeat constructor, Nat.le_of_ble_eq_true rfl, by decide, by assumption, n4b.imp (fun e => e.symm) fun h9 p9 hp9 => Nat.ne_of_lt (h9 p9 (by repeat (first | exact hp9 | apply List.mem_cons_of_mem))), rfl, ok9⟩
set_option maxHeartbeats 8000000 in
theorem tell_i2d_1 (w : World) (rest : Led) (hr : ∀ p ∈ rest, p.1 ≠ 89) (ps : Array Value) (hps : TabSt 56 4 qI2D rest ps) (ta tn : Tok) (v : Int) (hbits : (Builtin.Int.intBits v : Int) = 1) (hv : v = 1) :
    Tell w 94 [.int v ta, .int 1 tn] 20 100 ((89, tabObj ps) :: rest) (I2dPost ps v rest) := by
  subst hv
  unfold Tell
  k_fill
  intro p loose mean mg mb dp un gd cn cs a ccd cl outer A₀ base h₀ L m s Q E B F X N T hk hG hd hu hret
  have C := codeHd_93 X
  obtain ⟨_, _, _, _, _⟩ := cs
  cases hk
  refine wpAny_call ?_
  k_dflt k_enter
  rename (89 < _ ∧ AllLt _ rest) => l1
  obtain ⟨l96, hLr⟩ := l1
  k_steps
  rename _ ∨ _ => n4b
  obtain ⟨N9, n9, st9, ok9⟩ := tab_ret (P := 89) (rest := (_, listOf _ 0) :: rest) (line := 56) (col := 4) (q' := qI2D) (by k_asm) (by k_mem) (by k_mem) (by intro p9 h9; rcases List.mem_cons.mp h9 with rfl | h9; (· k_mem); (repeat (first | exact h9 | apply List.mem_cons_of_mem))) (by with_reducible assumption) (by with_reducible assumption) (by kernel_rfl)
  exact hret _ _ _ _ _ (by k_asm) N9 (by assumption) ⟨_, _, _, _, _, _, _, rfl, rfl, n9, allLt_lt hLr (by omega), by (show @LT.lt Nat _ 89 _); omega, st9, by repeat constructor, Nat.le_of_ble_eq_true rfl, by decide, by assumption, n4b.imp (fun e => e.symm) fun h9 p9 hp9 => Nat.ne_of_lt (h9 p9 (by repeat (first | exact hp9 | apply List.mem_cons_of_mem))), rfl, ok9⟩
set_option maxHeartbeats 8000000 in
theorem tell_i2d_2 (w : World) (rest : Led) (hr : ∀ p ∈ rest, p.1 ≠ 89) (ps : Array Value) (hps : TabSt 56 4 qI2D rest ps) (ta tn : Tok) (v : Int) (hbits : (Builtin.Int.intBits v : Int) = 2) (v0 : 2 ≤ v) (v1 : v ≤ 3) :
    Tell w 94 [.int v ta, .int 1 tn] 20 100 ((89, tabObj ps) :: rest) (I2dPost ps v rest) := by
  unfold Tell
  k_fill
  intro p loose mean mg mb dp un gd cn cs a ccd cl outer A₀ base h₀ L m s Q E B F X N T hk hG hd hu hret
  have C := codeHd_93 X
  obtain ⟨_, _, _, _, _⟩ := cs
  cases hk
  refine wpAny_call ?_
  k_dflt k_enter
  rename (89 < _ ∧ AllLt _ rest) => l1
  obtain ⟨l96, hLr⟩ := l1
  k_steps
  rotate_left
  · exfalso; omega
  rename _ ∨ _ => n4b
  obtain ⟨N9, n9, st9, ok9⟩ := tab_ret (P := 89) (rest := (_, listOf _ 0) :: rest) (line := 56) (col := 4) (q' := qI2D) (by k_asm) (by k_mem) (by k_mem) (by intro p9 h9; rcases List.mem_cons.mp h9 with rfl | h9; (· k_mem); (repeat (first | exact h9 | apply List.mem_cons_of_mem))) (by with_reducible assumption) (by with_reducible assumption) (by kernel_rfl)
  exact hret _ _ _ _ _ (by k_asm) N9 (by assumption) ⟨_, _, _, _, _, _, _, rfl, rfl, n9, allLt_lt hLr (by omega), by (show @LT.lt Nat _ 89 _); omega, st9, by repeat constructor, Nat.le_of_ble_eq_true rfl, (by
    have hv : v = 2 ∨ v = 3 := by omega
    rcases hv with rfl | rfl <;> decide), by assumption, n4b.imp (fun e => e.symm) fun h9 p9 hp9 => Nat.ne_of_lt (h9 p9 (by repeat (first | exact hp9 | apply List.mem_cons_of_mem))), rfl, ok9⟩
set_option maxHeartbeats 8000000 in
theorem tell_i2d_3 (w : World) (rest : Led) (hr : ∀ p ∈ rest, p.1 ≠ 89) (ps : Array Value) (hps : TabSt 56 4 qI2D rest ps) (ta tn : Tok) (v : Int) (hbits : (Builtin.Int.intBits v : Int) = 3) (v0 : 4 ≤ v) (v1 : v ≤ 7) :
    Tell w 94 [.int v ta, .int 1 tn] 20 100 ((89, tabObj ps) :: rest) (I2dPost ps v rest) := by
  unfold Tell
  k_fill
  intro p loose mean mg mb dp un gd cn cs a ccd cl outer A₀ base h₀ L m s Q E B F X N T hk hG hd hu hret
  have C := codeHd_93 X
  obtain ⟨_, _, _, _, _⟩ := cs
  cases hk
  refine wpAny_call ?_
  k_dflt k_enter
  rename (89 < _ ∧ AllLt _ rest) => l1
  obtain ⟨l96, hLr⟩ := l1
  k_steps
  rotate_left
  · exfalso; omega
  rename _ ∨ _ => n4b
  obtain ⟨N9, n9, st9, ok9⟩ := tab_ret (P := 89) (rest := (_, listOf _ 0) :: rest) (line := 56) (col := 4) (q' := qI2D) (by k_asm) (by k_mem) (by k_mem) (by intro p9 h9; rcases List.mem_cons.mp h9 with rfl | h9; (· k_mem); (repeat (first | exact h9 | apply List.mem_cons_of_mem))) (by with_reducible assumption) (by with_reducible assumption) (by kernel_rfl)
  exact hret _ _ _ _ _ (by k_asm) N9 (by assumption) ⟨_, _, _, _, _, _, _, rfl, rfl, n9, allLt_lt hLr (by omega), by (show @LT.lt Nat _ 89 _); omega, st9, by repeat constructor, Nat.le_of_ble_eq_true rfl, (by
    have hv : v = 4 ∨ v = 5 ∨ v = 6 ∨ v = 7 := by omega
    rcases hv with rfl | rfl | rfl | rfl <;> decide), by assumption, n4b.imp (fun e => e.symm) fun h9 p9 hp9 => Nat.ne_of_lt (h9 p9 (by repeat (first | exact hp9 | apply List.mem_cons_of_mem))), rfl, ok9⟩
theorem tell_i2d (w : World) (rest : Led) (hr : ∀ p ∈ rest, p.1 ≠ 89) (ps : Array Value) (hps : TabSt 56 4 qI2D rest ps) (ta tn : Tok) (v : Int) (v0 : 0 ≤ v) (v1 : v ≤ 7) :
    Tell w 94 [.int v ta, .int 1 tn] 20 100 ((89, tabObj ps) :: rest) (I2dPost ps v rest) := by
  by_cases h0 : v = 0
  · exact tell_i2d_0 w rest hr ps hps ta tn v (by subst h0; decide) h0
  by_cases h1 : v = 1
  · exact tell_i2d_1 w rest hr ps hps ta tn v (by subst h1; decide) h1
  by_cases h2 : v ≤ 3
  · have hv : v = 2 ∨ v = 3 := by omega
    exact tell_i2d_2 w rest hr ps hps ta tn v (by rcases hv with rfl | rfl <;> decide) (by omega) h2
  · have hv : v = 4 ∨ v = 5 ∨ v = 6 ∨ v = 7 := by omega
    exact tell_i2d_3 w rest hr ps hps ta tn v (by rcases hv with rfl | rfl | rfl | rfl <;> decide) (by omega) v1
end SR
end
section
open PySem PySem.W PyProof.Rows PySem.Calls PySem.Spec LCg
set_option Elab.async false
set_option maxRecDepth 100000
namespace SR
theorem tell_use {w : World} {f : Addr} {vs : List Value} {dpt unt : Nat} {news : Led} {Post : Value → Led → Prop} {p : Program} {loose : List Str} {mean : ExcName → Option Value} {mg mb : Str → Option Value} {dp un : Nat} {gd : Option (List Code)} {cn : Str} {cs : Scope} {a : Addr} {ccd : Value} {cl : List (Str × Addr)} {outer : List Env} {A₀ : Around} {base h₀ : Heap} {L : Addr} {m : Str → Option Value} {s : Shared}
    {Q E : Value → Shared → Prop} (C : Tell w f vs dpt unt news Post) (B : Below A₀ base outer h₀) (F : Fr h₀ L s.heap m) (X : (hm.heap_1 w.params).In h₀) (N : News h₀ L s.heap news) (T : Top p loose mean mg mb h₀) (hk : cs.kind = .function) (hG : AllBare s.gens) (hd : dp + dpt < recursionLimit) (hu : un + unt < cLine)
    (ret : ∀ r news' h' tk' g', Fr h₀ L h' m → News h₀ L h' news' → AllBare g' → Post r news' → Q r { s with heap := h', toks := tk', gens := g' }) :
    wpAny (model PySem.Challenge.rw_sr0056_01.row.prog w) (ktrTop dp un gd cn cs L a ccd cl outer) (call (.ref f) vs) Q E s := C _ _ _ _ _ _ _ _ _ _ _ _ _ _ _ _ _ _ _ _ _ _ B F X N T hk hG hd hu ret

theorem tell_countN (w : World) (x d : Addr) (vs : List Value) (ep : Nat) (hsh : Int) (tk tk' : Tok) (news : Led) (h1 : (x, accO d vs ep) ∈ news) (h2 : (d, accD hsh tk tk') ∈ news) {n : Nat} (hn : vs.length = n) :
    Tell w 177 [.ref x] 10 100 news (fun r news' => (∃ t, r = .int n t) ∧ news' = news) := by
  subst hn
  exact tell_count w x d vs ep hsh tk tk' news h1 h2
noncomputable abbrev piece (k : Int) : Str × Str := (Txt.mul (Str.ofString " ") (k.fmod 2), Txt.mul (Str.ofString " ") (1 - k.fmod 2))
theorem fmod_two (k : Int) : k.fmod 2 = 0 ∨ k.fmod 2 = 1 := by
  have h1 := Int.fmod_nonneg_of_pos k (by decide : (0 : Int) < 2)
  have h2 := Int.fmod_lt_of_pos k (by decide : (0 : Int) < 2)
  omega
theorem piece_ok (k : Int) : PyData.strOk (piece k).1 = true ∧ PyData.strOk (piece k).2 = true := by
  rcases fmod_two k with h | h <;> simp only [piece, h] <;> decide +kernel
theorem CompEndO.intro {h₀ : Heap} {L : Addr} {m : Str → Option Value} {s : Shared} {I : Addr} {oI : Obj} {C D : Addr} {ys : List Value} {S : Led → Prop} {J : Value → Led → Prop} {oC : Obj} {y : Value} {h' : Heap} {tk : Nat} {g : Array GenState} {all : Led} (F : Fr h₀ L h' m) (N : News h₀ L h' all) (news' : Led)
    (sub : ∀ p ∈ (I, oI) :: (C, oC) :: (D, lst ys) :: news', p ∈ all) (off : ∀ p ∈ news', p.1 ≠ I ∧ p.1 ≠ C ∧ p.1 ≠ D) (hG : AllBare g) (hS : S news') (hJ : J y news') : CompEndO h₀ L m s I oI C D ys S J oC y { s with heap := h', toks := tk, gens := g } :=
  ⟨h', tk, g, news', rfl, F, fun p hp => N p (sub p hp), off, hG, hS, hJ⟩
section
variable {prog : Program} {w : World} {A : Around} {E : Value → Shared → Prop} {s : Shared} {h₀ : Heap} {L a b : Addr} {news : Led}
noncomputable abbrev Pc.data (q : Pc) : PyData := .tuple [.str q.a, .str q.b]
theorem pcs_reads (N : News h₀ L s.heap news) : ∀ ps : List Pc, (∀ q ∈ ps, (q.T, tupO q.vals) ∈ news) → ReadsAll s.heap (ps.map Pc.ref) (ps.map Pc.data) []
  | [], _ => .nil
  | q :: r, h => .cons (as := []) (reads_tuple_at (N _ (h q (.head _))).1 rfl rfl (.cons (as := []) (.str _ _) (.cons (as := []) (.str _ _) .nil))) (pcs_reads N r fun x hx => h x (.tail _ hx))
theorem pcs_shaped : ∀ ps : List Pc, (∀ q ∈ ps, PyData.strOk q.a = true ∧ PyData.strOk q.b = true) → PyData.canLayAll0 (ps.map Pc.data) = true ∧ PyData.depthAll (ps.map Pc.data) ≤ 1
  | [], _ => ⟨rfl, Nat.zero_le _⟩
  | q :: r, h => by
    obtain ⟨h1, h2⟩ := pcs_shaped r fun x hx => h x (.tail _ hx)
    obtain ⟨h3, h4⟩ := h q (.head _)
    refine ⟨?_, ?_⟩
    · show (PyData.canLay0 (Pc.data q) && PyData.canLayAll0 (r.map Pc.data)) = true
      rw [h1, Bool.and_true]
      show PyData.canLay0 (.tuple [.str q.a, .str q.b]) = true
      simp only [PyData.canLay0, PyData.canLayAll0, h3, h4, Bool.and_true]
    · show max (PyData.depth (Pc.data q)) (PyData.depthAll (r.map Pc.data)) ≤ 1
      have : PyData.depth (Pc.data q) = 1 := by simp [PyData.depth, PyData.depthAll]
      omega
theorem pcs_eqv : ∀ ps qs : List Pc, ps.map (fun q => (q.a, q.b)) = qs.map (fun q => (q.a, q.b)) → PyData.eqvAll (ps.map Pc.data) (qs.map Pc.data) = true
  | [], [], _ => rfl
  | [], _ :: _, h => by cases h
  | _ :: _, [], h => by cases h
  | p :: r, q :: t, h => by
    simp only [List.map_cons, List.cons.injEq, Prod.mk.injEq] at h
    simp [PyData.eqvAll, PyData.eqv, h.1.1, h.1.2, pcs_eqv r t h.2]
theorem eq_pcs {ps qs : List Pc} {n k : Nat} {Q : Value → Shared → Prop} (N : News h₀ L s.heap news) (ha : (a, ({ cls := .type "list", data := .seq (ps.map Pc.ref).toArray n } : Obj)) ∈ news) (hb : (b, ({ cls := .type "list", data := .seq (qs.map Pc.ref).toArray k } : Obj)) ∈ news) (hp : ∀ q ∈ ps, (q.T, tupO q.vals) ∈ news) (hq : ∀ q ∈ qs, (q.T, tupO q.vals) ∈ news)
    (e : ps.map (fun q => (q.a, q.b)) = qs.map (fun q => (q.a, q.b))) (ok : ∀ q ∈ ps, PyData.strOk q.a = true ∧ PyData.strOk q.b = true) (hu : A.units + 64 < cLine) (h : Q (.bool true) s) : wpAny (model prog w) A (compareOp .Eq (.ref a) (.ref b)) Q E s := by
  have ok' : ∀ q ∈ qs, PyData.strOk q.a = true ∧ PyData.strOk q.b = true := by
    intro q hq'
    have : (q.a, q.b) ∈ ps.map fun q => (q.a, q.b) := by rw [e]; exact List.mem_map_of_mem hq'
    obtain ⟨p, hp', he⟩ := List.mem_map.mp this
    have h1 := congrArg Prod.fst he
    have h2 := congrArg Prod.snd he
    dsimp only at h1 h2
    rw [← h1, ← h2]
    exact ok p hp'
  have sh : ∀ rs : List Pc, (∀ q ∈ rs, PyData.strOk q.a = true ∧ PyData.strOk q.b = true) → PySem.SeqAt.shaped (.list (rs.map Pc.data)) = true := fun rs hr => by
    obtain ⟨h1, h2⟩ := pcs_shaped rs hr
    refine Bool.and_eq_true_iff.mpr ⟨?_, decide_eq_true ?_⟩
    · simpa only [PyData.canLay0] using h1
    · have : PyData.depth (.list (rs.map Pc.data)) = PyData.depthAll (rs.map Pc.data) + 1 := by simp only [PyData.depth]
      omega
  refine eq_dataH (reads_list_at (N _ ha).1 rfl rfl (by simpa using pcs_reads N ps hp)) (reads_list_at (N _ hb).1 rfl rfl (by simpa using pcs_reads N qs hq)) (sh ps ok) (sh qs ok') hu ?_
  simp only [PyData.eqv, pcs_eqv ps qs e]
  exact h
end
/-- a heap of n blanks, in the pieces that the law makes -/
noncomputable def Hp (news : Led) (x : Addr) (n : Nat) : Prop :=
  ∃ d hsh tk tk' ep, ∃ pcs : List Pc, (x, accO d (pcs.map Pc.ref) ep) ∈ news ∧ (d, accD hsh tk tk') ∈ news ∧ (∀ q ∈ pcs, (q.T, tupO q.vals) ∈ news) ∧ pcs.map (fun q => (q.a, q.b)) = (List.range n).map fun k => piece (k : Nat)

noncomputable abbrev TakeJ (left : Nat) (news : Led) (i : Nat) (ys : List Value) (news₁ : Led) : Prop := ∃ ts : List Pc, ys = ts.map Pc.ref ∧ ts.map (fun q => (q.a, q.b)) = (List.range i).map (fun k => piece ((left : Int) + (k : Nat))) ∧ (∀ q ∈ ts, (q.T, tupO q.vals) ∈ news₁) ∧ (∀ p ∈ news, p ∈ news₁)
theorem take_end {h₀ h' : Heap} {L : Addr} {m : Str → Option Value} {s : Shared} {I C D T : Addr} {oI oC : Obj} {ts : List Pc} {left i : Nat} {ta tb : Tok} {news news₁ : Led} {tk : Nat} {g : Array GenState} (F : Fr h₀ L h' m)
    (N : News h₀ L h' ((T, tupO [.str (piece ((left : Int) + (i : Nat))).1 ta, .str (piece ((left : Int) + (i : Nat))).2 tb]) :: (I, oI) :: (C, oC) :: (D, lst (ts.map Pc.ref)) :: news₁)) (hlt : I < T ∧ C < T ∧ D < T ∧ AllLt T news₁) (off : ∀ p ∈ news₁, p.1 ≠ I ∧ p.1 ≠ C ∧ p.1 ≠ D) (hG : AllBare g)
    (hts : ts.map (fun q => (q.a, q.b)) = (List.range i).map (fun k => piece ((left : Int) + (k : Nat)))) (htm : ∀ q ∈ ts, (q.T, tupO q.vals) ∈ news₁) (hnm : ∀ p ∈ news, p ∈ news₁) :
    CompEndO h₀ L m s I oI C D (ts.map Pc.ref) (fun _ => True) (fun y news' => TakeJ left news (i + 1) (ts.map Pc.ref ++ [y]) news') oC (.ref T) { s with heap := h', toks := tk, gens := g } := by
  refine CompEndO.intro F N ((T, tupO [.str (piece ((left : Int) + (i : Nat))).1 ta, .str (piece ((left : Int) + (i : Nat))).2 tb]) :: news₁) ?_ ?_ hG trivial ⟨ts ++ [⟨T, (piece ((left : Int) + (i : Nat))).1, ta, (piece ((left : Int) + (i : Nat))).2, tb⟩], ?_, ?_, fun q hq => ?_, fun p hp => List.mem_cons_of_mem _ (hnm p hp)⟩
  rotate_left 2
  · rw [List.map_append]; rfl
  · rw [List.map_append, hts, List.range_succ, List.map_append]; rfl
  · rcases List.mem_append.mp hq with hq | hq
    · exact List.mem_cons_of_mem _ (htm q hq)
    · rw [List.mem_singleton.mp hq]; exact List.Mem.head _
  · intro p hp
    simp only [List.mem_cons] at hp ⊢
    rcases hp with h | h | h | h | h <;> simp [h]
  · intro p hp
    rcases List.mem_cons.mp hp with rfl | hp
    · exact ⟨Nat.ne_of_gt hlt.1, Nat.ne_of_gt hlt.2.1, Nat.ne_of_gt hlt.2.2.1⟩
    · exact off p hp
theorem ne_of_obj {h₀ h : Heap} {L a b : Addr} {o o' : Obj} {news : Led} (N : News h₀ L h news) (h1 : (a, o) ∈ news) (h2 : (b, o') ∈ news) (ne : o ≠ o') : a ≠ b := by
  intro e
  subst e
  have := (N _ h1).1
  rw [(N _ h2).1] at this
  exact ne (Option.some.inj this).symm
theorem range_drop_map (n k : Nat) : (List.range n).drop k = (List.range (n - k)).map (k + ·) := by
  refine List.ext_getElem (by simp) fun i h1 h2 => ?_
  simp
theorem pcs_ok {pcs : List Pc} {n : Nat} (he : pcs.map (fun q => (q.a, q.b)) = (List.range n).map fun k => piece (k : Nat)) : ∀ q ∈ pcs, PyData.strOk q.a = true ∧ PyData.strOk q.b = true := by
  intro q hq
  have : (q.a, q.b) ∈ pcs.map fun q => (q.a, q.b) := List.mem_map_of_mem hq
  rw [he] at this
  obtain ⟨k, _, hk⟩ := List.mem_map.mp this
  have h1 := congrArg Prod.fst hk
  have h2 := congrArg Prod.snd hk
  dsimp only at h1 h2
  rw [← h1, ← h2]
  exact piece_ok k
theorem rows_SRt_1 : True := by
  k_with_none
  k_with "execs cons" => (k_here; (fail_if_success with_reducible show wpAny _ Aq _ _ _ _); (try k_fold); refine' a_let ?_; intro Aq)
  k_with "execs cons" => (k_here; (fail_if_success with_reducible show wpAny _ _ _ _ _ ⟨_, _, _, tkq, _⟩); refine' tok_all ?_; intro tkq; dsimp only)
  k_with "execs cons" => (k_here; (fail_if_success refine' m_is (m := mq) (by with_reducible assumption) ?_); refine' m_let ?zzF ?_; (case zzF => k_asm); intro mq Fq; dsimp only at Fq)
  k_with "k_room" => (first | exact room_k (k := 0) (by assumption) (by decide) | exact room_k (k := 1) (by assumption) (by decide) | exact room_k (k := 2) (by assumption) (by decide) | exact room_k (k := 3) (by assumption) (by decide) | exact room_k (k := 4) (by assumption) (by decide) | ktr_room)
  k_with "ktr_room" => (first | exact room_k (k := 0) (by assumption) (by decide) | exact room_k (k := 1) (by assumption) (by decide) | exact room_k (k := 2) (by assumption) (by decide) | exact room_k (k := 3) (by assumption) (by decide) | exact room_k (k := 4) (by assumption) (by decide))
  k_with "k_units" => (first | exact unit_k (k := 3) (by assumption) rfl (by decide) | exact unit_k (k := 0) (by assumption) rfl (by decide) | exact unit_k (k := 6) (by assumption) rfl (by decide) | exact unit_k (k := 4) (by assumption) rfl (by decide) | exact unit_k (k := 7) (by assumption) rfl (by decide) | exact unit_k (k := 9) (by assumption) rfl (by decide) | exact unit_k (k := 1) (by assumption) rfl (by decide) | ktr_units)
  k_with "ktr_units" => (first | exact unit_k (k := 3) (by assumption) rfl (by decide) | exact unit_k (k := 0) (by assumption) rfl (by decide) | exact unit_k (k := 6) (by assumption) rfl (by decide) | exact unit_k (k := 4) (by assumption) rfl (by decide) | exact unit_k (k := 7) (by assumption) rfl (by decide) | exact unit_k (k := 9) (by assumption) rfl (by decide) | exact unit_k (k := 1) (by assumption) rfl (by decide))
  k_with "units_room" => (first | exact unit_k (k := 3) (by assumption) rfl (by decide) | exact unit_k (k := 0) (by assumption) rfl (by decide) | exact unit_k (k := 6) (by assumption) rfl (by decide) | exact unit_k (k := 4) (by assumption) rfl (by decide) | exact unit_k (k := 7) (by assumption) rfl (by decide) | exact unit_k (k := 9) (by assumption) rfl (by decide) | exact unit_k (k := 1) (by assumption) rfl (by decide))
  k_with "k_all" => (first | assumption | exact allLt_ne hLr (by omega))
  k_with "k_inst" => ((refine' acc_inst ?y3N ?y3h1 ?y3h2; (case y3N => k_asm); (case y3h1 => k_mem); (case y3h2 => k_mem)))
  k_with "k_mem" => (assumption)
  k_with "getMethod ref" => (k_here; k_dflt (refine' method_anyK ?z33k1 ?z33k2 ?z33k3 ?z33k4 ?z33k5 ?z33k6 ?z33k7 ?z33k8 ?z33k9 ?_; (case z33k1 => k_asm); (case z33k2 => k_asm); (case z33k3 => k_inst); (case z33k4 => k_is); (case z33k5 => exact PySem.canon_list_getattribute); (case z33k6 => k_is); (case z33k7 => k_is); (case z33k8 => first | exact .inl (by k_is) | exact .inr (.inl (by k_is)) | exact .inr (.inr (by k_is))); (case z33k9 => k_get); k_whole))
  k_with "call ref" => (k_here; k_dflt ((show wpAny _ _ (call (Value.ref 177) _) _ _ _); refine' tell_use (tell_countN _ _ _ _ _ _ _ _ _ ?z33h1 ?z33h2 ?z33hn) ?z33k1 ?z33k2 ?z33k3 ?z33k4 ?z33k5 ?z33kK ?z33kG ?z33kd ?z33ku ?_; (case z33k1 => k_asm); (case z33k2 => k_asm); (case z33k3 => k_asm); (case z33k4 => k_asm); (case z33k5 => k_asm); (case z33kK => exact rfl); (case z33kG => first | assumption | (dsimp only; assumption)); (case z33h1 => k_mem); (case z33h2 => k_mem); (case z33hn => assumption); (case z33kd => ktr_room); (case z33ku => ktr_units)); intro r9q news9q h9q tk9q g9q F9q N9q G9q P9q; obtain ⟨⟨t9q, e9q⟩, e8q⟩ := P9q; replace e8q := e8q.symm; subst e9q; subst e8q; (try dsimp only))
  k_with "call ref" => (k_here; k_dflt ((show wpAny _ _ (call (Value.ref 133) _) _ _ _); refine' tell_use (tell_popFrom _ _ _ _ _ _ _ _ _ ?z33h1 ?z33h2 ?z33hz _ _ ?z33hi) ?z33k1 ?z33k2 ?z33k3 ?z33k4 ?z33k5 ?z33kK ?z33kG ?z33kd ?z33ku ?_; (case z33k1 => k_asm); (case z33k2 => k_asm); (case z33k3 => k_asm); (case z33k4 => k_asm); (case z33k5 => k_asm); (case z33kK => exact rfl); (case z33kG => first | assumption | (dsimp only; assumption)); (case z33h1 => k_mem); (case z33h2 => k_mem); (case z33hz => assumption); (case z33hi => assumption); (case z33kd => ktr_room); (case z33ku => ktr_units)); intro r9q news9q h9q tk9q g9q F9q N9q G9q P9q; obtain ⟨D9q, ep9q, e9q, l9q, e8q⟩ := P9q; subst e9q; subst e8q; (try dsimp only))
  k_with "exec Assign cons ListComp" => (k_here; k_dflt (refine Assign_ListComp_O (_F₀ := by k_asm) (by rfl) (by with_unfolding_all rfl) (by with_unfolding_all rfl) (by decide) (by rfl) (by decide) (by rfl) (by rfl) (by rfl) ?_))
  trivial
set_option maxHeartbeats 8000000 in
theorem tell_take_0 (w : World) (x d : Addr) (pcs : List Pc) (ep : Nat) (hsh : Int) (tk0 tk1 : Tok) (news : Led) (h1 : (x, accO d (pcs.map Pc.ref) ep) ∈ news) (h2 : (d, accD hsh tk0 tk1) ∈ news) (hp : ∀ q ∈ pcs, (q.T, tupO q.vals) ∈ news) (n : Nat) (he : pcs.map (fun q => (q.a, q.b)) = (List.range n).map fun k => piece (k : Nat)) (hz : n ≤ 1000) (left : Nat) (hl : left ≤ n) (t : Tok) :
    Tell w 199 [.ref x, .int left t] 40 200 news (fun r news' => r = .bool (decide (left < n)) ∧ Hp news' x left ∧ ∀ p ∈ news, p.1 ≠ x → p ∈ news') := by
  have hlen : (pcs.map Pc.ref).length = n := by
    have := congrArg List.length he
    simpa using this
  unfold Tell
  k_fill
  intro p loose mean mg mb dp un gd cn cs a ccd cl outer A₀ base h₀ L m s Q E B F X N T hk hG hd hu hret
  obtain ⟨_, _, _, _, _⟩ := cs
  cases hk
  refine wpAny_call ?_
  k_dflt k_enter
  k_steps
  refine SrcO.range (n := n - left) (by rfl) (by k_asm) (by k_asm) (by first | assumption | (dsimp only; assumption)) (by assumption) ?hsm ?hn ?hsz (TakeJ left news) ?hJ ?turn ?done
  case hsm => exact small_one (by omega) (by omega) (by omega) (by omega)
  case hn => rw [rangeSize_nat]; congr 1; omega
  case hsz => exact Nat.le_trans (Nat.sub_le _ _) (Nat.le_trans hz (by rw [sizeLine_eq]; omega))
  case hJ => exact ⟨[], rfl, by rw [List.range_zero]; rfl, (fun q hq => nomatch hq), fun p hp => hp⟩
  case turn =>
    intro I9 hI9 i9 v9 ys9 news9 oI9 C9 oC9 D9 m9 h9 tk9 g9 E9 hi9 hyl9 hP9 hJ9 hoC9 hm9 F9 N9 off9 ne9 hG9 hS9
    obtain ⟨t9, rfl⟩ := hP9
    obtain ⟨ts, rfl, hts, htm, hnm⟩ := hJ9
    refine wpAny_tests_nil ?_
    simp only [if_true]
    k_steps
    rename _ ∧ _ ∧ _ ∧ AllLt _ news9 => hlt
    exact take_end (by k_asm) (by k_asm) hlt off9 hG9 hts htm hnm
  case done =>
    intro D9 ys9 news9 h9 tk9 g9 hJ9 F9 N9 off9 hG9
    obtain ⟨ts, rfl, hts, htm, hnm⟩ := hJ9
    have h1' := List.mem_cons_of_mem (D9, lst (ts.map Pc.ref)) (hnm _ h1)
    have h2' := List.mem_cons_of_mem (D9, lst (ts.map Pc.ref)) (hnm _ h2)
    have hz' : (pcs.map Pc.ref).length ≤ sizeLine := by rw [hlen]; exact Nat.le_trans hz (by rw [sizeLine_eq]; omega)
    have hi' : left ≤ (pcs.map Pc.ref).length := by rw [hlen]; exact hl
    k_steps
    rename (∀ p ∈ (D9, lst (ts.map Pc.ref)) :: news9, p.fst < _) => hD9
    have hxD := off9 _ (hnm _ h1)
    have hxT : ∀ q : Pc, (q.T, tupO q.vals) ∈ news9 → q.T ≠ x := fun q hq => ne_of_obj N9 (List.mem_cons_of_mem _ hq) h1' (by intro e; cases congrArg Obj.cls e)
    refine eq_pcs (ps := pcs.drop left) (qs := ts) (n := 0) (k := (ts.map Pc.ref).length) (by k_asm) ?a1 ?a2 ?a3 ?a4 ?a5 ?a6 (by units_room) ?_
    case a1 =>
      rw [List.map_drop]
      exact mem_ledPut (.head _) (Nat.ne_of_gt (hD9 _ h1'))
    case a2 => exact mem_ledPut (.tail _ (.head _)) hxD.symm
    case a3 =>
      intro q hq
      have h9 := hnm _ (hp q (List.mem_of_mem_drop hq))
      exact mem_ledPut (.tail _ (.tail _ h9)) (hxT q h9)
    case a4 => exact fun q hq => mem_ledPut (.tail _ (.tail _ (htm q hq))) (hxT q (htm q hq))
    case a5 => rw [List.map_drop, he, hts, ← List.map_drop, range_drop_map, List.map_map]; congr 1
    case a6 => exact fun q hq => pcs_ok he q (List.mem_of_mem_drop hq)
    k_steps
    refine hret _ _ _ _ _ (by k_asm) (by k_asm) (by assumption) ⟨congrArg Value.bool (decide_eq_decide.mpr (by omega)), ?_, ?_⟩
    · refine' ⟨d, hsh, tk0, tk1, _, pcs.take left, ?_, ?_, ?_, ?_⟩
      rotate_left
      · rw [List.map_take]; exact .head _
      · exact mem_ledPut (.tail _ (.tail _ (hnm _ h2))) (ne_of_obj N9 h2' h1' (by intro e; cases congrArg Obj.cls e))
      · intro q hq
        have h9 := hnm _ (hp q (List.mem_of_mem_take hq))
        exact mem_ledPut (.tail _ (.tail _ h9)) (hxT q h9)
      · rw [List.map_take, he, ← List.map_take, List.take_range, Nat.min_eq_left hl]
    · exact fun p hp hne => mem_ledPut (.tail _ (.tail _ (hnm _ hp))) hne
theorem tell_take (w : World) (x : Addr) (news : Led) (n : Nat) (H : Hp news x n) (hz : n ≤ 1000) (left : Nat) (hl : left ≤ n) (t : Tok) :
    Tell w 199 [.ref x, .int left t] 40 200 news (fun r news' => r = .bool (decide (left < n)) ∧ Hp news' x left ∧ ∀ p ∈ news, p.1 ≠ x → p ∈ news') := by
  obtain ⟨d, hsh, tk0, tk1, ep, pcs, h1, h2, hp, he⟩ := H
  exact tell_take_0 w x d pcs ep hsh tk0 tk1 news h1 h2 hp n he hz left hl t
theorem tell_countH (w : World) (x : Addr) (news : Led) (n : Nat) (H : Hp news x n) : Tell w 177 [.ref x] 10 100 news (fun r news' => (∃ t, r = .int n t) ∧ news' = news) := by
  obtain ⟨d, hsh, tk0, tk1, ep, pcs, h1, h2, hp, he⟩ := H
  exact tell_countN w x d _ ep hsh tk0 tk1 news h1 h2 (by have := congrArg List.length he; simpa using this)
/-- n blanks -/
noncomputable def blanks (n : Nat) : Str := ⟨(List.replicate n 32).toArray⟩
theorem piece_text (k : Int) : ((piece k).1 ++ (piece k).2).cps.toList = [32] := by
  rcases fmod_two k with h | h <;> simp only [piece, h] <;> decide +kernel
theorem pcs_text {n : Nat} : ∀ {pcs : List Pc} {f : Nat → Int}, pcs.map (fun q => (q.a, q.b)) = (List.range n).map (fun k => piece (f k)) → Txt.join (Str.ofString "") (pcs.map fun q => q.a ++ q.b) = blanks n := by
  intro pcs f he
  apply str_of
  rw [join_cps, List.map_map]
  have h1 : pcs.map ((fun x : Str => x.cps.toList) ∘ fun q : Pc => q.a ++ q.b) = (pcs.map (fun q => (q.a, q.b))).map fun z => (z.1 ++ z.2).cps.toList := by rw [List.map_map]; rfl
  rw [h1, he, List.map_map]
  have h2 : (List.range n).map ((fun z : Str × Str => (z.1 ++ z.2).cps.toList) ∘ fun k => piece (f k)) = (List.range n).map fun _ => [32] := List.map_congr_left fun k _ => piece_text _
  rw [h2, List.map_const', List.length_range]
  show _ = List.replicate n 32
  clear h1 h2 he
  induction n with
  | zero => rfl
  | succ n ih => rw [List.replicate_succ, List.flatten_cons, ih, List.replicate_succ]; rfl
theorem pcs_len {pcs : List Pc} {n : Nat} (he : pcs.map (fun q => (q.a, q.b)) = (List.range n).map fun k => piece (k : Nat)) : ∀ q ∈ pcs, q.a.length + q.b.length ≤ 1000 := by
  intro q hq
  have : (q.a, q.b) ∈ pcs.map fun q => (q.a, q.b) := List.mem_map_of_mem hq
  rw [he] at this
  obtain ⟨k, _, hk⟩ := List.mem_map.mp this
  have h1 := congrArg Prod.fst hk
  have h2 := congrArg Prod.snd hk
  dsimp only at h1 h2
  have h3 := congrArg List.length (piece_text k)
  have h4 : ((piece k).1 ++ (piece k).2).cps.toList.length = (piece k).1.length + (piece k).2.length := by
    show ((piece k).1.cps ++ (piece k).2.cps).toList.length = _
    rw [Array.toList_append, List.length_append]; rfl
  rw [h4] at h3
  rw [← h1, ← h2, h3]
  decide
theorem tell_strH (w : World) (rest : Led) (hr : ∀ p ∈ rest, p.1 ≠ 149) (o : Obj) (ps : Array Value) (ho : IsTab o ps) (htr : TriplesOk ps.toList) (x : Addr) (n : Nat) (H : Hp rest x n) (hz : n ≤ 1000) :
    Tell w 154 [.ref x] 20 100 ((149, o) :: rest) (fun r news' => (∃ t, r = .str (blanks n) t) ∧ ∃ o' ps', news' = (149, o') :: rest ∧ IsTab o' ps' ∧ TriplesOk ps'.toList) := by
  obtain ⟨d, hsh, tk0, tk1, ep, pcs, h1, h2, hp, he⟩ := H
  have := tell_str w rest hr o ps ho htr x d pcs ep h1 hp (pcs_len he) (by have := congrArg List.length he; simp at this; omega)
  rwa [pcs_text he] at this
end SR
end
section
open PySem PySem.W PyProof.Rows PySem.Calls PySem.Spec LCg
set_option Elab.async false
set_option maxRecDepth 100000
namespace SR
section
variable {prog : Program} {w : World} {A : Around} {E : Value → Shared → Prop} {s : Shared} {h₀ : Heap} {env : Env}
/-- a loop over the signs of a text -/
theorem for_str {x : Str} {px : Pos} {body : List Stmt} {R : Result → Shared → Prop} {txt : Str} {t : Tok} {m₀ : Str → Option Value} {news₀ : Led} (J : Nat → (Str → Option Value) → Led → Prop) (hh : A.handled = none) (ha : txt.cps.all (· < 128) = true)
    (hx : env.kindOf x = some .local) (hp : (env.scope.kind == .class || (env.scope.kind == .module && env.locals != env.globals)) = false)
    (F : Fr h₀ env.locals s.heap m₀) (N : News h₀ env.locals s.heap news₀) (hG : AllBare s.gens) (hJ : J 0 m₀ news₀)
    (hR : ∀ m₁ news₁ h tk g, J txt.cps.size m₁ news₁ → Fr h₀ env.locals h m₁ → News h₀ env.locals h news₁ → AllBare g → R (.ok .next) { s with heap := h, toks := tk, gens := g })
    (turn : ∀ I, (∀ p ∈ news₀, p.1 < I) → ∀ i c u m₁ news₁ oI h tk g (E' : Value → Shared → Prop), txt.cps[i]? = some c → J i m₁ news₁ → Fr h₀ env.locals h (fun y => if y = x then some (.str ⟨#[c]⟩ u) else m₁ y) → News h₀ env.locals h ((I, oI) :: news₁) → (∀ p ∈ news₁, p.1 ≠ I) → AllBare g →
      wpAny (model prog w) A (execs body env) (TurnEnd h₀ env.locals s I oI (fun _ => True) (J (i + 1)) R) E' { s with heap := h, toks := tk, gens := g }) :
    wpAny (model prog w) A (pyIter (.str txt t)) (fun it s₂ => codeAny (model prog w) A (.forLoop (.Name x px) it body [] env) R s₂) E s := by
  refine wpAny_pyIter_ascii ha ?_
  refine for_own (s := { s with heap := s.heap.push _ }) (S := fun _ => True) J (Walks.strAscii hh s.heap.objs.size txt t) (fun i h st => by obtain ⟨o, ho, _⟩ := st; exact ⟨o, ho⟩) ?_ hx hp
    (F.keeps fun _ _ e => Heap.get?_push_of_some _ e) (N.grown fun _ _ e => Heap.get?_push_of_some _ e) ⟨_, Heap.get?_push_size _ rfl, rfl, rfl⟩ (Nat.ne_of_lt F.ns.lt) (next_is_new F) (fun p hp => Nat.ne_of_lt (Heap.lt_size (N p hp).1)) trivial hG hJ hR ?_
  · intro i h h' o nw st e e' _ _ _
    obtain ⟨o', ho, r⟩ := st
    rw [e] at ho; cases ho
    exact ⟨o, e', r⟩
  · intro i v m₁ news₁ oI h tk g E' hi hP hJ' F' N' off hG' _
    obtain ⟨c, u, hc, rfl⟩ := hP
    exact turn _ (fun p hp => Heap.lt_size (N p hp).1) i c u m₁ news₁ oI h tk g E' hc hJ' F' N' off hG'
end
structure Ws where
  cnt : List Int
  b : Int
  n : Int
  nt : Int
noncomputable def padTo (cnt : List Int) (b : Int) : List Int := if (cnt.length : Int) ≤ b then cnt ++ (List.replicate (b - cnt.length + 1).toNat [(0 : Int)]).flatten else cnt
noncomputable def bump (cnt : List Int) (b : Int) : List Int := (padTo cnt b).set b.toNat ((padTo cnt b).getD b.toNat 0 + 1)
noncomputable def wsStep (σ : Ws) (c : Nat) : Ws := if c = 32 then ⟨σ.cnt, σ.b + 1, σ.n + 1, σ.nt⟩ else ⟨bump σ.cnt σ.b, 0, σ.n + 1, σ.nt + 1⟩
noncomputable def wsAt (pre : List Nat) (i : Nat) : Ws := (pre.take i).foldl wsStep ⟨[], 0, 0, 0⟩
theorem wsAt_succ {pre : List Nat} {i c : Nat} (h : pre[i]? = some c) : wsAt pre (i + 1) = wsStep (wsAt pre i) c := by
  unfold wsAt
  rw [List.take_add_one, h]
  simp
noncomputable abbrev wsMap (vnt vn vb : Value) (C : Addr) (bm : Str → Option Value) : Str → Option Value := fun y => if y = Str.ofString "nt" then some vnt else if y = Str.ofString "n" then some vn else if y = Str.ofString "b" then some vb else if y = Str.ofString "count" then some (.ref C) else bm y
noncomputable def WsJ (base : Led) (bm : Str → Option Value) (pre : List Nat) (i : Nat) (m₁ : Str → Option Value) (news₁ : Led) : Prop :=
  i ≤ pre.length ∧ ∃ C vs k tnt tn tb bm', news₁ = (C, listOf vs.toArray k) :: base ∧ AllLt C base ∧ IntsAre vs (wsAt pre i).cnt ∧ m₁ = wsMap (.int (wsAt pre i).nt tnt) (.int (wsAt pre i).n tn) (.int (wsAt pre i).b tb) C bm' ∧ (∀ y, y ≠ Str.ofString "ch" → bm' y = bm y)
theorem wsMap_ch {vnt vn vb v : Value} {C : Addr} {bm bm' : Str → Option Value} (h : ∀ y, y ≠ Str.ofString "ch" → bm' y = bm y) :
    (fun y => if y = Str.ofString "ch" then some v else wsMap vnt vn vb C bm' y) = fun y => if y = Str.ofString "ch" then some v else wsMap vnt vn vb C bm y := by
  funext y
  by_cases hy : y = Str.ofString "ch"
  · simp [hy]
  · simp [hy, wsMap, h y hy]
theorem wsAt_bounds (pre : List Nat) : ∀ i, i ≤ pre.length → 0 ≤ (wsAt pre i).b ∧ (wsAt pre i).b ≤ i ∧ ((wsAt pre i).cnt.length : Int) ≤ i ∧ (wsAt pre i).n = i ∧ 0 ≤ (wsAt pre i).nt ∧ (wsAt pre i).nt ≤ i := by
  intro i
  induction i with
  | zero => intro _; simp [wsAt]
  | succ i ih =>
    intro hi
    obtain ⟨h1, h2, h3, h4, h5, h6⟩ := ih (by omega)
    obtain ⟨c, hc⟩ : ∃ c, pre[i]? = some c := ⟨pre[i], List.getElem?_eq_getElem (by omega)⟩
    rw [wsAt_succ hc]
    unfold wsStep
    split
    · simp only; omega
    · have : ((bump (wsAt pre i).cnt (wsAt pre i).b).length : Int) ≤ i + 1 := by
        unfold bump padTo
        rw [List.length_set]
        split
        · rw [List.length_append]
          have : (List.replicate ((wsAt pre i).b - (wsAt pre i).cnt.length + 1).toNat [(0 : Int)]).flatten.length = ((wsAt pre i).b - (wsAt pre i).cnt.length + 1).toNat := by simp
          rw [this]; omega
        · omega
      simp only; omega
noncomputable def WsEnd (base : Led) (bm : Str → Option Value) (σ : Ws) (m₁ : Str → Option Value) (news₁ : Led) : Prop :=
  ∃ C vs k tnt tn tb bm', news₁ = (C, listOf vs.toArray k) :: base ∧ AllLt C base ∧ IntsAre vs σ.cnt ∧ m₁ = wsMap (.int σ.nt tnt) (.int σ.n tn) (.int σ.b tb) C bm' ∧ (∀ y, y ≠ Str.ofString "ch" → bm' y = bm y)
section
variable {prog : Program} {w : World} {A : Around} {E : Value → Shared → Prop} {s : Shared} {h₀ : Heap} {env : Env}
noncomputable abbrev WsTurn (prog : Program) (w : World) (A : Around) (h₀ : Heap) (env : Env) (body : List Stmt) (s : Shared) (R : Result → Shared → Prop) (base : Led) (bm : Str → Option Value) (c : Nat) (Je : Ws → (Str → Option Value) → Led → Prop) (P : Ws → Prop) : Prop :=
  ∀ (cnt : List Int) (b n nt : Int) I oI C vs k tnt tn tb u h tk g (E' : Value → Shared → Prop), P ⟨cnt, b, n, nt⟩ → 0 ≤ b → b ≤ 1000 → cnt.length ≤ 1000 → 0 ≤ n → n ≤ 1000 → 0 ≤ nt → nt ≤ 1000 → IntsAre vs cnt → AllLt C base → AllLt I base → C ≠ I → AllBare g →
    Fr h₀ env.locals h (fun y => if y = Str.ofString "ch" then some (.str ⟨#[c]⟩ u) else wsMap (.int nt tnt) (.int n tn) (.int b tb) C bm y) → News h₀ env.locals h ((I, oI) :: (C, listOf vs.toArray k) :: base) →
    wpAny (model prog w) A (execs body env) (TurnEnd h₀ env.locals s I oI (fun _ => True) (Je ⟨cnt, b, n, nt⟩) R) E' { s with heap := h, toks := tk, gens := g }
theorem ws_loop {px : Pos} {body : List Stmt} {R : Result → Shared → Prop} {txt : Str} {t : Tok} {C : Addr} {k : Nat} {tnt tn tb : Tok} {bm : Str → Option Value} {base : Led} {pre post : List Nat} (ht : txt.cps.toList = pre ++ 120 :: post) (hpre : ∀ c ∈ pre, c = 32 ∨ c = 9) (hlen : pre.length ≤ 1000) (hh : A.handled = none) (ha : txt.cps.all (· < 128) = true)
    (hx : env.kindOf (Str.ofString "ch") = some .local) (hp : (env.scope.kind == .class || (env.scope.kind == .module && env.locals != env.globals)) = false)
    (F : Fr h₀ env.locals s.heap (wsMap (.int 0 tnt) (.int 0 tn) (.int 0 tb) C bm)) (N : News h₀ env.locals s.heap ((C, listOf #[] k) :: base)) (hG : AllBare s.gens) (hC : AllLt C base)
    (tSp : WsTurn prog w A h₀ env body s R base bm 32 (fun σ => WsEnd base bm (wsStep σ 32)) (fun _ => True)) (tTab : WsTurn prog w A h₀ env body s R base bm 9 (fun σ => WsEnd base bm (wsStep σ 9)) (fun _ => True))
    (tX : WsTurn prog w A h₀ env body s R base bm 120 (fun _ _ _ => False) (fun σ => σ = wsAt pre pre.length)) :
    wpAny (model prog w) A (pyIter (.str txt t)) (fun it s₂ => codeAny (model prog w) A (.forLoop (.Name (Str.ofString "ch") px) it body [] env) R s₂) E s := by
  have hsz : txt.cps.size = pre.length + 1 + post.length := by rw [← Array.length_toList, ht]; simp; omega
  refine for_str (fun i m₁ news₁ => i ≤ pre.length ∧ WsEnd base bm (wsAt pre i) m₁ news₁) hh ha hx hp F N hG ⟨Nat.zero_le _, C, [], k, tnt, tn, tb, bm, rfl, hC, .nil, rfl, fun _ _ => rfl⟩ (fun m₁ news₁ h tk g hJ => by have := hJ.1; omega) ?_
  rintro I hI i c u m₁ news₁ oI h tk g E' hc ⟨hi, C', vs, k', tnt', tn', tb', bm', rfl, hC', hv, rfl, hbm⟩ F' N' off hG'
  rw [wsMap_ch hbm] at F'
  have hIb : AllLt I base := by
    have : ∀ p ∈ base, p.1 < I := fun p hp => hI p (List.mem_cons_of_mem _ hp)
    clear hI N N' F F' hC hC' tSp tTab tX off
    induction base with
    | nil => trivial
    | cons q r ih => exact ⟨this q (.head _), ih fun p hp => this p (.tail _ hp)⟩
  obtain ⟨b1, b2, b3, b4, b5, b6⟩ := wsAt_bounds pre i hi
  have hcI : C' ≠ I := off _ (.head _)
  have hc' : (pre ++ 120 :: post)[i]? = some c := by rw [← ht, Array.getElem?_toList]; exact hc
  have hi' : (i : Int) ≤ 1000 := by omega
  by_cases hlt : i < pre.length
  · rw [List.getElem?_append_left hlt] at hc'
    have hmem := List.mem_of_getElem? hc'
    have fin : ∀ (f : Flow) (s' : Shared), TurnEnd h₀ env.locals s I oI (fun _ => True) (WsEnd base bm (wsStep (wsAt pre i) c)) R f s' → TurnEnd h₀ env.locals s I oI (fun _ => True) (fun m₁ news₁ => i + 1 ≤ pre.length ∧ WsEnd base bm (wsAt pre (i + 1)) m₁ news₁) R f s' := by
      intro f s' hf
      rw [wsAt_succ hc']
      cases f with
      | next => obtain ⟨h', tk, g, m', news', r1, r2, r3, r4, r5, r6, r7⟩ := hf; exact ⟨h', tk, g, m', news', r1, r2, r3, r4, r5, r6, hlt, r7⟩
      | cont => obtain ⟨h', tk, g, m', news', r1, r2, r3, r4, r5, r6, r7⟩ := hf; exact ⟨h', tk, g, m', news', r1, r2, r3, r4, r5, r6, hlt, r7⟩
      | brk => exact hf
      | ret v => exact hf
    rcases hpre c hmem with rfl | rfl
    · exact wpAny_mono (tSp (wsAt pre i).cnt (wsAt pre i).b (wsAt pre i).n (wsAt pre i).nt I oI C' vs k' tnt' tn' tb' u h tk g E' trivial b1 (by omega) (by omega) (by omega) (by omega) b5 (by omega) hv hC' hIb hcI hG' F' N') fin fun _ _ e => e
    · exact wpAny_mono (tTab (wsAt pre i).cnt (wsAt pre i).b (wsAt pre i).n (wsAt pre i).nt I oI C' vs k' tnt' tn' tb' u h tk g E' trivial b1 (by omega) (by omega) (by omega) (by omega) b5 (by omega) hv hC' hIb hcI hG' F' N') fin fun _ _ e => e
  · have hi2 : i = pre.length := by omega
    subst hi2
    have hc2 : c = 120 := by
      rw [List.getElem?_append_right (Nat.le_refl _)] at hc'
      simpa using hc'.symm
    subst hc2
    refine wpAny_mono (tX (wsAt pre pre.length).cnt (wsAt pre pre.length).b (wsAt pre pre.length).n (wsAt pre pre.length).nt I oI C' vs k' tnt' tn' tb' u h tk g E' rfl b1 (by omega) (by omega) (by omega) (by omega) b5 (by omega) hv hC' hIb hcI hG' F' N') ?_ fun _ _ e => e
    intro f s' hf
    cases f with
    | next => obtain ⟨_, _, _, _, _, _, _, _, _, _, _, r⟩ := hf; exact r.elim
    | cont => obtain ⟨_, _, _, _, _, _, _, _, _, _, _, r⟩ := hf; exact r.elim
    | brk => exact hf
    | ret v => exact hf
theorem ws_end {L : Addr} {base all : Led} {bm bm' m' : Str → Option Value} {σ : Ws} {I C : Addr} {oI : Obj} {vs : List Value} {k : Nat} {tnt tn tb : Tok} {R : Result → Shared → Prop} {h' : Heap} {tk : Nat} {g : Array GenState} (F : Fr h₀ L h' m') (N : News h₀ L h' all) (hC : (C, listOf vs.toArray k) ∈ all) (hI : (I, oI) ∈ all) (hb : ∀ p ∈ base, p ∈ all)
    (hCI : C ≠ I) (hIb : AllLt I base) (hCb : AllLt C base) (hG : AllBare g) (hv : IntsAre vs σ.cnt) (hm : m' = wsMap (.int σ.nt tnt) (.int σ.n tn) (.int σ.b tb) C bm') (hbm : ∀ y, y ≠ Str.ofString "ch" → bm' y = bm y) :
    TurnEnd h₀ L s I oI (fun _ => True) (WsEnd base bm σ) R .next { s with heap := h', toks := tk, gens := g } := by
  refine ⟨h', tk, g, m', (C, listOf vs.toArray k) :: base, rfl, F, fun p hp => ?_, fun p hp => ?_, hG, trivial, C, vs, k, tnt, tn, tb, bm', rfl, hCb, hv, hm, hbm⟩
  · rcases List.mem_cons.mp hp with rfl | hp
    · exact N _ hI
    · rcases List.mem_cons.mp hp with rfl | hp
      · exact N _ hC
      · exact N _ (hb _ hp)
  · rcases List.mem_cons.mp hp with rfl | hp
    · exact hCI
    · exact allLt_ne hIb (Nat.le_refl _) p hp
end
theorem ws_map1 {vnt vn vb vn' vb' v : Value} {C : Addr} {bm : Str → Option Value} : (fun y => if y = Str.ofString "b" then some vb' else if y = Str.ofString "n" then some vn' else if y = Str.ofString "ch" then some v else wsMap vnt vn vb C bm y) = wsMap vnt vn' vb' C (fun y => if y = Str.ofString "ch" then some v else bm y) := by
  funext y
  by_cases h1 : y = Str.ofString "nt"
  · subst h1; rfl
  by_cases h2 : y = Str.ofString "n"
  · subst h2; rfl
  by_cases h3 : y = Str.ofString "b"
  · subst h3; rfl
  by_cases h4 : y = Str.ofString "count"
  · subst h4; rfl
  simp only [wsMap, if_neg h1, if_neg h2, if_neg h3, if_neg h4]
theorem ws_map2 {vnt vn vb vn' vb' vnt' v : Value} {C : Addr} {bm : Str → Option Value} : (fun y => if y = Str.ofString "b" then some vb' else if y = Str.ofString "nt" then some vnt' else if y = Str.ofString "n" then some vn' else if y = Str.ofString "ch" then some v else wsMap vnt vn vb C bm y) = wsMap vnt' vn' vb' C (fun y => if y = Str.ofString "ch" then some v else bm y) := by
  funext y
  by_cases h1 : y = Str.ofString "nt"
  · subst h1; rfl
  by_cases h2 : y = Str.ofString "n"
  · subst h2; rfl
  by_cases h3 : y = Str.ofString "b"
  · subst h3; rfl
  by_cases h4 : y = Str.ofString "count"
  · subst h4; rfl
  simp only [wsMap, if_neg h1, if_neg h2, if_neg h3, if_neg h4]
theorem ws_map3 {vnt vn vb vn' vb' vnt' v : Value} {C C' : Addr} {bm : Str → Option Value} : (fun y => if y = Str.ofString "b" then some vb' else if y = Str.ofString "count" then some (.ref C') else if y = Str.ofString "nt" then some vnt' else if y = Str.ofString "n" then some vn' else if y = Str.ofString "ch" then some v else wsMap vnt vn vb C bm y) = wsMap vnt' vn' vb' C' (fun y => if y = Str.ofString "ch" then some v else bm y) := by
  funext y
  by_cases h1 : y = Str.ofString "nt"
  · subst h1; rfl
  by_cases h2 : y = Str.ofString "n"
  · subst h2; rfl
  by_cases h3 : y = Str.ofString "b"
  · subst h3; rfl
  by_cases h4 : y = Str.ofString "count"
  · subst h4; rfl
  simp only [wsMap, if_neg h1, if_neg h2, if_neg h3, if_neg h4]
end SR
end
section
open PySem PySem.W PyProof.Rows PySem.Calls PySem.Spec LCg
set_option Elab.async false
set_option maxRecDepth 100000
namespace SR
theorem rows_SRv_1 : True := by
  k_with_none
  k_with "execs cons" => (k_here; k_fold)
  k_with "execs cons" => (k_here; (fail_if_success with_reducible show wpAny _ Aq _ _ _ _); (try k_fold); refine' a_let ?_; intro Aq)
  k_with "execs cons" => (k_here; (fail_if_success with_reducible show wpAny _ _ _ _ _ ⟨_, _, _, tkq, _⟩); refine' tok_all ?_; intro tkq; dsimp only)
  k_with "execs cons" => (k_here; (fail_if_success refine' m_is (m := mq) (by with_reducible assumption) ?_); refine' m_let ?zzF ?_; (case zzF => k_asm); intro mq Fq; dsimp only at Fq)
  k_with "k_room" => (first | exact room_k (k := 0) (by assumption) (by decide) | exact room_k (k := 1) (by assumption) (by decide) | exact room_k (k := 2) (by assumption) (by decide) | exact room_k (k := 3) (by assumption) (by decide) | exact room_k (k := 4) (by assumption) (by decide) | ktr_room)
  k_with "ktr_room" => (first | exact room_k (k := 0) (by assumption) (by decide) | exact room_k (k := 1) (by assumption) (by decide) | exact room_k (k := 2) (by assumption) (by decide) | exact room_k (k := 3) (by assumption) (by decide) | exact room_k (k := 4) (by assumption) (by decide))
  k_with "k_units" => (first | exact unit_k (k := 3) (by assumption) rfl (by decide) | exact unit_k (k := 0) (by assumption) rfl (by decide) | exact unit_k (k := 6) (by assumption) rfl (by decide) | exact unit_k (k := 4) (by assumption) rfl (by decide) | exact unit_k (k := 7) (by assumption) rfl (by decide) | exact unit_k (k := 9) (by assumption) rfl (by decide) | exact unit_k (k := 1) (by assumption) rfl (by decide) | ktr_units)
  k_with "ktr_units" => (first | exact unit_k (k := 3) (by assumption) rfl (by decide) | exact unit_k (k := 0) (by assumption) rfl (by decide) | exact unit_k (k := 6) (by assumption) rfl (by decide) | exact unit_k (k := 4) (by assumption) rfl (by decide) | exact unit_k (k := 7) (by assumption) rfl (by decide) | exact unit_k (k := 9) (by assumption) rfl (by decide) | exact unit_k (k := 1) (by assumption) rfl (by decide))
  k_with "units_room" => (first | exact unit_k (k := 3) (by assumption) rfl (by decide) | exact unit_k (k := 0) (by assumption) rfl (by decide) | exact unit_k (k := 6) (by assumption) rfl (by decide) | exact unit_k (k := 4) (by assumption) rfl (by decide) | exact unit_k (k := 7) (by assumption) rfl (by decide) | exact unit_k (k := 9) (by assumption) rfl (by decide) | exact unit_k (k := 1) (by assumption) rfl (by decide))
  k_with "k_all" => (first | assumption | exact allLt_ne (by assumption) (Nat.le_refl _))
  k_with "k_mem" => (assumption)
  k_with "exec For Name Attribute cons nil" => (k_here; k_dflt (refine wpAny_For ?_))
  trivial
/-- the object that the nanny makes of a lead -/
noncomputable def WsOk (w : World) (σ : Ws) (rest : Led) (r : Value) (news' : Led) : Prop :=
  ∃ X dX D1 D2 vs t1 t2 t3 t4 t5 tx txt tn tnt tb bs, r = .ref X ∧ news' = (D1, tupO [.ref D2, .int σ.b tb]) :: (D2, tupO vs) :: (X, instObj 83 dX) :: (dX, dictOf [⟨PyData.keyHash w.params (Str.ofString "raw"), .str (Str.ofString "raw") t1, .str txt tx⟩, ⟨PyData.keyHash w.params (Str.ofString "n"), .str (Str.ofString "n") t2, .int σ.n tn⟩,
    ⟨PyData.keyHash w.params (Str.ofString "nt"), .str (Str.ofString "nt") t3, .int σ.nt tnt⟩, ⟨PyData.keyHash w.params (Str.ofString "norm"), .str (Str.ofString "norm") t4, .ref D1⟩, ⟨PyData.keyHash w.params (Str.ofString "is_simple"), .str (Str.ofString "is_simple") t5, .bool bs⟩] 5) :: rest ∧ IntsAre vs σ.cnt
theorem ws_ret {w : World} {h₀ h : Heap} {L D1 D2 X dX : Addr} {cnt : List Int} {b n nt : Int} {vs : List Value} {tb t1 t2 t3 t4 t5 tx tn tnt : Tok} {txt : Str} {bs : Bool} {e1 e2 e3 : Addr × Obj} {rest : Led} {σ : Ws}
    (N : News h₀ L h ((D1, tupO [.ref D2, .int b tb]) :: (D2, tupO vs) :: e1 :: e2 :: e3 :: (X, instObj 83 dX) :: (dX, dictOf [⟨PyData.keyHash w.params (Str.ofString "raw"), .str (Str.ofString "raw") t1, .str txt tx⟩, ⟨PyData.keyHash w.params (Str.ofString "n"), .str (Str.ofString "n") t2, .int n tn⟩,
      ⟨PyData.keyHash w.params (Str.ofString "nt"), .str (Str.ofString "nt") t3, .int nt tnt⟩, ⟨PyData.keyHash w.params (Str.ofString "norm"), .str (Str.ofString "norm") t4, .ref D1⟩, ⟨PyData.keyHash w.params (Str.ofString "is_simple"), .str (Str.ofString "is_simple") t5, .bool bs⟩] 5) :: rest))
    (hv : IntsAre vs cnt) (hσ : (⟨cnt, b, n, nt⟩ : Ws) = σ) : ∃ news', News h₀ L h news' ∧ WsOk w σ rest (.ref X) news' := by
  subst hσ
  refine ⟨_, fun p hp => N p ?_, X, dX, D1, D2, vs, t1, t2, t3, t4, t5, tx, txt, tn, tnt, tb, bs, rfl, rfl, hv⟩
  simp only [List.mem_cons] at hp ⊢
  rcases hp with h | h | h | h | h <;> simp [h]
set_option maxHeartbeats 8000000 in
theorem tell_ws (w : World) (rest : Led) (txt : Str) (t : Tok) (pre post : List Nat) (ht : txt.cps.toList = pre ++ 120 :: post) (hpre : ∀ c ∈ pre, c = 32 ∨ c = 9) (hpost : ∀ c ∈ post, c < 128) (hlen : pre.length ≤ 1000) :
    Tell w 83 [.str txt t] 40 200 rest (WsOk w (wsAt pre pre.length) rest) := by
  have ha : txt.cps.all (· < 128) = true := by
    rw [← Array.all_toList, ht, List.all_append, List.all_cons]
    simp only [Bool.and_eq_true, List.all_eq_true, decide_eq_true_eq]
    refine ⟨fun c hc => ?_, by decide, hpost⟩
    rcases hpre c hc with rfl | rfl <;> decide
  unfold Tell
  k_fill
  intro p loose mean mg mb dp un gd cn cs a ccd cl outer A₀ base h₀ L m s Q E B F X N T hk hG hd hu hret
  obtain ⟨_, _, _, _, _⟩ := cs
  cases hk
  k_steps
  refine ws_loop ht hpre hlen (by rfl) ha (by rfl) (by rfl) (by k_asm) (by k_asm) hG (by assumption) ?tSp ?tTab ?tX
  case tSp =>
    intro cnt b n nt I9 oI9 C9 vs9 k9 tnt9 tn9 tb9 u9 h9 tk9 g9 E9 _ c1 c2 c3 c4 c5 c6 c7 c8 c9 c10 c11 c12 F9 N9
    k_steps
    exact ws_end (by k_asm) (by k_asm) (.tail _ (.head _)) (.head _) (fun p hp => .tail _ (.tail _ hp)) c11 c10 c9 c12 c8 ws_map1 (fun y hy => if_neg hy)
  case tTab =>
    intro cnt b n nt I9 oI9 C9 vs9 k9 tnt9 tn9 tb9 u9 h9 tk9 g9 E9 _ c1 c2 c3 c4 c5 c6 c7 c8 c9 c10 c11 c12 F9 N9
    obtain ⟨q1, q2, q3, q4⟩ := id c9
    obtain ⟨q5, q6, q7, q8⟩ := id c10
    k_steps
    · rename (_ ∧ _ ∧ _ ∧ _ ∧ _ ∧ _ ∧ _ ∧ AllLt _ rest) => l9
      exact ws_end (by k_asm) (by k_asm) (.head _) (.tail _ (.tail _ (.tail _ (.head _)))) (fun p hp => .tail _ (.tail _ (.tail _ (.tail _ (.tail _ hp))))) (Nat.ne_of_gt l9.2.2.1) c10 l9.2.2.2.2 c12 (by simp only [wsStep, bump, padTo, if_neg (show ¬ (9 : Nat) = 32 by decide), if_pos (show (cnt.length : Int) ≤ b by omega)]; assumption) ws_map3 (fun y hy => if_neg hy)
    · exact ws_end (by k_asm) (by k_asm) (.tail _ (.head _)) (.head _) (fun p hp => .tail _ (.tail _ hp)) c11 c10 c9 c12 (by simp only [wsStep, bump, padTo, if_neg (show ¬ (9 : Nat) = 32 by decide), if_neg (show ¬ (cnt.length : Int) ≤ b by omega)]; assumption) ws_map2 (fun y hy => if_neg hy)
  case tX =>
    intro cnt b n nt I9 oI9 C9 vs9 k9 tnt9 tn9 tb9 u9 h9 tk9 g9 E9 c0 c1 c2 c3 c4 c5 c6 c7 c8 c9 c10 c11 c12 F9 N9
    obtain ⟨q1, q2, q3, q4⟩ := id c9
    obtain ⟨q5, q6, q7, q8⟩ := id c10
    k_steps
    dsimp only [TurnEnd]
    k_steps
    try (dsimp only [TurnEnd]; k_steps)
    rename News _ _ _ ((_, _) :: (_, { cls := Value.type "tuple", data := Data.seq vs9.toArray }) :: _) => Nx
    have neD := ne_of_obj Nx (.tail _ (.head _)) (.tail _ (.tail _ (.tail _ (.tail _ (.tail _ (.tail _ (.head _))))))) (by intro e; have := congrArg Obj.data e; cases this)
    k_steps
    obtain ⟨news', N', P'⟩ := ws_ret (w := w) (by k_asm) c8 c0
    exact hret _ _ _ _ _ (by k_asm) N' c12 P'
end SR
end
section
open PySem PySem.W PyProof.Rows PySem.Calls PySem.Spec LCg
set_option Elab.async false
set_option maxRecDepth 100000
namespace SR
section
variable {prog : Program} {w : World} {A : Around} {E : Value → Shared → Prop} {s : Shared} {h₀ : Heap} {env : Env}
/-- a loop over a range -/
theorem for_range {x : Str} {px : Pos} {body : List Stmt} {R : Result → Shared → Prop} {r : Addr} {a b : Int} {t u v : Tok} {n : Nat} {m₀ : Str → Option Value} {news₀ : Led} (J : Nat → (Str → Option Value) → Led → Prop) (hh : A.handled = none)
    (hr : IsRange s.heap r a b 1 t u v) (hsm : Builtin.Range.small a b 1 = true) (hn : Builtin.Range.rangeSize a b 1 = ((n : Nat) : Int))
    (hx : env.kindOf x = some .local) (hp : (env.scope.kind == .class || (env.scope.kind == .module && env.locals != env.globals)) = false)
    (F : Fr h₀ env.locals s.heap m₀) (N : News h₀ env.locals s.heap news₀) (hG : AllBare s.gens) (hJ : J 0 m₀ news₀)
    (hR : ∀ m₁ news₁ h tk g, J n m₁ news₁ → Fr h₀ env.locals h m₁ → News h₀ env.locals h news₁ → AllBare g → R (.ok .next) { s with heap := h, toks := tk, gens := g })
    (turn : ∀ I, (∀ p ∈ news₀, p.1 < I) → ∀ i u m₁ news₁ oI h tk g (E' : Value → Shared → Prop), i < n → J i m₁ news₁ → Fr h₀ env.locals h (fun y => if y = x then some (.int (a + (i : Nat)) u) else m₁ y) → News h₀ env.locals h ((I, oI) :: news₁) → (∀ p ∈ news₁, p.1 ≠ I) → AllBare g →
      wpAny (model prog w) A (execs body env) (TurnEnd h₀ env.locals s I oI (fun _ => True) (J (i + 1)) R) E' { s with heap := h, toks := tk, gens := g }) :
    wpAny (model prog w) A (pyIter (.ref r)) (fun it s₂ => codeAny (model prog w) A (.forLoop (.Name x px) it body [] env) R s₂) E s := by
  refine wpAny_pyIter_range hr hsm ?_
  refine for_own (s := { s with heap := s.heap.push _ }) (S := fun _ => True) J (range_walks hh (I := s.heap.objs.size) a n) (fun i h st => ⟨_, st⟩) range_st hx hp
    (F.keeps fun _ _ e => Heap.get?_push_of_some _ e) (N.grown fun _ _ e => Heap.get?_push_of_some _ e) (by show IsRangeIter _ _ _ _ _; rw [hn]; simpa using Heap.get?_push_size _ rfl) (Nat.ne_of_lt F.ns.lt) (next_is_new F) (fun p hp => Nat.ne_of_lt (Heap.lt_size (N p hp).1)) trivial hG hJ hR ?_
  intro i v m₁ news₁ oI h tk g E' hi hP hJ' F' N' off hG' _
  obtain ⟨t, rfl⟩ := hP
  exact turn _ (fun p hp => Heap.lt_size (N p hp).1) i t m₁ news₁ oI h tk g E' hi hJ' F' N' off hG'
/-- a loop over a list of the ledger -/
theorem for_list {x : Str} {px : Pos} {body : List Stmt} {R : Result → Shared → Prop} {ax : Addr} {its : Array Value} {m₀ : Str → Option Value} {news₀ : Led} (J : Nat → (Str → Option Value) → Led → Prop) (hh : A.handled = none)
    (hs : SrcAt h₀ ax its news₀) (hx : env.kindOf x = some .local) (hp : (env.scope.kind == .class || (env.scope.kind == .module && env.locals != env.globals)) = false)
    (F : Fr h₀ env.locals s.heap m₀) (N : News h₀ env.locals s.heap news₀) (hG : AllBare s.gens) (hJ : J 0 m₀ news₀)
    (hR : ∀ m₁ news₁ h tk g, J its.size m₁ news₁ → Fr h₀ env.locals h m₁ → News h₀ env.locals h news₁ → AllBare g → R (.ok .next) { s with heap := h, toks := tk, gens := g })
    (turn : ∀ I, (∀ p ∈ news₀, p.1 < I) → ∀ i v m₁ news₁ oI h tk g (E' : Value → Shared → Prop), its[i]? = some v → J i m₁ news₁ → Fr h₀ env.locals h (fun y => if y = x then some v else m₁ y) → News h₀ env.locals h ((I, oI) :: news₁) → (∀ p ∈ news₁, p.1 ≠ I) → AllBare g → SrcAt h₀ ax its news₁ →
      wpAny (model prog w) A (execs body env) (TurnEnd h₀ env.locals s I oI (SrcAt h₀ ax its) (J (i + 1)) R) E' { s with heap := h, toks := tk, gens := g }) :
    wpAny (model prog w) A (pyIter (.ref ax)) (fun it s₂ => codeAny (model prog w) A (.forLoop (.Name x px) it body [] env) R s₂) E s := by
  have hl := hs.list F.keep N
  have hlt : ax < s.heap.objs.size := by obtain ⟨_, e, _⟩ := hl; exact Heap.lt_size e
  refine wpAny_pyIter_list hl ?_
  refine for_own (s := { s with heap := s.heap.push _ }) (S := SrcAt h₀ ax its) J (Walks.list hh s.heap.objs.size ax (Nat.ne_of_lt hlt) its) (fun i h st => by obtain ⟨o, e, _⟩ := st.1; exact ⟨o, e⟩) list_st hx hp
    (F.keeps fun _ _ e => Heap.get?_push_of_some _ e) (N.grown fun _ _ e => Heap.get?_push_of_some _ e) ⟨⟨_, Heap.get?_push_size _ rfl, rfl, rfl⟩, hl.push _⟩ (Nat.ne_of_lt F.ns.lt) (next_is_new F) (fun p hp => Nat.ne_of_lt (Heap.lt_size (N p hp).1)) hs hG hJ hR ?_
  intro i v m₁ news₁ oI h tk g E' hi hP hJ' F' N' off hG' hS'
  exact turn _ (fun p hp => Heap.lt_size (N p hp).1) i v m₁ news₁ oI h tk g E' hP hJ' F' N' off hG' hS'
end
end SR
end
section
open PySem PySem.W PyProof.Rows PySem.Calls PySem.Spec LCg
set_option Elab.async false
set_option maxRecDepth 100000
namespace SR
section
variable {prog : Program} {w : World} {A : Around} {E : Value → Shared → Prop} {s : Shared} {h₀ : Heap} {L D : Addr} {vs : List Value} {ns : List Int} {n : Nat} {news : Led}
theorem isTup_of (N : News h₀ L s.heap news) (hm : (D, ({ cls := .type "tuple", data := .seq vs.toArray n } : Obj)) ∈ news) : IsTup s.heap D vs.toArray := ⟨_, (N _ hm).1, rfl, n, rfl⟩
theorem len_tupI {Q : Value → Shared → Prop} (N : News h₀ L s.heap news) (hm : (D, ({ cls := .type "tuple", data := .seq vs.toArray n } : Obj)) ∈ news) (hv : IntsAre vs ns) (hl : ns.length ≤ 1000) (h : Q (.int ns.length (s.toks + 1)) { s with toks := s.toks + 1 + 1 }) : wpAny (model prog w) A (call (.builtin "len") [.ref D]) Q E s := by
  have e : vs.toArray.size = ns.length := by simp [hv.length]
  refine len_tuple (isTup_of N hm) (by rw [e]; omega) ?_
  rw [e]; exact h
end
noncomputable def ilAt (cnt : List Int) (size : Int) : Nat → Int
  | 0 => 0
  | i + 1 => ilAt cnt size i + (size + (i : Nat)).fdiv size * cnt.getD (size + (i : Nat)).toNat 0
noncomputable abbrev ilMap (v : Value) (bm : Str → Option Value) : Str → Option Value := fun y => if y = Str.ofString "il" then some v else bm y
noncomputable def IlEnd (base : Led) (bm : Str → Option Value) (z : Int) (m₁ : Str → Option Value) (news₁ : Led) : Prop := news₁ = base ∧ ∃ tl v, m₁ = ilMap (.int z tl) (fun y => if y = Str.ofString "i" then some v else bm y)
theorem il_bounds (cnt : List Int) (size : Int) (h1 : 1 ≤ size) (hb : ∀ j, 0 ≤ cnt.getD j 0 ∧ cnt.getD j 0 ≤ 1000) : ∀ i : Nat, 0 ≤ ilAt cnt size i ∧ ilAt cnt size i ≤ (i : Int) * ((size + i) * 1000) := by
  intro i
  induction i with
  | zero => simp [ilAt]
  | succ i ih =>
    obtain ⟨b1, b2⟩ := hb (size + (i : Nat)).toNat
    have f1 : 0 ≤ (size + (i : Nat)).fdiv size := Int.fdiv_nonneg (by omega) (by omega)
    have f2 : (size + (i : Nat)).fdiv size ≤ size + (i : Nat) := by
      rw [Int.fdiv_eq_ediv_of_nonneg _ (by omega)]
      exact Int.ediv_le_self _ (by omega)
    have p1 : 0 ≤ (size + (i : Nat)).fdiv size * cnt.getD (size + (i : Nat)).toNat 0 := Int.mul_nonneg f1 b1
    have p2 : (size + (i : Nat)).fdiv size * cnt.getD (size + (i : Nat)).toNat 0 ≤ (size + (i : Nat)) * 1000 := Int.mul_le_mul f2 b2 b1 (by omega)
    refine ⟨by show 0 ≤ ilAt cnt size i + _; omega, ?_⟩
    show ilAt cnt size i + _ ≤ _
    have e : ((i + 1 : Nat) : Int) * ((size + (i + 1 : Nat)) * 1000) = (i : Int) * ((size + i) * 1000) + (i : Int) * 1000 + (size + i) * 1000 + 1000 := by
      push_cast
      simp only [Int.add_mul, Int.mul_add, Int.one_mul, Int.mul_one]
      omega
    rw [e]
    have : 0 ≤ (i : Int) * 1000 := by omega
    omega
theorem il_map {vi vj vo : Value} {bm : Str → Option Value} : (fun y => if y = Str.ofString "il" then some vi else if y = Str.ofString "i" then some vj else ilMap vo bm y) = ilMap vi (fun y => if y = Str.ofString "i" then some vj else bm y) := by
  funext y
  by_cases h1 : y = Str.ofString "il"
  · subst h1; rfl
  · simp only [ilMap, if_neg h1]
section
variable {prog : Program} {w : World} {A : Around} {E : Value → Shared → Prop} {s : Shared} {h₀ : Heap} {env : Env}
theorem il_end {L : Addr} {base : Led} {bm m' : Str → Option Value} {z : Int} {I : Addr} {oI : Obj} {tl : Tok} {v : Value} {R : Result → Shared → Prop} {h' : Heap} {tk : Nat} {g : Array GenState} (F : Fr h₀ L h' m') (N : News h₀ L h' ((I, oI) :: base)) (hIb : AllLt I base) (hG : AllBare g)
    (hm : m' = ilMap (.int z tl) (fun y => if y = Str.ofString "i" then some v else bm y)) : TurnEnd h₀ L s I oI (fun _ => True) (IlEnd base bm z) R .next { s with heap := h', toks := tk, gens := g } :=
  ⟨h', tk, g, m', base, rfl, F, N, fun p hp => allLt_ne hIb (Nat.le_refl _) p hp, hG, trivial, rfl, tl, v, hm⟩
theorem il_loop {px : Pos} {body : List Stmt} {R : Result → Shared → Prop} {r : Addr} {t u v t0 : Tok} {cnt : List Int} {size : Int} {bm : Str → Option Value} {base : Led} (hh : A.handled = none) (hr : IsRange s.heap r size (cnt.length : Nat) 1 t u v) (hs1 : 1 ≤ size) (hs2 : size ≤ 7) (hl : cnt.length ≤ 1000) (hcb : ∀ j, 0 ≤ cnt.getD j 0 ∧ cnt.getD j 0 ≤ 1000)
    (hx : env.kindOf (Str.ofString "i") = some .local) (hp : (env.scope.kind == .class || (env.scope.kind == .module && env.locals != env.globals)) = false)
    (F : Fr h₀ env.locals s.heap (ilMap (.int 0 t0) bm)) (N : News h₀ env.locals s.heap base) (hG : AllBare s.gens)
    (turn : ∀ (I : Addr) (j il : Int) tl ui oI h tk g (E' : Value → Shared → Prop), size ≤ j → j < cnt.length → 0 ≤ il → il ≤ 2000000000 → 0 ≤ cnt.getD j.toNat 0 → cnt.getD j.toNat 0 ≤ 1000 → AllLt I base → Fr h₀ env.locals h (fun y => if y = Str.ofString "i" then some (.int j ui) else ilMap (.int il tl) bm y) → News h₀ env.locals h ((I, oI) :: base) → AllBare g →
      wpAny (model prog w) A (execs body env) (TurnEnd h₀ env.locals s I oI (fun _ => True) (IlEnd base bm (il + j.fdiv size * cnt.getD j.toNat 0)) R) E' { s with heap := h, toks := tk, gens := g })
    (d0 : ∀ h tk g tl z, z = ilAt cnt size (cnt.length - size.toNat) → 0 ≤ z → z ≤ 2000000000 → Fr h₀ env.locals h (ilMap (.int z tl) bm) → News h₀ env.locals h base → AllBare g → R (.ok .next) { s with heap := h, toks := tk, gens := g })
    (d1 : ∀ h tk g tl z v, z = ilAt cnt size (cnt.length - size.toNat) → 0 ≤ z → z ≤ 2000000000 → Fr h₀ env.locals h (ilMap (.int z tl) (fun y => if y = Str.ofString "i" then some v else bm y)) → News h₀ env.locals h base → AllBare g → R (.ok .next) { s with heap := h, toks := tk, gens := g }) :
    wpAny (model prog w) A (pyIter (.ref r)) (fun it s₂ => codeAny (model prog w) A (.forLoop (.Name (Str.ofString "i") px) it body [] env) R s₂) E s := by
  have bnd : ∀ i : Nat, i ≤ cnt.length → 0 ≤ ilAt cnt size i ∧ ilAt cnt size i ≤ 2000000000 := fun i hi => by
    obtain ⟨h1, h2⟩ := il_bounds cnt size hs1 hcb i
    refine ⟨h1, Int.le_trans h2 ?_⟩
    have : (i : Int) * ((size + i) * 1000) ≤ 1000 * ((7 + 1000) * 1000) := by
      refine Int.mul_le_mul (by omega) (by omega) (by omega) (by omega)
    exact Int.le_trans this (by decide)
  refine for_range (n := cnt.length - size.toNat) (fun i m₁ news₁ => news₁ = base ∧ ((i = 0 ∧ ∃ tl, m₁ = ilMap (.int 0 tl) bm) ∨ IlEnd base bm (ilAt cnt size i) m₁ news₁)) hh hr (small_one (by omega) (by omega) (by omega) (by omega)) (by rw [rangeSize_nat]; congr 1; omega) hx hp F N hG ⟨rfl, .inl ⟨rfl, _, rfl⟩⟩ ?_ ?_
  · rintro m₁ news₁ h tk g ⟨rfl, hJ⟩ F' N' hG'
    obtain ⟨z1, z2⟩ := bnd (cnt.length - size.toNat) (Nat.sub_le _ _)
    rcases hJ with ⟨h0, tl, rfl⟩ | ⟨-, tl, v, rfl⟩
    · exact d0 h tk g tl 0 (by rw [h0]; rfl) (by omega) (by omega) F' N' hG'
    · exact d1 h tk g tl _ v rfl z1 z2 F' N' hG'
  · rintro I hI i u m₁ news₁ oI h tk g E' hi ⟨rfl, hJ⟩ F' N' off hG'
    have hIb : AllLt I news₁ := by
      clear N N' F F' turn d0 d1 off hJ
      induction news₁ with
      | nil => trivial
      | cons q r ih => exact ⟨hI q (.head _), ih fun p hp => hI p (.tail _ hp)⟩
    obtain ⟨z1, z2⟩ := bnd i (by omega)
    obtain ⟨b1, b2⟩ := hcb (size + (i : Nat)).toNat
    obtain ⟨tl, e⟩ : ∃ tl, (fun y => if y = Str.ofString "i" then some (.int (size + (i : Nat)) u) else m₁ y) = fun y => if y = Str.ofString "i" then some (.int (size + (i : Nat)) u) else ilMap (.int (ilAt cnt size i) tl) bm y := by
      rcases hJ with ⟨h0, tl, rfl⟩ | ⟨-, tl, v, rfl⟩
      · exact ⟨tl, by subst h0; rfl⟩
      · refine ⟨tl, ?_⟩
        funext y
        by_cases hy : y = Str.ofString "i"
        · simp [hy]
        · simp [hy, ilMap]
    rw [e] at F'
    refine wpAny_mono (turn I (size + (i : Nat)) (ilAt cnt size i) tl u oI h tk g E' (by omega) (by omega) z1 z2 b1 b2 hIb F' N' hG') (fun f s' hf => ?_) fun _ _ e => e
    cases f with
    | next => obtain ⟨h', tk, g, m', news', r1, r2, r3, r4, r5, r6, r7⟩ := hf; exact ⟨h', tk, g, m', news', r1, r2, r3, r4, r5, r6, r7.1, .inr r7⟩
    | cont => obtain ⟨h', tk, g, m', news', r1, r2, r3, r4, r5, r6, r7⟩ := hf; exact ⟨h', tk, g, m', news', r1, r2, r3, r4, r5, r6, r7.1, .inr r7⟩
    | brk => exact hf
    | ret v => exact hf
end
theorem rows_SRx_1 : True := by
  k_with_none
  k_with "execs cons" => (k_here; k_fold)
  k_with "execs cons" => (k_here; (fail_if_success with_reducible show wpAny _ Aq _ _ _ _); (try k_fold); refine' a_let ?_; intro Aq)
  k_with "execs cons" => (k_here; (fail_if_success with_reducible show wpAny _ _ _ _ _ ⟨_, _, _, tkq, _⟩); refine' tok_all ?_; intro tkq; dsimp only)
  k_with "execs cons" => (k_here; (fail_if_success refine' m_is (m := mq) (by with_reducible assumption) ?_); refine' m_let ?zzF ?_; (case zzF => k_asm); intro mq Fq; dsimp only at Fq)
  k_with "k_room" => (first | exact room_k (k := 0) (by assumption) (by decide) | exact room_k (k := 1) (by assumption) (by decide) | exact room_k (k := 2) (by assumption) (by decide) | exact room_k (k := 3) (by assumption) (by decide) | exact room_k (k := 4) (by assumption) (by decide) | ktr_room)
  k_with "ktr_room" => (first | exact room_k (k := 0) (by assumption) (by decide) | exact room_k (k := 1) (by assumption) (by decide) | exact room_k (k := 2) (by assumption) (by decide) | exact room_k (k := 3) (by assumption) (by decide) | exact room_k (k := 4) (by assumption) (by decide))
  k_with "k_units" => (first | exact unit_k (k := 3) (by assumption) rfl (by decide) | exact unit_k (k := 0) (by assumption) rfl (by decide) | exact unit_k (k := 6) (by assumption) rfl (by decide) | exact unit_k (k := 4) (by assumption) rfl (by decide) | exact unit_k (k := 7) (by assumption) rfl (by decide) | exact unit_k (k := 9) (by assumption) rfl (by decide) | exact unit_k (k := 1) (by assumption) rfl (by decide) | ktr_units)
  k_with "ktr_units" => (first | exact unit_k (k := 3) (by assumption) rfl (by decide) | exact unit_k (k := 0) (by assumption) rfl (by decide) | exact unit_k (k := 6) (by assumption) rfl (by decide) | exact unit_k (k := 4) (by assumption) rfl (by decide) | exact unit_k (k := 7) (by assumption) rfl (by decide) | exact unit_k (k := 9) (by assumption) rfl (by decide) | exact unit_k (k := 1) (by assumption) rfl (by decide))
  k_with "units_room" => (first | exact unit_k (k := 3) (by assumption) rfl (by decide) | exact unit_k (k := 0) (by assumption) rfl (by decide) | exact unit_k (k := 6) (by assumption) rfl (by decide) | exact unit_k (k := 4) (by assumption) rfl (by decide) | exact unit_k (k := 7) (by assumption) rfl (by decide) | exact unit_k (k := 9) (by assumption) rfl (by decide) | exact unit_k (k := 1) (by assumption) rfl (by decide))
  k_with "k_all" => (first | assumption | exact allLt_ne (by assumption) (Nat.le_refl _))
  k_with "exec For Name Call cons nil" => (k_here; k_dflt (refine wpAny_For ?_))
  k_with "call builtin:len" => (k_here; k_dflt (refine' len_tupI ?z24N ?z24m ?z24v ?z24l ?_; (case z24N => k_asm); (case z24m => k_mem); (case z24v => assumption); (case z24l => assumption)))
  k_with "subscriptTail" => (k_here; k_dflt (refine' item_tuple_ints ?z24t ?z24v ?z24l ?z24u ?z24f ?_; (case z24t => exact isTup_of (by k_asm) (by k_mem)); (case z24v => assumption); (case z24l => omega); (case z24u => omega); (case z24f => omega); intro t'q))
  trivial
set_option maxHeartbeats 8000000 in
theorem tell_indent (w : World) (rest news : Led) (X dX D1 D2 : Addr) (vs : List Value) (cnt : List Int) (b n nt : Int) (t1 t2 t3 t4 t5 tx tn tnt tb : Tok) (txt : Str) (bs : Bool) (hv : IntsAre vs cnt) (size : Int) (ts : Tok) (hs1 : 1 ≤ size) (hs2 : size ≤ 7) (hb0 : 0 ≤ b) (hb1 : b ≤ 1000) (hn0 : 0 ≤ nt) (hn1 : nt ≤ 1000) (hl : cnt.length ≤ 1000) (hcb : ∀ j, 0 ≤ cnt.getD j 0 ∧ cnt.getD j 0 ≤ 1000)
    (hnews : news = (D1, tupO [.ref D2, .int b tb]) :: (D2, tupO vs) :: (X, instObj 83 dX) :: (dX, dictOf [⟨PyData.keyHash w.params (Str.ofString "raw"), .str (Str.ofString "raw") t1, .str txt tx⟩, ⟨PyData.keyHash w.params (Str.ofString "n"), .str (Str.ofString "n") t2, .int n tn⟩,
      ⟨PyData.keyHash w.params (Str.ofString "nt"), .str (Str.ofString "nt") t3, .int nt tnt⟩, ⟨PyData.keyHash w.params (Str.ofString "norm"), .str (Str.ofString "norm") t4, .ref D1⟩, ⟨PyData.keyHash w.params (Str.ofString "is_simple"), .str (Str.ofString "is_simple") t5, .bool bs⟩] 5) :: rest) :
    Tell w 52 [.ref X, .int size ts] 40 200 news (fun r news' => (∃ t, r = .int (b + size * (ilAt cnt size (cnt.length - size.toNat) + nt)) t) ∧ news' = news) := by
  subst hnews
  unfold Tell
  k_fill
  intro p loose mean mg mb dp un gd cn cs a ccd cl outer A₀ base h₀ L m s Q E B F X N T hk hG hd hu hret
  obtain ⟨_, _, _, _, _⟩ := cs
  cases hk
  refine wpAny_call ?_
  k_dflt k_enter
  k_steps
  refine il_loop (by rfl) (by assumption) hs1 hs2 hl hcb (by rfl) (by rfl) (by k_asm) (by k_asm) hG ?turn ?d0 ?d1
  case turn =>
    intro I9 j il tl9 ui9 oI9 h9 tk9 g9 E9 j1 j2 z1 z2 y1 y2 hI9 F9 N9 G9
    k_steps
    exact il_end (by k_asm) (by k_asm) hI9 G9 il_map
  case d0 =>
    intro h9 tk9 g9 tl9 z hz z1 z2 F9 N9 G9
    dsimp only
    k_steps
    exact hret _ _ _ _ _ (by k_asm) (by k_asm) G9 ⟨⟨_, by rw [← hz]⟩, rfl⟩
  case d1 =>
    intro h9 tk9 g9 tl9 z v9 hz z1 z2 F9 N9 G9
    dsimp only
    k_steps
    exact hret _ _ _ _ _ (by k_asm) (by k_asm) G9 ⟨⟨_, by rw [← hz]⟩, rfl⟩
end SR
end
section
open PySem PySem.W PyProof.Rows
set_option Elab.async false
namespace SR
/-- the weighted sum of the counts -/
noncomputable def wsum (f : Nat → Int) : List Int → Nat → Int
  | [], _ => 0
  | c :: r, k => f k * c + wsum f r (k + 1)
theorem wsum_append (f : Nat → Int) : ∀ (a b : List Int) (k : Nat), wsum f (a ++ b) k = wsum f a k + wsum f b (k + a.length)
  | [], b, k => by simp [wsum]
  | c :: r, b, k => by
    show f k * c + wsum f (r ++ b) (k + 1) = f k * c + wsum f r (k + 1) + _
    rw [wsum_append f r b (k + 1), List.length_cons]
    rw [Nat.add_assoc k 1, Nat.add_comm 1]; exact (Int.add_assoc _ _ _).symm
theorem wsum_zeros (f : Nat → Int) : ∀ (n k : Nat), wsum f (List.replicate n 0) k = 0
  | 0, _ => rfl
  | n + 1, k => by
    rw [List.replicate_succ]
    show f k * 0 + _ = 0
    rw [wsum_zeros f n (k + 1)]; simp
theorem wsum_set (f : Nat → Int) : ∀ (a : List Int) (j k : Nat), j < a.length → wsum f (a.set j (a.getD j 0 + 1)) k = wsum f a k + f (k + j)
  | [], _, _, h => absurd h (Nat.not_lt_zero _)
  | c :: r, 0, k, _ => by
    show f k * (c + 1) + wsum f r (k + 1) = f k * c + wsum f r (k + 1) + f k
    rw [Int.mul_add, Int.mul_one]; exact Int.add_right_comm _ _ _
  | c :: r, j + 1, k, h => by
    have ih := wsum_set f r j (k + 1) (Nat.lt_of_succ_lt_succ h)
    show f k * c + wsum f (r.set j (r.getD j 0 + 1)) (k + 1) = f k * c + wsum f r (k + 1) + f (k + (j + 1))
    rw [ih]
    rw [Nat.add_assoc k 1, Nat.add_comm 1]; exact (Int.add_assoc _ _ _).symm
theorem flat_zeros (n : Nat) : (List.replicate n [(0 : Int)]).flatten = List.replicate n 0 := by
  induction n with
  | zero => rfl
  | succ n ih => rw [List.replicate_succ, List.flatten_cons, ih, List.replicate_succ]; rfl
theorem wsum_bump (f : Nat → Int) (cnt : List Int) (b : Nat) : wsum f (bump cnt b) 0 = wsum f cnt 0 + f b := by
  have hp : wsum f (padTo cnt b) 0 = wsum f cnt 0 ∧ b < (padTo cnt b).length := by
    unfold padTo
    split
    · rename_i h
      rw [flat_zeros, wsum_append, wsum_zeros, List.length_append, List.length_replicate]
      constructor <;> omega
    · rename_i h
      exact ⟨rfl, by omega⟩
  unfold bump
  rw [Int.toNat_natCast, wsum_set f _ b 0 hp.2, hp.1, Nat.zero_add]
theorem ws_spaces : ∀ (h : Nat) (σ : Ws), (List.replicate h 32).foldl wsStep σ = ⟨σ.cnt, σ.b + h, σ.n + h, σ.nt⟩
  | 0, σ => by simp
  | h + 1, σ => by
    rw [List.replicate_succ, List.foldl_cons, ws_spaces h]
    simp only [wsStep, if_true, Ws.mk.injEq, true_and, and_true]
    constructor <;> omega
/-- a lead: a run of blanks and a tab for each heap -/
noncomputable def lead (hs : List Nat) : List Nat := (hs.map fun h => List.replicate h 32 ++ [9]).flatten
theorem ws_lead (f : Nat → Int) : ∀ (hs : List Nat) (σ : Ws), σ.b = 0 → ((lead hs).foldl wsStep σ).b = 0 ∧ ((lead hs).foldl wsStep σ).nt = σ.nt + hs.length ∧ wsum f ((lead hs).foldl wsStep σ).cnt 0 = wsum f σ.cnt 0 + (hs.map f).sum
  | [], σ, h => by simp [lead, h]
  | x :: r, σ, h => by
    have e : lead (x :: r) = List.replicate x 32 ++ [9] ++ lead r := by simp [lead]
    rw [e, List.foldl_append, List.foldl_append, ws_spaces]
    have e2 : [9].foldl wsStep ⟨σ.cnt, σ.b + x, σ.n + x, σ.nt⟩ = ⟨bump σ.cnt x, 0, σ.n + x + 1, σ.nt + 1⟩ := by
      simp [wsStep, h]
    rw [e2]
    obtain ⟨h1, h2, h3⟩ := ws_lead f r ⟨bump σ.cnt x, 0, σ.n + x + 1, σ.nt + 1⟩ rfl
    refine ⟨h1, ?_, ?_⟩
    · rw [h2, List.length_cons]; simp only; omega
    · rw [h3, wsum_bump, List.map_cons, List.sum_cons]; omega
theorem wsum_small {size : Nat} : ∀ (a : List Int) (k : Nat), a.length + k ≤ size → wsum (fun j => ((j / size : Nat) : Int)) a k = 0
  | [], _, _ => rfl
  | c :: r, k, hk => by
    have hk' : r.length + (k + 1) ≤ size := by rw [List.length_cons] at hk; rwa [Nat.add_comm k, ← Nat.add_assoc]
    show ((k / size : Nat) : Int) * c + wsum (fun j => ((j / size : Nat) : Int)) r (k + 1) = 0
    rw [wsum_small r (k + 1) hk', Nat.div_eq_of_lt (Nat.lt_of_lt_of_le (Nat.lt_succ_self k) (Nat.le_trans (Nat.le_add_left _ _) hk'))]
    rw [Int.natCast_zero, Int.zero_mul, Int.add_zero]
theorem wsum_il (size : Nat) (hs : 1 ≤ size) : ∀ (cnt : List Int) (i : Nat), i + size ≤ cnt.length → wsum (fun j => ((j / size : Nat) : Int)) (cnt.take (size + i)) 0 = ilAt cnt size i
  | cnt, 0, h => by
    rw [wsum_small _ 0 (by rw [Nat.add_zero, List.length_take]; exact Nat.min_le_left _ _)]
    rfl
  | cnt, i + 1, h => by
    have ih := wsum_il size hs cnt i (by omega)
    have hlt : size + i < cnt.length := by omega
    have e : cnt.take (size + (i + 1)) = cnt.take (size + i) ++ [cnt.getD (size + i) 0] := by
      rw [← Nat.add_assoc, List.take_add_one, List.getD_eq_getElem?_getD, List.getElem?_eq_getElem hlt]
      rfl
    rw [e, wsum_append, ih]
    show ilAt cnt size i + (((0 + (cnt.take (size + i)).length) / size : Nat) * cnt.getD (size + i) 0 + 0) = ilAt cnt size i + ((size : Int) + (i : Nat)).fdiv size * cnt.getD ((size : Int) + (i : Nat)).toNat 0
    have e1 : (cnt.take (size + i)).length = size + i := by simp; omega
    have e2 : ((size : Int) + (i : Nat)).toNat = size + i := by omega
    rw [e1, e2, Nat.zero_add, Int.add_zero, Int.fdiv_eq_ediv_of_nonneg _ (by omega)]
    rfl
theorem ilAt_wsum (size : Nat) (hs : 1 ≤ size) (cnt : List Int) : ilAt cnt size (cnt.length - size) = wsum (fun j => ((j / size : Nat) : Int)) cnt 0 := by
  by_cases h : size ≤ cnt.length
  · rw [← wsum_il size hs cnt (cnt.length - size) (by omega)]
    have : size + (cnt.length - size) = cnt.length := by omega
    rw [this, List.take_length]
  · have e : cnt.length - size = 0 := by omega
    rw [e, wsum_small _ 0 (Nat.le_of_not_le h)]
    rfl
/-- what is typed ahead of the x -/
noncomputable def typed (hs : List Nat) (tabs spare : Nat) : List Nat := lead hs ++ (List.replicate tabs 9 ++ List.replicate spare 32)
theorem lead_tabs (tabs : Nat) : List.replicate tabs 9 = lead (List.replicate tabs 0) := by
  induction tabs with
  | zero => rfl
  | succ n ih => simp only [lead, List.replicate_succ, List.map_cons, List.flatten_cons] at ih ⊢; rw [ih]; rfl
theorem ws_typed (f : Nat → Int) (hf : f 0 = 0) (hs : List Nat) (tabs spare : Nat) : (wsAt (typed hs tabs spare) (typed hs tabs spare).length).b = spare ∧ (wsAt (typed hs tabs spare) (typed hs tabs spare).length).nt = hs.length + tabs ∧
    wsum f (wsAt (typed hs tabs spare) (typed hs tabs spare).length).cnt 0 = (hs.map f).sum := by
  unfold wsAt
  rw [List.take_length]
  unfold typed
  rw [List.foldl_append, List.foldl_append, ws_spaces, lead_tabs]
  obtain ⟨a1, a2, a3⟩ := ws_lead f hs ⟨[], 0, 0, 0⟩ rfl
  obtain ⟨b1, b2, b3⟩ := ws_lead f (List.replicate tabs 0) _ a1
  refine ⟨?_, ?_, ?_⟩
  · show _ + (spare : Int) = spare
    rw [b1]; omega
  · show _ = _
    rw [b2, a2, List.length_replicate]; simp only; omega
  · show wsum f _ 0 = _
    rw [b3, a3]
    have : ((List.replicate tabs 0).map f).sum = 0 := by
      rw [List.map_replicate, hf]
      induction tabs with
      | zero => rfl
      | succ n ih => rw [List.replicate_succ, List.sum_cons]; simpa using ih (by simp [lead_tabs]) (by simp [lead_tabs]) (by simp)
    rw [this]
    show 0 + _ + 0 = _
    omega
theorem bump_cells {cnt : List Int} {b k : Int} (hk : 0 ≤ k) (h : ∀ j, 0 ≤ cnt.getD j 0 ∧ cnt.getD j 0 ≤ k) : ∀ j, 0 ≤ (bump cnt b).getD j 0 ∧ (bump cnt b).getD j 0 ≤ k + 1 := by
  have hp : ∀ j, 0 ≤ (padTo cnt b).getD j 0 ∧ (padTo cnt b).getD j 0 ≤ k := by
    intro j
    unfold padTo
    split
    · rw [flat_zeros]
      by_cases hj : j < cnt.length
      · have : (cnt ++ List.replicate (b - cnt.length + 1).toNat 0).getD j 0 = cnt.getD j 0 := by
          simp [List.getD_eq_getElem?_getD, List.getElem?_append_left hj]
        rw [this]; exact h j
      · have : (cnt ++ List.replicate (b - cnt.length + 1).toNat 0).getD j 0 = 0 := by
          rw [List.getD_eq_getElem?_getD, List.getElem?_append_right (by omega), List.getElem?_replicate]
          split <;> rfl
        rw [this]; exact ⟨Int.le_refl _, hk⟩
    · exact h j
  intro j
  unfold bump
  rw [List.getD_eq_getElem?_getD, List.getElem?_set]
  split
  · split
    · have := hp b.toNat
      simp only [Option.getD_some]
      omega
    · simp only [Option.getD_none]; omega
  · have := hp j
    rw [List.getD_eq_getElem?_getD] at this
    omega
theorem ws_cells (pre : List Nat) : ∀ i, i ≤ pre.length → ∀ j, 0 ≤ (wsAt pre i).cnt.getD j 0 ∧ (wsAt pre i).cnt.getD j 0 ≤ i := by
  intro i
  induction i with
  | zero => intro _ j; simp [wsAt]
  | succ i ih =>
    intro hi j
    obtain ⟨c, hc⟩ : ∃ c, pre[i]? = some c := ⟨pre[i], List.getElem?_eq_getElem (by omega)⟩
    rw [wsAt_succ hc]
    unfold wsStep
    split
    · have := ih (by omega) j
      simp only; omega
    · have := bump_cells (b := (wsAt pre i).b) (by omega : (0 : Int) ≤ (i : Nat)) (ih (by omega)) j
      simp only; omega
theorem typed_len (hs : List Nat) (tabs spare : Nat) (hh : ∀ h ∈ hs, h ≤ 7) (hl : hs.length = 4) (ht : tabs ≤ 2) (hsp : spare ≤ 2) : (typed hs tabs spare).length ≤ 100 := by
  obtain ⟨a, b, c, d, rfl⟩ := four_of hl
  have h1 := hh a (by simp)
  have h2 := hh b (by simp)
  have h3 := hh c (by simp)
  have h4 := hh d (by simp)
  simp [typed, lead]
  omega
theorem typed_signs (hs : List Nat) (tabs spare : Nat) : ∀ c ∈ typed hs tabs spare, c = 32 ∨ c = 9 := by
  intro c hc
  unfold typed lead at hc
  simp only [List.mem_append, List.mem_flatten, List.mem_map, List.mem_replicate, List.mem_singleton] at hc
  rcases hc with ⟨l, ⟨h, _, rfl⟩, hc⟩ | ⟨_, rfl⟩ | ⟨_, rfl⟩
  · rcases List.mem_append.mp hc with hc | hc
    · exact .inl (List.eq_of_mem_replicate hc)
    · exact .inr (List.mem_singleton.mp hc)
  · exact .inr rfl
  · exact .inl rfl
end SR
end
section
open PySem PySem.W PyProof.Rows PySem.Calls PySem.Spec LCg
set_option Elab.async false
set_option maxRecDepth 100000
namespace SR
theorem fc {α : Type} {p : α → Prop} {a : α} {l : List α} (h : p a) (t : ∀ x ∈ l, p x) : ∀ x ∈ a :: l, p x := List.forall_mem_cons.mpr ⟨h, t⟩
section
variable {α : Type} {x a b c d e f g w : α} {X Z : List α}
theorem pm1 : ∀ p ∈ w :: a :: b :: c :: d :: e :: f :: x :: Z, p ∈ x :: a :: b :: c :: w :: d :: e :: f :: Z := by
  intro p hp; simp only [List.mem_cons] at hp ⊢; rcases hp with h | h | h | h | h | h | h | h | h <;> simp [h]
theorem pm2 : ∀ p ∈ a :: b :: c :: w :: d :: e :: f :: x :: Z, p ∈ x :: w :: a :: b :: c :: d :: e :: f :: Z := by
  intro p hp; simp only [List.mem_cons] at hp ⊢; rcases hp with h | h | h | h | h | h | h | h | h <;> simp [h]
theorem pm3 : ∀ p ∈ a :: b :: c :: d :: e :: f :: g :: x :: Z, p ∈ x :: a :: b :: c :: d :: e :: f :: g :: Z := by
  intro p hp; simp only [List.mem_cons] at hp ⊢; rcases hp with h | h | h | h | h | h | h | h | h <;> simp [h]
theorem pm4 : ∀ p ∈ c :: a :: b :: Z, p ∈ a :: b :: c :: Z := by
  intro p hp; simp only [List.mem_cons] at hp ⊢; rcases hp with h | h | h | h <;> simp [h]
theorem pm5 : ∀ p ∈ a :: b :: c :: Z, p ∈ c :: a :: b :: Z := by
  intro p hp; simp only [List.mem_cons] at hp ⊢; rcases hp with h | h | h | h <;> simp [h]
theorem pm6 : ∀ p ∈ a :: b :: c :: d :: e :: f :: g :: (X ++ Z), p ∈ a :: b :: (X ++ c :: d :: e :: f :: g :: Z) := by
  intro p hp; simp only [List.mem_cons, List.mem_append] at hp ⊢; rcases hp with h | h | h | h | h | h | h | h | h <;> simp [h]
theorem pm7 : ∀ p ∈ x :: w :: a :: b :: c :: d :: e :: f :: Z, p ∈ a :: b :: c :: w :: d :: e :: f :: x :: Z := by
  intro p hp; simp only [List.mem_cons] at hp ⊢; rcases hp with h | h | h | h | h | h | h | h | h <;> simp [h]
end
theorem nin7 {I a b c d e f g : Addr} (h1 : a ≠ I) (h2 : b ≠ I) (h3 : c ≠ I) (h4 : d ≠ I) (h5 : e ≠ I) (h6 : f ≠ I) (h7 : g ≠ I) : I ∉ [a, b, c, d, e, f, g] := by
  intro hb
  simp only [List.mem_cons, List.not_mem_nil, or_false] at hb
  rcases hb with e | e | e | e | e | e | e
  · exact h1 e.symm
  · exact h2 e.symm
  · exact h3 e.symm
  · exact h4 e.symm
  · exact h5 e.symm
  · exact h6 e.symm
  · exact h7 e.symm
/-- the object of an iterator by place -/
noncomputable def IterO (o : Obj) : Prop := ∃ l i, o.data = .fields #[.ref l, .int i 0]
noncomputable def TupIn (ax : Addr) (its : Array Value) (news : Led) : Prop := ∃ o, (ax, o) ∈ news ∧ o.cls = .type "tuple" ∧ ∃ n, o.data = .seq its n
section
variable {prog : Program} {w : World} {A : Around} {E : Value → Shared → Prop} {s : Shared} {h₀ : Heap} {env : Env}
theorem TupIn.tup {h : Heap} {L ax : Addr} {its : Array Value} {news : Led} (x : TupIn ax its news) (N : News h₀ L h news) : h.IsTuple ax its :=
  x.elim fun o h => ⟨o, (N _ h.1).1, h.2⟩
theorem tuple_st {L ax I : Addr} {its : Array Value} : ∀ i (h h' : Heap) (o : Obj) (nw : Led), (h.IsTupleIter I ax i ∧ h.IsTuple ax its) → h.get? I = some o → h'.get? I = some o → (∀ b o, h₀.get? b = some o → h'.get? b = some o) → News h₀ L h' nw → TupIn ax its nw → (h'.IsTupleIter I ax i ∧ h'.IsTuple ax its) :=
  fun _ _ _ _ _ st e e' _ N hs => ⟨st.1.at fun o h => by rw [h] at e; cases e; exact e', hs.tup N⟩
/-- a loop whose target is left to the walk (a cell) -/
theorem for_ownG {x : Str} {px : Pos} {body : List Stmt} {R : Result → Shared → Prop} {I : Addr} {fp : List Addr} {n : Nat} {P : Nat → Value → Prop} {St : Nat → Heap → Prop} {S : Led → Prop} {m₀ : Str → Option Value} {news₀ : Led} (J : Nat → (Str → Option Value) → Led → Prop)
    (W : Walks prog w A I fp [I] n P St) (hIo : ∀ i h, St i h → ∃ o, h.get? I = some o ∧ IterO o)
    (hSt : ∀ i h h' o nw, St i h → h.get? I = some o → h'.get? I = some o → (∀ b o, h₀.get? b = some o → h'.get? b = some o) → News h₀ env.locals h' nw → S nw → St i h')
    (F : Fr h₀ env.locals s.heap m₀) (N : News h₀ env.locals s.heap news₀) (hst : St 0 s.heap) (hIL : env.locals ≠ I) (hI₀ : h₀.get? I = none) (off : ∀ p ∈ news₀, p.1 ≠ I) (hS : S news₀) (hG : AllBare s.gens) (hJ : J 0 m₀ news₀)
    (hR : ∀ m₁ news₁ h tk g, J n m₁ news₁ → Fr h₀ env.locals h m₁ → News h₀ env.locals h news₁ → AllBare g → R (.ok .next) { s with heap := h, toks := tk, gens := g })
    (turn : ∀ i v m₁ news₁ oI h tk g (E' E'' : Value → Shared → Prop), i < n → P i v → J i m₁ news₁ → Fr h₀ env.locals h m₁ → News h₀ env.locals h ((I, oI) :: news₁) → (∀ p ∈ news₁, p.1 ≠ I) → AllBare g → S news₁ → IterO oI →
      wpAny (model prog w) A (assign (.Name x px) env v) (fun _ s₂ => wpAny (model prog w) A (execs body env) (TurnEnd h₀ env.locals s I oI S (J (i + 1)) R) E' s₂) E'' { s with heap := h, toks := tk, gens := g }) :
    codeAny (model prog w) A (.forLoop (.Name x px) (.ref I) body [] env) R s := by
  refine codeAny_forLoop (LoopO h₀ env.locals s n St (fun l => ∀ p ∈ l, p.1 ≠ I) S J) ?_ (n + 1)
    ⟨0, s.heap, s.toks, s.gens, m₀, news₀, rfl, Nat.zero_le _, rfl, hst, F, N, off, hG, hS, hJ⟩
  rintro k s' ⟨i, h, tk, g, m₁, news₁, rfl, hi, rfl, hst', F', N', off', hG', hS', hJ'⟩
  by_cases hlt : i < n
  · refine W.item i _ _ _ hlt hst' fun v h₂ tk₂ hPv hst₂ hk₂ => ?_
    have F₂ : Fr h₀ env.locals h₂ m₁ := fr_but F' hk₂ hIL hI₀
    obtain ⟨oI, heI, hIO⟩ := hIo _ _ hst₂
    have N₂ : News h₀ env.locals h₂ ((I, oI) :: news₁) := fun p hp => by
      rcases List.mem_cons.mp hp with rfl | hp
      · exact ⟨heI, Ne.symm hIL, hI₀⟩
      · exact ⟨hk₂ p.1 p.2 (by simpa using off' p hp) (N' p hp).1, (N' p hp).2⟩
    refine wpAny_mono (turn i v m₁ news₁ oI h₂ tk₂ g _ _ hlt hPv hJ' F₂ N₂ off' hG' hS' hIO) (fun _ s₃ h₃ => wpAny_mono h₃ (fun f s₄ h₄ => ?_) fun _ _ e => e) fun _ _ e => e
    have fin : EndI h₀ env.locals s.drawn s.os I oI S (J (i + 1)) s₄ → ∃ m, m < n + 1 - i ∧ LoopO h₀ env.locals s n St (fun l => ∀ p ∈ l, p.1 ≠ I) S J m s₄ := by
      rintro ⟨h', tk', g', m', news', rfl, F₅, N₅, off₅, hG₅, hS₅, hJ₅⟩
      have N₆ : News h₀ env.locals h' news' := fun p hp => N₅ p (List.mem_cons_of_mem _ hp)
      exact ⟨n + 1 - (i + 1), fin_lt hlt, i + 1, h', tk', g', m', news', rfl, hlt, rfl, hSt _ _ _ _ news' hst₂ heI (N₅ _ (.head _)).1 F₅.keep N₆ hS₅, F₅, N₆, off₅, hG₅, hS₅, hJ₅⟩
    cases f with
    | next => exact fin h₄
    | cont => exact fin h₄
    | brk => exact h₄
    | ret v => exact h₄
  · obtain rfl : i = n := Nat.le_antisymm hi (Nat.not_lt.mp hlt)
    refine W.done _ _ _ hst' fun h₂ tk₂ hk₂ => ?_
    exact wpAny_pure (hR m₁ news₁ h₂ tk₂ g hJ' (fr_but F' hk₂ hIL hI₀) (fun p hp => ⟨hk₂ p.1 p.2 (by simpa using off' p hp) (N' p hp).1, (N' p hp).2⟩) hG')
/-- a loop over a tuple of the ledger, its target left to the walk -/
theorem for_tupG {x : Str} {px : Pos} {body : List Stmt} {R : Result → Shared → Prop} {ax : Addr} {its : Array Value} {m₀ : Str → Option Value} {news₀ : Led} (J : Nat → (Str → Option Value) → Led → Prop) (hh : A.handled = none)
    (hs : TupIn ax its news₀) (F : Fr h₀ env.locals s.heap m₀) (N : News h₀ env.locals s.heap news₀) (hG : AllBare s.gens) (hJ : J 0 m₀ news₀)
    (hR : ∀ m₁ news₁ h tk g, J its.size m₁ news₁ → Fr h₀ env.locals h m₁ → News h₀ env.locals h news₁ → AllBare g → R (.ok .next) { s with heap := h, toks := tk, gens := g })
    (turn : ∀ I, (∀ p ∈ news₀, p.1 < I) → ∀ i v m₁ news₁ oI h tk g (E' E'' : Value → Shared → Prop), its[i]? = some v → J i m₁ news₁ → Fr h₀ env.locals h m₁ → News h₀ env.locals h ((I, oI) :: news₁) → (∀ p ∈ news₁, p.1 ≠ I) → AllBare g → TupIn ax its news₁ → IterO oI →
      wpAny (model prog w) A (assign (.Name x px) env v) (fun _ s₂ => wpAny (model prog w) A (execs body env) (TurnEnd h₀ env.locals s I oI (TupIn ax its) (J (i + 1)) R) E' s₂) E'' { s with heap := h, toks := tk, gens := g }) :
    wpAny (model prog w) A (pyIter (.ref ax)) (fun it s₂ => codeAny (model prog w) A (.forLoop (.Name x px) it body [] env) R s₂) E s := by
  have hl := hs.tup N
  have hlt : ax < s.heap.objs.size := by obtain ⟨_, e, _⟩ := hl; exact Heap.lt_size e
  refine wpAny_pyIter_tuple hl ?_
  refine for_ownG (s := { s with heap := s.heap.push _ }) (S := TupIn ax its) J (Walks.tuple hh s.heap.objs.size ax (Nat.ne_of_lt hlt) its) (fun i h st => by obtain ⟨o, e, _, hd⟩ := st.1; exact ⟨o, e, _, _, hd⟩) tuple_st
    (F.keeps fun _ _ e => Heap.get?_push_of_some _ e) (N.grown fun _ _ e => Heap.get?_push_of_some _ e) ⟨⟨_, Heap.get?_push_size _ rfl, rfl, rfl⟩, hl.at fun o e => Heap.get?_push_of_some _ e⟩ (Nat.ne_of_lt F.ns.lt) (next_is_new F) (fun p hp => Nat.ne_of_lt (Heap.lt_size (N p hp).1)) hs hG hJ hR ?_
  intro i v m₁ news₁ oI h tk g E' E'' hi hP hJ' F' N' off hG' hS' hIO
  exact turn _ (fun p hp => Heap.lt_size (N p hp).1) i v m₁ news₁ oI h tk g E' E'' hP hJ' F' N' off hG' hS' hIO
inductive EndC (h₀ : Heap) (L : Addr) (dr : Drawn) (os : OsState) (I : Addr) (oI : Obj) (cA : Addr) (S : Led → Prop) (J : (Str → Option Value) → Led → Prop) (s' : Shared) : Prop
  | mk (h' : Heap) (tk : Nat) (g : Array GenState) (m' : Str → Option Value) (oc : Obj) (c : Option Value) (news' : Led) (e : s' = ⟨h', g, dr, tk, os⟩) (F : Fr h₀ L h' m') (N : News h₀ L h' ((I, oI) :: (cA, oc) :: news')) (hc : oc.data = .cell c) (off : ∀ p ∈ news', p.1 ≠ I ∧ p.1 ≠ cA) (G : AllBare g) (hS : S news') (hJ : J m' news') : EndC h₀ L dr os I oI cA S J s'
/-- what must hold where a turn of a loop with a cell for target ends -/
noncomputable def TurnEndC (h₀ : Heap) (L : Addr) (s : Shared) (I : Addr) (oI : Obj) (cA : Addr) (S : Led → Prop) (J : (Str → Option Value) → Led → Prop) (R : Result → Shared → Prop) (f : Flow) (s' : Shared) : Prop :=
  match f with
  | .next | .cont => EndC h₀ L s.drawn s.os I oI cA S J s'
  | .brk => R (.ok .next) s'
  | .ret v => R (.ok (.ret v)) s'
theorem TurnEndC.intro {L : Addr} {I : Addr} {oI : Obj} {cA : Addr} {S : Led → Prop} {J : (Str → Option Value) → Led → Prop} {R : Result → Shared → Prop} {h' : Heap} {tk : Nat} {g : Array GenState} {m' : Str → Option Value} {oc : Obj} {c : Option Value} {all : Led} (F : Fr h₀ L h' m') (N : News h₀ L h' all) (news' : Led)
    (sub : ∀ p ∈ (I, oI) :: (cA, oc) :: news', p ∈ all) (hc : oc.data = .cell c) (off : ∀ p ∈ news', p.1 ≠ I ∧ p.1 ≠ cA) (hG : AllBare g) (hS : S news') (hJ : J m' news') : TurnEndC h₀ L s I oI cA S J R .next { s with heap := h', toks := tk, gens := g } :=
  ⟨h', tk, g, m', oc, c, news', rfl, F, fun p hp => N p (sub p hp), hc, off, hG, hS, hJ⟩
theorem ne_cell {h : Heap} {L b cA : Addr} {o oc : Obj} {c : Option Value} {news : Led} (N : News h₀ L h news) (hm : (cA, oc) ∈ news) (hd : oc.data = .cell c) (hp : (b, o) ∈ news) (ho : ∀ c, o.data ≠ .cell c) : b ≠ cA := by
  intro e
  subst e
  have := (N _ hm).1
  rw [(N _ hp).1] at this
  cases this
  exact ho _ hd
inductive CellJ (cA ax : Addr) (its : Array Value) (J : Nat → (Str → Option Value) → Led → Prop) (i : Nat) (m₁ : Str → Option Value) (news₁ : Led) : Prop
  | mk (oc : Obj) (c : Option Value) (news₂ : Led) (e : news₁ = (cA, oc) :: news₂) (hc : oc.data = .cell c) (ne : ∀ p ∈ news₂, p.1 ≠ cA) (hs : TupIn ax its news₂) (hJ : J i m₁ news₂) : CellJ cA ax its J i m₁ news₁
theorem for_tupC {x : Str} {px : Pos} {body : List Stmt} {R : Result → Shared → Prop} {ax cA : Addr} {its : Array Value} {m₀ : Str → Option Value} {news₀ : Led} {oc : Obj} {c : Option Value} (J : Nat → (Str → Option Value) → Led → Prop) (hh : A.handled = none) (hk : env.scope.kind = .function) (hl : env.kindOf x = some .cell) (hcl : env.cells.lookup x = some cA)
    (hs : TupIn ax its news₀) (F : Fr h₀ env.locals s.heap m₀) (N : News h₀ env.locals s.heap ((cA, oc) :: news₀)) (hd : oc.data = .cell c) (ne : ∀ p ∈ news₀, p.1 ≠ cA) (hG : AllBare s.gens) (hJ : J 0 m₀ news₀)
    (hR : ∀ m₁ news₁ oc c h tk g, J its.size m₁ news₁ → oc.data = .cell c → Fr h₀ env.locals h m₁ → News h₀ env.locals h ((cA, oc) :: news₁) → (∀ p ∈ news₁, p.1 ≠ cA) → AllBare g → R (.ok .next) { s with heap := h, toks := tk, gens := g })
    (turn : ∀ I, (∀ p ∈ (cA, oc) :: news₀, p.1 < I) → ∀ (i : Nat) v m₁ news₁ oI oc h tk g (E' : Value → Shared → Prop), its[i]? = some v → J i m₁ news₁ → oc.data = .cell (some v) → Fr h₀ env.locals h m₁ → News h₀ env.locals h ((I, oI) :: (cA, oc) :: news₁) → (∀ p ∈ news₁, p.1 ≠ I ∧ p.1 ≠ cA) → I ≠ cA → AllBare g → TupIn ax its news₁ → IterO oI →
      wpAny (model prog w) A (execs body env) (TurnEndC h₀ env.locals s I oI cA (TupIn ax its) (J (i + 1)) R) E' { s with heap := h, toks := tk, gens := g }) :
    wpAny (model prog w) A (pyIter (.ref ax)) (fun it s₂ => codeAny (model prog w) A (.forLoop (.Name x px) it body [] env) R s₂) E s := by
  have up : ∀ {oc news}, TupIn ax its news → TupIn ax its ((cA, oc) :: news) := fun H => H.elim fun o h => ⟨o, .tail _ h.1, h.2⟩
  refine for_tupG (CellJ cA ax its J) hh (up hs) F N hG ⟨oc, c, news₀, rfl, hd, ne, hs, hJ⟩ ?_ ?_
  · rintro m₁ news₁ h tk g ⟨oc, c, news₂, rfl, hc, ne', _, hJ'⟩ F' N' G'
    exact hR m₁ news₂ oc c h tk g hJ' hc F' N' ne' G'
  · rintro I hI i v m₁ news₁ oI h tk g E' E'' hi ⟨oc, c, news₂, rfl, hc, ne', hs', hJ'⟩ F' N' off G' _ hIO
    have hIc : I ≠ cA := fun e => off (cA, oc) (.head _) e.symm
    have hcm := N' (cA, oc) (.tail _ (.head _))
    refine wpAny_assign_Name (wpAny_storeName_cell hk hl hcl ⟨oc, hcm.1, hc⟩ fun h₃ hv hs₃ => ?_)
    obtain ⟨oc', ho', hd'⟩ := hv
    have F₃ : Fr h₀ env.locals h₃ m₁ := ⟨F'.ns.sameBut hs₃ (Ne.symm hcm.2.1), fun b o e => (hs₃.2 b fun q => by rw [q, hcm.2.2] at e; cases e).trans (F'.keep b o e), F'.above⟩
    have N₃ : News h₀ env.locals h₃ ((I, oI) :: (cA, oc') :: news₂) := fun p hp => by
      rcases List.mem_cons.mp hp with rfl | hp
      · exact ⟨(hs₃.2 _ hIc).trans (N' _ (.head _)).1, (N' _ (.head _)).2⟩
      · rcases List.mem_cons.mp hp with rfl | hp
        · exact ⟨ho', hcm.2⟩
        · exact ⟨(hs₃.2 _ (ne' p hp)).trans (N' _ (.tail _ (.tail _ hp))).1, (N' _ (.tail _ (.tail _ hp))).2⟩
    refine wpAny_mono (turn I hI i v m₁ news₂ oI oc' h₃ tk g E' hi hJ' hd' F₃ N₃ (fun p hp => ⟨off p (.tail _ hp), ne' p hp⟩) hIc G' hs' hIO) (fun f s₄ h₄ => ?_) fun _ _ e => e
    have fin : EndC h₀ env.locals s.drawn s.os I oI cA (TupIn ax its) (J (i + 1)) s₄ → EndI h₀ env.locals s.drawn s.os I oI (TupIn ax its) (CellJ cA ax its J (i + 1)) s₄ := by
      rintro ⟨h', tk', g', m', oc, c, news', rfl, F₅, N₅, hc₅, off₅, hG₅, hS₅, hJ₅⟩
      refine ⟨h', tk', g', m', _, rfl, F₅, N₅, fun p hp => ?_, hG₅, up hS₅, oc, c, news', rfl, hc₅, fun p hp => (off₅ p hp).2, hS₅, hJ₅⟩
      rcases List.mem_cons.mp hp with rfl | hp
      · exact Ne.symm hIc
      · exact (off₅ p hp).1
    cases f with
    | next => exact fin h₄
    | cont => exact fin h₄
    | brk => exact h₄
    | ret v => exact h₄
end
end SR
end
section
open PySem PySem.W PyProof.Rows PySem.Calls PySem.Spec LCg
set_option Elab.async false
set_option maxRecDepth 100000
namespace SR
theorem rows_SRza_1 : True := by
  k_with_none
  k_with "execs cons" => (k_here; (fail_if_success with_reducible show wpAny _ Aq _ _ _ _); (try k_fold); refine' a_let ?_; intro Aq)
  k_with "execs cons" => (k_here; (fail_if_success with_reducible show wpAny _ _ _ _ _ ⟨_, _, _, tkq, _⟩); refine' tok_all ?_; intro tkq; dsimp only)
  k_with "execs cons" => (k_here; (fail_if_success refine' m_is (m := mq) (by with_reducible assumption) ?_); refine' m_let ?zzF ?_; (case zzF => k_asm); intro mq Fq; dsimp only at Fq)
  k_with "k_room" => (first | exact room_k (k := 0) (by assumption) (by decide) | exact room_k (k := 1) (by assumption) (by decide) | exact room_k (k := 2) (by assumption) (by decide) | exact room_k (k := 3) (by assumption) (by decide) | exact room_k (k := 4) (by assumption) (by decide) | ktr_room)
  k_with "ktr_room" => (first | exact room_k (k := 0) (by assumption) (by decide) | exact room_k (k := 1) (by assumption) (by decide) | exact room_k (k := 2) (by assumption) (by decide) | exact room_k (k := 3) (by assumption) (by decide) | exact room_k (k := 4) (by assumption) (by decide))
  k_with "k_units" => (first | exact unit_k (k := 3) (by assumption) rfl (by decide) | exact unit_k (k := 0) (by assumption) rfl (by decide) | exact unit_k (k := 6) (by assumption) rfl (by decide) | exact unit_k (k := 4) (by assumption) rfl (by decide) | exact unit_k (k := 7) (by assumption) rfl (by decide) | exact unit_k (k := 9) (by assumption) rfl (by decide) | exact unit_k (k := 1) (by assumption) rfl (by decide) | ktr_units)
  k_with "ktr_units" => (first | exact unit_k (k := 3) (by assumption) rfl (by decide) | exact unit_k (k := 0) (by assumption) rfl (by decide) | exact unit_k (k := 6) (by assumption) rfl (by decide) | exact unit_k (k := 4) (by assumption) rfl (by decide) | exact unit_k (k := 7) (by assumption) rfl (by decide) | exact unit_k (k := 9) (by assumption) rfl (by decide) | exact unit_k (k := 1) (by assumption) rfl (by decide))
  k_with "units_room" => (first | exact unit_k (k := 3) (by assumption) rfl (by decide) | exact unit_k (k := 0) (by assumption) rfl (by decide) | exact unit_k (k := 6) (by assumption) rfl (by decide) | exact unit_k (k := 4) (by assumption) rfl (by decide) | exact unit_k (k := 7) (by assumption) rfl (by decide) | exact unit_k (k := 9) (by assumption) rfl (by decide) | exact unit_k (k := 1) (by assumption) rfl (by decide))
  k_with "k_all" => (first | assumption | exact allLt_ne (by assumption) (Nat.le_refl _))
  k_with "k_mem" => (assumption)
  k_with "eval ListComp" => (k_here; k_dflt (refine ListComp_O (_F₀ := by k_asm) (by with_unfolding_all rfl) (by decide) (by rfl) (by decide) (by rfl) ?_))
  k_with "exec Assign cons ListComp" => (k_here; k_dflt (refine Assign_ListComp_O (_F₀ := by k_asm) (by rfl) (by with_unfolding_all rfl) (by with_unfolding_all rfl) (by decide) (by rfl) (by decide) (by rfl) (by rfl) (by rfl) ?_))
  trivial
/-- what a comprehension over the heaps keeps: the entry ahead, the code table, the rest -/
noncomputable def StrsJ (e : Addr × Obj) (rest : Led) (ns : List Nat) (i : Nat) (ys : List Value) (news₁ : Led) : Prop :=
  ∃ o' ps', news₁ = e :: (149, o') :: rest ∧ IsTab o' ps' ∧ TriplesOk ps'.toList ∧ StrsAre ys ((ns.take i).map fun n => blanks n ++ Str.ofString "\t")
section
variable {prog : Program} {w : World} {A : Around} {E : Value → Shared → Prop} {s : Shared} {h₀ : Heap} {L : Addr} {m : Str → Option Value} {env : Env}
theorem strs_src {mm : Addr → Str → Option Value} {elt : PySem.Expr} {x : Str} {ifs : List PySem.Expr} {scope : Scope} {cl : List (Str × Addr)} {Q' : Addr → Shared → Prop} {H : Addr} {xs : List Addr} {ns : List Nat} {k : Nat} {e : Addr × Obj} {o : Obj} {ps : Array Value} {rest : Led}
    (hh : A.handled = none) (F : Fr h₀ L s.heap m) (N : News h₀ L s.heap (e :: (149, o) :: rest)) (hG : AllBare s.gens) (ho : IsTab o ps) (htr : TriplesOk ps.toList) (hH : (H, listOf (xs.map Value.ref).toArray k) ∈ rest) (hx : xs.length = 4) (hn : ns.length = 4)
    (turn : ∀ (I C D : Addr) (i : Nat) (x₁ : Addr) (n : Nat) ys o' ps' oI oC m₂ h tk g (E' : Value → Shared → Prop), xs[i]? = some x₁ → ns[i]? = some n → StrsAre ys ((ns.take i).map fun n => blanks n ++ Str.ofString "\t") → IsTab o' ps' → TriplesOk ps'.toList → NsObj oC m₂ → m₂ x = some (.ref x₁) → Fr h₀ L h m → News h₀ L h ((I, oI) :: (C, oC) :: (D, lst ys) :: e :: (149, o') :: rest) → (∀ p ∈ e :: (149, o') :: rest, p.1 ≠ I ∧ p.1 ≠ C ∧ p.1 ≠ D) → ((@Ne Nat I C) ∧ (@Ne Nat I D) ∧ (@Ne Nat C D)) → AllBare g →
      wpAny (model prog w) A (testsOf ifs (compEnvC scope cl C env)) (fun ok s' => if ok = true then
        wpAny (model prog w) A (eval elt (compEnvC scope cl C env)) (CompEndO h₀ L m s I oI C D ys (SrcAt h₀ H (xs.map Value.ref).toArray) (fun y news' => StrsJ e rest ns (i + 1) (ys ++ [y]) news') oC) E' s'
        else CompEndO h₀ L m s I oI C D ys (SrcAt h₀ H (xs.map Value.ref).toArray) (fun _ news' => StrsJ e rest ns (i + 1) ys news') oC .none s') E' { s with heap := h, toks := tk, gens := g })
    (done : ∀ D ys o' ps' h tk g, StrsAre ys (ns.map fun n => blanks n ++ Str.ofString "\t") → IsTab o' ps' → TriplesOk ps'.toList → Fr h₀ L h (mm D) → News h₀ L h ((D, lst ys) :: e :: (149, o') :: rest) → (∀ p ∈ e :: (149, o') :: rest, p.1 ≠ D) → AllBare g → Q' D { s with heap := h, toks := tk, gens := g }) :
    SrcO prog w A h₀ L m mm env elt x ifs scope cl Q' (.ref H) s := by
  have hsz : (xs.map Value.ref).toArray.size = 4 := by simp [hx]
  refine SrcO.list hh F N hG (.inr ⟨_, .tail _ (.tail _ hH), rfl, _, rfl⟩) (by rw [hsz, sizeLine_eq]; omega) (StrsJ e rest ns) ⟨o, ps, rfl, ho, htr, by simpa using StrsAre.nil⟩ ?_ ?_
  · rintro I hI i v ys news₁ oI C oC D m₂ h tk g E' hi hyl hP ⟨o', ps', rfl, ho', htr', hys⟩ hoC hm F' N' off ne hG' hS'
    obtain ⟨x₁, hx₁⟩ : ∃ x₁, xs[i]? = some x₁ := ⟨xs[i], List.getElem?_eq_getElem (by omega)⟩
    obtain ⟨n, hn₁⟩ : ∃ n, ns[i]? = some n := ⟨ns[i], List.getElem?_eq_getElem (by omega)⟩
    have hv : v = .ref x₁ := by
      have : (xs.map Value.ref)[i]? = some v := by simpa using hP
      rw [List.getElem?_map, hx₁] at this
      exact (Option.some.inj this).symm
    subst hv
    exact turn I C D i x₁ n ys o' ps' oI oC m₂ h tk g E' hx₁ hn₁ hys ho' htr' hoC hm F' N' off ne hG'
  · rintro D ys news' h tk g ⟨o', ps', rfl, ho', htr', hys⟩ F' N' off hG'
    rw [hsz, List.take_of_length_le (by omega)] at hys
    exact done D ys o' ps' h tk g hys ho' htr' F' N' off hG'
end
section
variable {prog : Program} {w : World} {A : Around} {E : Value → Shared → Prop} {s : Shared} {h₀ : Heap} {L : Addr} {m : Str → Option Value} {env : Env}
theorem counts_src {mm : Addr → Str → Option Value} {elt : PySem.Expr} {x : Str} {ifs : List PySem.Expr} {scope : Scope} {cl : List (Str × Addr)} {Q' : Addr → Shared → Prop} {H : Addr} {xs : List Addr} {ns : List Nat} {k : Nat} {base : Led}
    (hh : A.handled = none) (F : Fr h₀ L s.heap m) (N : News h₀ L s.heap base) (hG : AllBare s.gens) (hH : (H, listOf (xs.map Value.ref).toArray k) ∈ base) (hx : xs.length = 4) (hn : ns.length = 4)
    (turn : ∀ (I C D : Addr) (i : Nat) (x₁ : Addr) (n : Nat) ys oI oC m₂ h tk g (E' : Value → Shared → Prop), xs[i]? = some x₁ → ns[i]? = some n → IntsAre ys ((ns.take i).map fun n : Nat => (n : Int)) → NsObj oC m₂ → m₂ x = some (.ref x₁) → Fr h₀ L h m → News h₀ L h ((I, oI) :: (C, oC) :: (D, lst ys) :: base) → (∀ p ∈ base, p.1 ≠ I ∧ p.1 ≠ C ∧ p.1 ≠ D) → ((@Ne Nat I C) ∧ (@Ne Nat I D) ∧ (@Ne Nat C D)) → AllBare g →
      wpAny (model prog w) A (testsOf ifs (compEnvC scope cl C env)) (fun ok s' => if ok = true then
        wpAny (model prog w) A (eval elt (compEnvC scope cl C env)) (CompEndO h₀ L m s I oI C D ys (SrcAt h₀ H (xs.map Value.ref).toArray) (fun y news' => news' = base ∧ IntsAre (ys ++ [y]) ((ns.take (i + 1)).map fun n : Nat => (n : Int))) oC) E' s'
        else CompEndO h₀ L m s I oI C D ys (SrcAt h₀ H (xs.map Value.ref).toArray) (fun _ news' => news' = base ∧ IntsAre ys ((ns.take (i + 1)).map fun n : Nat => (n : Int))) oC .none s') E' { s with heap := h, toks := tk, gens := g })
    (done : ∀ D ys h tk g, IntsAre ys (ns.map fun n : Nat => (n : Int)) → Fr h₀ L h (mm D) → News h₀ L h ((D, lst ys) :: base) → (∀ p ∈ base, p.1 ≠ D) → AllBare g → Q' D { s with heap := h, toks := tk, gens := g }) :
    SrcO prog w A h₀ L m mm env elt x ifs scope cl Q' (.ref H) s := by
  have hsz : (xs.map Value.ref).toArray.size = 4 := by simp [hx]
  refine SrcO.list hh F N hG (.inr ⟨_, hH, rfl, _, rfl⟩) (by rw [hsz, sizeLine_eq]; omega) (fun i ys news₁ => news₁ = base ∧ IntsAre ys ((ns.take i).map fun n : Nat => (n : Int))) ⟨rfl, by simpa using IntsAre.nil⟩ ?_ ?_
  · rintro I hI i v ys news₁ oI C oC D m₂ h tk g E' hi hyl hP ⟨rfl, hys⟩ hoC hm F' N' off ne hG' hS'
    obtain ⟨x₁, hx₁⟩ : ∃ x₁, xs[i]? = some x₁ := ⟨xs[i], List.getElem?_eq_getElem (by omega)⟩
    obtain ⟨n, hn₁⟩ : ∃ n, ns[i]? = some n := ⟨ns[i], List.getElem?_eq_getElem (by omega)⟩
    have hv : v = .ref x₁ := by
      have : (xs.map Value.ref)[i]? = some v := by simpa using hP
      rw [List.getElem?_map, hx₁] at this
      exact (Option.some.inj this).symm
    subst hv
    exact turn I C D i x₁ n ys oI oC m₂ h tk g E' hx₁ hn₁ hys hoC hm F' N' off ne hG'
  · rintro D ys news' h tk g ⟨rfl, hys⟩ F' N' off hG'
    rw [hsz, List.take_of_length_le (by omega)] at hys
    exact done D ys h tk g hys F' N' off hG'
end
theorem counts_end {h₀ h' : Heap} {L : Addr} {m : Str → Option Value} {s : Shared} {I C D H : Addr} {oI oC : Obj} {xs : List Addr} {ns : List Nat} {ys : List Value} {k i n : Nat} {t : Tok} {base : Led} {tk : Nat} {g : Array GenState} (F : Fr h₀ L h' m) (N : News h₀ L h' ((I, oI) :: (C, oC) :: (D, lst ys) :: base))
    (off : ∀ p ∈ base, p.1 ≠ I ∧ p.1 ≠ C ∧ p.1 ≠ D) (hG : AllBare g) (hH : (H, listOf (xs.map Value.ref).toArray k) ∈ base) (hn : ns[i]? = some n) (hys : IntsAre ys ((ns.take i).map fun n : Nat => (n : Int))) :
    CompEndO h₀ L m s I oI C D ys (SrcAt h₀ H (xs.map Value.ref).toArray) (fun y news' => news' = base ∧ IntsAre (ys ++ [y]) ((ns.take (i + 1)).map fun n : Nat => (n : Int))) oC (.int n t) { s with heap := h', toks := tk, gens := g } := by
  refine CompEndO.intro F N _ (fun p hp => hp) off hG (.inr ⟨_, hH, rfl, _, rfl⟩) ⟨rfl, ?_⟩
  rw [List.take_add_one, hn, List.map_append]
  exact hys.append (.cons _ _ .nil)
theorem rows_SRza_2 : True := by
  k_with "exec For Name Tuple cons nil" => (k_here; k_dflt (refine wpAny_For ?_))
  trivial
theorem is_str180 (P : Params) : findIn (SR.hm.heap_1 P) (.ref 180) "__str__" = some (some (.ref 154)) := by kernel_rfl
theorem fn_154 (P : Params) : isFn (SR.hm.heap_1 P) (.ref 154) = true := by kernel_rfl
theorem Hp.mono {news news' : Led} {x : Addr} {n : Nat} (H : Hp news x n) (h : ∀ p ∈ news, p ∈ news') : Hp news' x n := by
  obtain ⟨d, hsh, tk, tk', ep, pcs, h1, h2, h3, h4⟩ := H; exact ⟨d, hsh, tk, tk', ep, pcs, h _ h1, h _ h2, fun q hq => h _ (h3 q hq), h4⟩
theorem Hp.in {h₀ h : Heap} {L : Addr} {news news' : Led} {x : Addr} {n : Nat} (_N : News h₀ L h news') (H : Hp news x n) (sub : ∀ p ∈ news, p ∈ news') : Hp news' x n := H.mono sub
theorem str_call {w : World} {p : Program} {loose : List Str} {mean : ExcName → Option Value} {mg mb : Str → Option Value} {dp un : Nat} {gd : Option (List Code)} {cn : Str} {cs : Scope} {a : Addr} {ccd : Value} {cl : List (Str × Addr)} {outer : List Env} {A₀ : Around} {base h₀ : Heap} {L : Addr} {m : Str → Option Value} {s : Shared} {Q E : Value → Shared → Prop}
    {a1 a2 a3 e : Addr × Obj} {o : Obj} {ps : Array Value} {rest : Led} {x : Addr} {n : Nat} (B : Below A₀ base outer h₀) (F : Fr h₀ L s.heap m) (X : (SR.hm.heap_1 w.params).In h₀) (N : News h₀ L s.heap (a1 :: a2 :: a3 :: e :: (149, o) :: rest)) (T : Top p loose mean mg mb h₀) (hk : cs.kind = .function) (hG : AllBare s.gens) (hd : dp + 20 < recursionLimit) (hu : un + 120 < cLine)
    (ho : IsTab o ps) (htr : TriplesOk ps.toList) (hr : ∀ p ∈ a1 :: a2 :: a3 :: e :: rest, p.1 ≠ 149) (H : Hp rest x n) (hz : n ≤ 1000)
    (ret : ∀ t o' ps' h' tk g, Fr h₀ L h' m → News h₀ L h' (a1 :: a2 :: a3 :: e :: (149, o') :: rest) → AllBare g → IsTab o' ps' → TriplesOk ps'.toList → Q (.str (blanks n) t) { s with heap := h', toks := tk, gens := g }) :
    wpAny (model PySem.Challenge.rw_sr0056_01.row.prog w) (ktrTop dp un gd cn cs L a ccd cl outer) (call (.type "str") [.ref x]) Q E s := by
  have mv : ∀ o' : Obj, ∀ p ∈ (149, o') :: a1 :: a2 :: a3 :: e :: rest, p ∈ a1 :: a2 :: a3 :: e :: (149, o') :: rest := by
    intro o' p hp
    simp only [List.mem_cons] at hp ⊢
    rcases hp with h | h | h | h | h | h <;> simp [h]
  have mv' : ∀ o' : Obj, ∀ p ∈ a1 :: a2 :: a3 :: e :: (149, o') :: rest, p ∈ (149, o') :: a1 :: a2 :: a3 :: e :: rest := by
    intro o' p hp
    simp only [List.mem_cons] at hp ⊢
    rcases hp with h | h | h | h | h | h <;> simp [h]
  have N' : News h₀ L s.heap ((149, o) :: a1 :: a2 :: a3 :: e :: rest) := cb_drop N (mv o)
  obtain ⟨d, hsh, tk0, tk1, ep, pcs, h1, h2, h3, h4⟩ := id H
  have up : ∀ {q : Addr × Obj}, q ∈ rest → q ∈ (149, o) :: a1 :: a2 :: a3 :: e :: rest := fun h => .tail _ (.tail _ (.tail _ (.tail _ (.tail _ h))))
  have cL := cLine_is
  refine kso_call (K := SR.hm.heap_1 w.params) (C := 180) (f := 154) ?_ (X.keeps F.keep) (acc_inst N' (up h1) (up h2)) (is_str180 _) (fn_154 _) ?_
  · show un + 1 + 1 < cLine
    omega
  refine tell_use (C := tell_strH w (a1 :: a2 :: a3 :: e :: rest) hr o ps ho htr x n (H.mono fun q hq => .tail _ (.tail _ (.tail _ (.tail _ hq)))) hz) B F X N' T hk hG hd ?_ ?_
  · show un + 1 + 1 + 100 < cLine
    omega
  · rintro r news' h' tk' g' F' N'' G' ⟨⟨t, rfl⟩, o', ps', rfl, ho', htr'⟩
    exact ret t o' ps' h' tk' g' F' (cb_drop N'' (mv' o')) G' ho' htr'
theorem strs_end {h₀ h' : Heap} {L : Addr} {m : Str → Option Value} {s : Shared} {I C D H : Addr} {oI oC o' : Obj} {ps' : Array Value} {xs : List Addr} {ns : List Nat} {ys : List Value} {k i n : Nat} {t : Tok} {e : Addr × Obj} {rest : Led} {tk : Nat} {g : Array GenState} (F : Fr h₀ L h' m) (N : News h₀ L h' ((I, oI) :: (C, oC) :: (D, lst ys) :: e :: (149, o') :: rest))
    (off : ∀ p ∈ e :: (149, o') :: rest, p.1 ≠ I ∧ p.1 ≠ C ∧ p.1 ≠ D) (hG : AllBare g) (ho : IsTab o' ps') (htr : TriplesOk ps'.toList) (hH : (H, listOf (xs.map Value.ref).toArray k) ∈ rest) (hn : ns[i]? = some n) (hys : StrsAre ys ((ns.take i).map fun n => blanks n ++ Str.ofString "\t")) :
    CompEndO h₀ L m s I oI C D ys (SrcAt h₀ H (xs.map Value.ref).toArray) (fun y news' => StrsJ e rest ns (i + 1) (ys ++ [y]) news') oC (.str (blanks n ++ Str.ofString "\t") t) { s with heap := h', toks := tk, gens := g } := by
  refine CompEndO.intro F N _ (fun p hp => hp) off hG (.inr ⟨_, .tail _ (.tail _ hH), rfl, _, rfl⟩) ⟨o', ps', rfl, ho, htr, ?_⟩
  rw [List.take_add_one, hn, List.map_append]
  have app : ∀ {a b : List Value} {c d : List Str}, StrsAre a c → StrsAre b d → StrsAre (a ++ b) (c ++ d) := by
    intro a b c d h1 h2
    induction h1 with
    | nil => exact h2
    | cons x t _ ih => exact .cons x t ih
  exact app hys (.cons _ _ .nil)
theorem slen_app (a b : Str) : (a ++ b).length = a.length + b.length := by
  show (a.cps ++ b.cps).size = _
  rw [Array.size_append]; rfl
theorem slen_blanks (n : Nat) : (blanks n).length = n := by show (List.replicate n 32).toArray.size = n; simp
theorem slen_tab : (Str.ofString "\t").length = 1 := by decide +kernel
theorem slen_x : (Str.ofString "x \t").length = 3 := by decide +kernel
theorem add_fit {prog : Program} {w : World} {A : Around} {E : Value → Shared → Prop} {s : Shared} {x y : Str} {t u : Tok} {Q : Value → Shared → Prop} (hsz : x.length + y.length ≤ 1000) (h : ∀ t' tk, Q (.str (x ++ y) t') { s with toks := tk }) : wpAny (model prog w) A (binaryOp .Add (.str x t) (.str y u)) Q E s :=
  PyProof.Rows.add_str h (Nat.le_trans hsz (by rw [sizeLine_eq]; omega))
theorem mul_tab (n : Nat) (h : n ≤ 2) : (Txt.mul (Str.ofString "\t") (n : Int)).cps.toList = List.replicate n 9 := by
  have : n = 0 ∨ n = 1 ∨ n = 2 := by omega
  rcases this with rfl | rfl | rfl <;> decide +kernel
theorem mul_blank (n : Nat) (h : n ≤ 2) : (Txt.mul (Str.ofString " ") (n : Int)).cps.toList = List.replicate n 32 := by
  have : n = 0 ∨ n = 1 ∨ n = 2 := by omega
  rcases this with rfl | rfl | rfl <;> decide +kernel
theorem slen_of {x : Str} {l : List Nat} (h : x.cps.toList = l) : x.length = l.length := by
  rw [← h]; show x.cps.size = _; simp
theorem lead_text (ns : List Nat) : (Txt.join (Str.ofString "") (ns.map fun n => blanks n ++ Str.ofString "\t")).cps.toList = lead ns := by
  rw [join_cps, List.map_map]
  unfold lead
  congr 2
  funext n
  show (blanks n ++ Str.ofString "\t").cps.toList = _
  show ((blanks n).cps ++ (Str.ofString "\t").cps).toList = _
  rw [Array.toList_append]
  congr 1
theorem lead_len (ns : List Nat) (hn : ns.length = 4) (hs : ∀ n ∈ ns, n ≤ 7) : (lead ns).length ≤ 32 := by
  obtain ⟨a, b, c, d, rfl⟩ := four_of hn
  have h1 := hs a (by simp)
  have h2 := hs b (by simp)
  have h3 := hs c (by simp)
  have h4 := hs d (by simp)
  simp [lead]
  omega
theorem join_lead {prog : Program} {w : World} {A : Around} {E : Value → Shared → Prop} {s : Shared} {h₀ : Heap} {L D : Addr} {news : Led} {ys : List Value} {ns : List Nat} {t : Tok} {Q : Value → Shared → Prop} (N : News h₀ L s.heap news) (hm : (D, lst ys) ∈ news) (hys : StrsAre ys (ns.map fun n => blanks n ++ Str.ofString "\t")) (hn : ns.length = 4) (hs : ∀ n ∈ ns, n ≤ 7)
    (h : ∀ (J : Str) t' k, J.cps.toList = lead ns → J.length ≤ 32 → Q (.str J t') { s with toks := k }) : wpAny (model prog w) A (call (.builtin "str.join") [.str (Str.ofString "") t, .ref D]) Q E s := by
  have h0 : (Str.ofString "").length = 0 := by show (Str.ofString "").cps.size = 0; rw [empty_cps]; rfl
  have ht := lead_text ns
  refine join_list (items := ys.toArray) (ys := ns.map fun n => blanks n ++ Str.ofString "\t") ⟨_, (N _ hm).1, rfl, _, rfl⟩ (by simpa using hys) ?_ fun t' k => h _ t' k ht (by rw [slen_of ht]; exact lead_len ns hn hs)
  rw [h0]
  obtain ⟨a, b, c, d, rfl⟩ := four_of hn
  have h1 := hs a (by simp)
  have h2 := hs b (by simp)
  have h3 := hs c (by simp)
  have h4 := hs d (by simp)
  simp [slen_app, slen_blanks, slen_tab]
  omega
theorem rows_SRza_3 : True := by
  k_with "call builtin:str.join" => (k_here; k_dflt (refine' join_lead ?z40N ?z40m ?z40y ?z40n ?z40s ?_; (case z40N => k_asm); (case z40m => first | exact List.Mem.head _ | k_mem); (case z40y => assumption); (case z40n => assumption); (case z40s => assumption)); intro J'q t'q tk'q hJ'q hJl'q)
  k_with "binaryOp Add str str" => (k_here; k_dflt (refine' add_fit ?z40hsz ?_; (case z40hsz => (simp only [slen_app, slen_blanks, slen_tab, slen_x]; omega))); intro t'q tk'q)
  trivial
theorem typed_text {J a b : Str} {ns : List Nat} {tabs spare : Nat} (hJ : J.cps.toList = lead ns) (hT : a.cps.toList = List.replicate tabs 9) (hS : b.cps.toList = List.replicate spare 32) : (J ++ a ++ b ++ Str.ofString "x \t").cps.toList = typed ns tabs spare ++ 120 :: [32, 9] := by
  show (((J.cps ++ a.cps) ++ b.cps) ++ (Str.ofString "x \t").cps).toList = _
  have hx : (Str.ofString "x \t").cps.toList = [120, 32, 9] := by decide +kernel
  rw [Array.toList_append, Array.toList_append, Array.toList_append, hJ, hT, hS, hx]
  unfold typed
  simp
/-- what the nanny reads off a lead -/
structure Lead (ns : List Nat) (tabs spare : Nat) (σ : Ws) : Prop where
  b : σ.b = spare
  nt : σ.nt = 4 + tabs
  len : σ.cnt.length ≤ 1000
  cells : ∀ j, 0 ≤ σ.cnt.getD j 0 ∧ σ.cnt.getD j 0 ≤ 1000
  il : ∀ size : Nat, 1 ≤ size → ilAt σ.cnt size (σ.cnt.length - size) = (ns.map fun n => ((n / size : Nat) : Int)).sum
theorem lead_of (ns : List Nat) (tabs spare : Nat) (hs : ∀ n ∈ ns, n ≤ 7) (hn : ns.length = 4) (ht : tabs ≤ 2) (hsp : spare ≤ 2) : Lead ns tabs spare (wsAt (typed ns tabs spare) (typed ns tabs spare).length) := by
  have hl := typed_len ns tabs spare hs hn ht hsp
  obtain ⟨b1, b2, b3, b4, b5, b6⟩ := wsAt_bounds (typed ns tabs spare) _ (Nat.le_refl _)
  have hc := ws_cells (typed ns tabs spare) _ (Nat.le_refl _)
  obtain ⟨c1, c2, _⟩ := ws_typed (fun _ => 0) rfl ns tabs spare
  refine ⟨c1, by rw [c2, hn]; rfl, by omega, fun j => ⟨(hc j).1, Int.le_trans (hc j).2 (by omega)⟩, fun size h1 => ?_⟩
  rw [ilAt_wsum size h1]
  exact (ws_typed (fun j => ((j / size : Nat) : Int)) (by simp) ns tabs spare).2.2
theorem tell_lead (w : World) (rest : Led) (txt : Str) (t : Tok) (ns : List Nat) (tabs spare : Nat) (ht : txt.cps.toList = typed ns tabs spare ++ 120 :: [32, 9]) (hs : ∀ n ∈ ns, n ≤ 7) (hn : ns.length = 4) (h1 : tabs ≤ 2) (h2 : spare ≤ 2) :
    Tell w 83 [.str txt t] 40 200 rest (fun r news' => ∃ σ, Lead ns tabs spare σ ∧ WsOk w σ rest r news') := by
  have := tell_ws w rest txt t (typed ns tabs spare) [32, 9] ht (typed_signs ns tabs spare) (by decide) (Nat.le_trans (typed_len ns tabs spare hs hn h1 h2) (by decide))
  intro p loose mean mg mb dp un gd cn cs a ccd cl outer A₀ base h₀ L m s Q E B F X N T hk hG hd hu ret
  exact this p loose mean mg mb dp un gd cn cs a ccd cl outer A₀ base h₀ L m s Q E B F X N T hk hG hd hu fun r news' h' tk' g' F' N' G' P' => ret r news' h' tk' g' F' N' G' ⟨_, lead_of ns tabs spare hs hn h1 h2, P'⟩
end SR
end
section
open PySem PySem.W PyProof.Rows PySem.Calls PySem.Spec LCg
set_option Elab.async false
set_option maxRecDepth 100000
namespace SR
/-- what an indent reading tells, in a ledger that holds the nanny's four objects anywhere -/
theorem tell_indentL (w : World) (news : Led) (X dX D1 D2 : Addr) (vs : List Value) (σ : Ws) (t1 t2 t3 t4 t5 tx tn tnt tb : Tok) (txt : Str) (bs : Bool) (hv : IntsAre vs σ.cnt) (ns : List Nat) (tabs spare : Nat) (Lσ : Lead ns tabs spare σ) (a3 : tabs ≤ 2) (a4 : spare ≤ 2) (size : Nat) (ts : Tok) (hs1 : 1 ≤ size) (hs2 : size ≤ 7)
    (h1 : (X, instObj 83 dX) ∈ news) (h2 : (dX, dictOf [⟨PyData.keyHash w.params (Str.ofString "raw"), .str (Str.ofString "raw") t1, .str txt tx⟩, ⟨PyData.keyHash w.params (Str.ofString "n"), .str (Str.ofString "n") t2, .int σ.n tn⟩,
      ⟨PyData.keyHash w.params (Str.ofString "nt"), .str (Str.ofString "nt") t3, .int σ.nt tnt⟩, ⟨PyData.keyHash w.params (Str.ofString "norm"), .str (Str.ofString "norm") t4, .ref D1⟩, ⟨PyData.keyHash w.params (Str.ofString "is_simple"), .str (Str.ofString "is_simple") t5, .bool bs⟩] 5) ∈ news)
    (h3 : (D1, tupO [.ref D2, .int σ.b tb]) ∈ news) (h4 : (D2, tupO vs) ∈ news) :
    Tell w 52 [.ref X, .int (size : Nat) ts] 40 200 news (fun r news' => (∃ t, r = .int ((spare : Nat) + (size : Nat) * ((ns.map fun n => ((n / size : Nat) : Int)).sum + (4 + (tabs : Nat)))) t) ∧ news' = news) := by
  have T0 := tell_indent w news _ X dX D1 D2 vs σ.cnt σ.b σ.n σ.nt t1 t2 t3 t4 t5 tx tn tnt tb txt bs hv (size : Nat) ts (by omega) (by omega) (by rw [Lσ.b]; omega) (by rw [Lσ.b]; omega) (by rw [Lσ.nt]; omega) (by rw [Lσ.nt]; omega) Lσ.len Lσ.cells rfl
  intro p loose mean mg mb dp un gd cn cs a ccd cl outer A₀ base h₀ L m s Q E B F X' N T hk hG hd hu ret
  refine T0 p loose mean mg mb dp un gd cn cs a ccd cl outer A₀ base h₀ L m s Q E B F X' (cb_drop N fun p hp => ?_) T hk hG hd hu fun r news' h' tk' g' F' N' G' P' => ?_
  · simp only [List.mem_cons] at hp
    rcases hp with rfl | rfl | rfl | rfl | hp
    · exact h3
    · exact h4
    · exact h1
    · exact h2
    · exact hp
  · obtain ⟨⟨t, rfl⟩, rfl⟩ := P'
    have e := Lσ.il size hs1
    refine ret _ _ _ _ _ F' (cb_drop N' fun p hp => .tail _ (.tail _ (.tail _ (.tail _ hp)))) G' ⟨⟨t, ?_⟩, rfl⟩
    rw [Lσ.b, Lσ.nt, Int.toNat_natCast, e]
section
variable {prog : Program} {w : World} {A : Around} {E : Value → Shared → Prop} {s : Shared} {h₀ : Heap} {L : Addr} {m : Str → Option Value} {env : Env}
/-- a comprehension over a list of ints, its elements a function of theirs -/
theorem ints_src (g : Int → Int) {mm : Addr → Str → Option Value} {elt : PySem.Expr} {x : Str} {ifs : List PySem.Expr} {scope : Scope} {cl : List (Str × Addr)} {Q' : Addr → Shared → Prop} {H : Addr} {vals : List Value} {zs : List Int} {k : Nat} {base : Led}
    (hh : A.handled = none) (F : Fr h₀ L s.heap m) (N : News h₀ L s.heap base) (hG : AllBare s.gens) (hH : (H, listOf vals.toArray k) ∈ base) (hv : IntsAre vals zs) (hl : zs.length ≤ 1000)
    (turn : ∀ (I C D : Addr) (i : Nat) (z : Int) t ys oI oC m₂ h tk gg (E' : Value → Shared → Prop), zs[i]? = some z → IntsAre ys ((zs.take i).map g) → NsObj oC m₂ → m₂ x = some (.int z t) → Fr h₀ L h m → News h₀ L h ((I, oI) :: (C, oC) :: (D, lst ys) :: base) → (∀ p ∈ base, p.1 ≠ I ∧ p.1 ≠ C ∧ p.1 ≠ D) → ((@Ne Nat I C) ∧ (@Ne Nat I D) ∧ (@Ne Nat C D)) → AllBare gg →
      wpAny (model prog w) A (testsOf ifs (compEnvC scope cl C env)) (fun ok s' => if ok = true then
        wpAny (model prog w) A (eval elt (compEnvC scope cl C env)) (CompEndO h₀ L m s I oI C D ys (SrcAt h₀ H vals.toArray) (fun y news' => news' = base ∧ IntsAre (ys ++ [y]) ((zs.take (i + 1)).map g)) oC) E' s'
        else CompEndO h₀ L m s I oI C D ys (SrcAt h₀ H vals.toArray) (fun _ news' => news' = base ∧ IntsAre ys ((zs.take (i + 1)).map g)) oC .none s') E' { s with heap := h, toks := tk, gens := gg })
    (done : ∀ D ys h tk gg, IntsAre ys (zs.map g) → Fr h₀ L h (mm D) → News h₀ L h ((D, lst ys) :: base) → (∀ p ∈ base, p.1 ≠ D) → AllBare gg → Q' D { s with heap := h, toks := tk, gens := gg }) :
    SrcO prog w A h₀ L m mm env elt x ifs scope cl Q' (.ref H) s := by
  have hsz : vals.toArray.size = zs.length := by simp [hv.length]
  refine SrcO.list hh F N hG (.inr ⟨_, hH, rfl, _, rfl⟩) (by rw [hsz, sizeLine_eq]; omega) (fun i ys news₁ => news₁ = base ∧ IntsAre ys ((zs.take i).map g)) ⟨rfl, by simpa using IntsAre.nil⟩ ?_ ?_
  · rintro I hI i v ys news₁ oI C oC D m₂ h tk gg E' hi hyl hP ⟨rfl, hys⟩ hoC hm F' N' off ne hG' hS'
    obtain ⟨z, t, rfl, hz⟩ := IntsAre.at hv i v (by simpa using hP)
    exact turn I C D i z t ys oI oC m₂ h tk gg E' hz hys hoC hm F' N' off ne hG'
  · rintro D ys news' h tk gg ⟨rfl, hys⟩ F' N' off hG'
    rw [hsz, List.take_length] at hys
    exact done D ys h tk gg hys F' N' off hG'
end
theorem ints_end {g : Int → Int} {h₀ h' : Heap} {L : Addr} {m : Str → Option Value} {s : Shared} {I C D H : Addr} {oI oC : Obj} {vals : List Value} {zs : List Int} {ys : List Value} {k i : Nat} {z u : Int} {t : Tok} {base : Led} {tk : Nat} {gg : Array GenState} (F : Fr h₀ L h' m) (N : News h₀ L h' ((I, oI) :: (C, oC) :: (D, lst ys) :: base))
    (off : ∀ p ∈ base, p.1 ≠ I ∧ p.1 ≠ C ∧ p.1 ≠ D) (hG : AllBare gg) (hH : (H, listOf vals.toArray k) ∈ base) (hn : zs[i]? = some z) (hys : IntsAre ys ((zs.take i).map g)) (hu : u = g z) :
    CompEndO h₀ L m s I oI C D ys (SrcAt h₀ H vals.toArray) (fun y news' => news' = base ∧ IntsAre (ys ++ [y]) ((zs.take (i + 1)).map g)) oC (.int u t) { s with heap := h', toks := tk, gens := gg } := by
  subst hu
  refine CompEndO.intro F N _ (fun p hp => hp) off hG (.inr ⟨_, hH, rfl, _, rfl⟩) ⟨rfl, ?_⟩
  rw [List.take_add_one, hn, List.map_append]
  exact hys.append (.cons _ _ .nil)
theorem sizes_nat {zs : List Int} {i : Nat} {z : Int} (h : ∀ z ∈ zs, 1 ≤ z ∧ z ≤ 7) (hz : zs[i]? = some z) : ∃ j : Nat, z = j ∧ 1 ≤ j ∧ j ≤ 7 := by
  obtain ⟨h1, h2⟩ := h z (List.mem_of_getElem? hz)
  exact ⟨z.toNat, by omega, by omega, by omega⟩
/-- a frame map with one local that may be bound to anything -/
noncomputable abbrev anyAt (y₀ : Str) (o : Option Value) (bm : Str → Option Value) : Str → Option Value := fun y => if y = y₀ then o else bm y
theorem anyAt_none {y₀ : Str} {bm : Str → Option Value} (h : bm y₀ = none) : anyAt y₀ none bm = bm := by
  funext y
  by_cases e : y = y₀
  · subst e; simp [anyAt, h]
  · simp [anyAt, e]
theorem anyAt_set {y₀ : Str} {o : Option Value} {v : Value} {bm : Str → Option Value} : (fun y => if y = y₀ then some v else anyAt y₀ o bm y) = anyAt y₀ (some v) bm := by
  funext y
  by_cases e : y = y₀
  · subst e; simp [anyAt]
  · simp [anyAt, e]
section
variable {prog : Program} {w : World} {A : Around} {E : Value → Shared → Prop} {s : Shared} {h₀ : Heap} {env : Env}
noncomputable abbrev tupA (ax : Addr) (vals : List Value) (k : Nat) : Addr × Obj := (ax, { cls := .type "tuple", data := .seq vals.toArray k })
/-- a loop over a tuple of ints whose target is a cell, which binds one local and that is all -/
theorem cell_loop (y₀ : Str) {x : Str} {px : Pos} {body : List Stmt} {R : Result → Shared → Prop} {ax cA : Addr} {vals : List Value} {k : Nat} {zs : List Int} {bm : Str → Option Value} {e2 e3 e4 e5 e6 e7 : Addr × Obj} {tl : Led} {oc : Obj} {c : Option Value} (hh : A.handled = none) (hk : env.scope.kind = .function) (hl : env.kindOf x = some .cell) (hcl : env.cells.lookup x = some cA)
    (F : Fr h₀ env.locals s.heap bm) (N : News h₀ env.locals s.heap (tupA ax vals k :: e2 :: e3 :: e4 :: e5 :: e6 :: e7 :: (cA, oc) :: tl)) (hd : oc.data = .cell c) (ne : ∀ p ∈ tupA ax vals k :: e2 :: e3 :: e4 :: e5 :: e6 :: e7 :: tl, p.1 ≠ cA) (hv : IntsAre vals zs) (hy : bm y₀ = none) (hG : AllBare s.gens)
    (turn : ∀ (I : Addr) (i : Nat) (z : Int) (t : Tok) oc o oI h tk g (E' : Value → Shared → Prop), zs[i]? = some z → oc.data = .cell (some (.int z t)) → Fr h₀ env.locals h (anyAt y₀ o bm) → News h₀ env.locals h ((I, oI) :: (cA, oc) :: tupA ax vals k :: e2 :: e3 :: e4 :: e5 :: e6 :: e7 :: tl) → (∀ p ∈ tupA ax vals k :: e2 :: e3 :: e4 :: e5 :: e6 :: e7 :: tl, p.1 ≠ I ∧ p.1 ≠ cA) → I ≠ cA → AllBare g →
      wpAny (model prog w) A (execs body env) (TurnEndC h₀ env.locals s I oI cA (TupIn ax vals.toArray) (fun m₁ news₁ => news₁ = tupA ax vals k :: e2 :: e3 :: e4 :: e5 :: e6 :: e7 :: tl ∧ ∃ o, m₁ = anyAt y₀ o bm) R) E' { s with heap := h, toks := tk, gens := g })
    (done : ∀ oc c o h tk g, oc.data = .cell c → Fr h₀ env.locals h (anyAt y₀ o bm) → News h₀ env.locals h ((cA, oc) :: tupA ax vals k :: e2 :: e3 :: e4 :: e5 :: e6 :: e7 :: tl) → (∀ p ∈ tupA ax vals k :: e2 :: e3 :: e4 :: e5 :: e6 :: e7 :: tl, p.1 ≠ cA) → AllBare g → R (.ok .next) { s with heap := h, toks := tk, gens := g }) :
    wpAny (model prog w) A (pyIter (.ref ax)) (fun it s₂ => codeAny (model prog w) A (.forLoop (.Name x px) it body [] env) R s₂) E s := by
  refine for_tupC (fun _ m₁ news₁ => news₁ = tupA ax vals k :: e2 :: e3 :: e4 :: e5 :: e6 :: e7 :: tl ∧ ∃ o, m₁ = anyAt y₀ o bm) hh hk hl hcl ⟨_, .head _, rfl, _, rfl⟩ F (cb_drop N fun p hp => ?_) hd ne hG ⟨rfl, none, (anyAt_none hy).symm⟩ ?_ ?_
  · simp only [List.mem_cons] at hp ⊢
    rcases hp with h | h | h | h | h | h | h | h | h <;> simp [h]
  · rintro m₁ news₁ oc c h tk g ⟨rfl, o, rfl⟩ hc F' N' ne' G'
    exact done oc c o h tk g hc F' N' ne' G'
  · rintro I hI i v m₁ news₁ oI oc h tk g E' hi ⟨rfl, o, rfl⟩ hc F' N' off hIc G' hS _
    obtain ⟨z, t, rfl, hz⟩ := IntsAre.at hv i v (by simpa using hi)
    exact turn I i z t oc o oI h tk g E' hz hc F' N' off hIc G'
/-- the same, with a list of ints that grows by one each turn -/
theorem cell_loopL (y₀ : Str) (r : Int → Int) {x : Str} {px : Pos} {body : List Stmt} {R : Result → Shared → Prop} {ax cA Rl : Addr} {vals : List Value} {k k' : Nat} {zs : List Int} {bm : Str → Option Value} {tl : Led} {oc₀ : Obj} {c : Option Value} (hh : A.handled = none) (hk : env.scope.kind = .function) (hl : env.kindOf x = some .cell) (hcl : env.cells.lookup x = some cA)
    (F : Fr h₀ env.locals s.heap bm) (N : News h₀ env.locals s.heap (tupA ax vals k :: (Rl, listOf #[] k') :: (cA, oc₀) :: tl)) (hd : oc₀.data = .cell c) (ne : ∀ p ∈ tupA ax vals k :: (Rl, listOf #[] k') :: tl, p.1 ≠ cA) (neR : ∀ p ∈ (cA, oc₀) :: tupA ax vals k :: tl, p.1 ≠ Rl) (hv : IntsAre vals zs) (hy : bm y₀ = none) (hG : AllBare s.gens)
    (turn : ∀ (I : Addr) (i : Nat) (z : Int) (t : Tok) oc o vs k' oI h tk g (E' : Value → Shared → Prop), zs[i]? = some z → oc.data = .cell (some (.int z t)) → IntsAre vs ((zs.take i).map r) → Fr h₀ env.locals h (anyAt y₀ o bm) → News h₀ env.locals h ((I, oI) :: (cA, oc) :: tupA ax vals k :: (Rl, listOf vs.toArray k') :: tl) → (∀ p ∈ tupA ax vals k :: (Rl, listOf vs.toArray k') :: tl, p.1 ≠ I ∧ p.1 ≠ cA) → (∀ p ∈ (I, oI) :: (cA, oc) :: tupA ax vals k :: tl, p.1 ≠ Rl) → AllBare g →
      wpAny (model prog w) A (execs body env) (TurnEndC h₀ env.locals s I oI cA (TupIn ax vals.toArray) (fun m₁ news₁ => ∃ vs k', news₁ = tupA ax vals k :: (Rl, listOf vs.toArray k') :: tl ∧ IntsAre vs ((zs.take (i + 1)).map r) ∧ ∃ o, m₁ = anyAt y₀ o bm) R) E' { s with heap := h, toks := tk, gens := g })
    (done : ∀ oc c o vs k' h tk g, oc.data = .cell c → IntsAre vs (zs.map r) → Fr h₀ env.locals h (anyAt y₀ o bm) → News h₀ env.locals h ((cA, oc) :: tupA ax vals k :: (Rl, listOf vs.toArray k') :: tl) → AllBare g → R (.ok .next) { s with heap := h, toks := tk, gens := g }) :
    wpAny (model prog w) A (pyIter (.ref ax)) (fun it s₂ => codeAny (model prog w) A (.forLoop (.Name x px) it body [] env) R s₂) E s := by
  refine for_tupC (fun i m₁ news₁ => ∃ vs k', news₁ = tupA ax vals k :: (Rl, listOf vs.toArray k') :: tl ∧ IntsAre vs ((zs.take i).map r) ∧ ∃ o, m₁ = anyAt y₀ o bm) hh hk hl hcl ⟨_, .head _, rfl, _, rfl⟩ F (cb_drop N fun p hp => ?_) hd ne hG ⟨[], k', rfl, .nil, none, (anyAt_none hy).symm⟩ ?_ ?_
  · simp only [List.mem_cons] at hp ⊢
    rcases hp with h | h | h | h <;> simp [h]
  · rintro m₁ news₁ oc c h tk g ⟨vs, k', rfl, hvs, o, rfl⟩ hc F' N' ne' G'
    have : vals.toArray.size = zs.length := by simp [hv.length]
    rw [this, List.take_length] at hvs
    exact done oc c o vs k' h tk g hc hvs F' N' G'
  · rintro I hI i v m₁ news₁ oI oc h tk g E' hi ⟨vs, k', rfl, hvs, o, rfl⟩ hc F' N' off hIc G' hS _
    obtain ⟨z, t, rfl, hz⟩ := IntsAre.at hv i v (by simpa using hi)
    exact turn I i z t oc o vs k' oI h tk g E' hz hc hvs F' N' off (fun p hp => by
      rcases List.mem_cons.mp hp with rfl | hp
      · exact Ne.symm (off (Rl, listOf vs.toArray k') (.tail _ (.head _))).1
      · rcases List.mem_cons.mp hp with rfl | hp
        · exact fun e => neR (cA, oc₀) (.head _) e
        · exact neR p (.tail _ hp)) G'
end
theorem neR_of {cA Rl ax : Addr} {oc ot : Obj} {tl : Led} {X : Prop} (h1 : AllLt Rl ((cA, oc) :: tl)) (h2 : Rl < ax ∧ X) : ∀ p ∈ (cA, oc) :: (ax, ot) :: tl, p.1 ≠ Rl := by
  intro p hp
  rcases List.mem_cons.mp hp with rfl | hp
  · exact Nat.ne_of_lt (of_allLt h1 _ (.head _))
  rcases List.mem_cons.mp hp with rfl | hp
  · exact Nat.ne_of_gt h2.1
  · exact Nat.ne_of_lt (of_allLt h1 p (.tail _ hp))
theorem len_heaps {prog : Program} {w : World} {A : Around} {E : Value → Shared → Prop} {s : Shared} {h₀ : Heap} {L H : Addr} {xs : List Addr} {k : Nat} {news : Led} {Q : Value → Shared → Prop} (N : News h₀ L s.heap news) (hm : (H, listOf (xs.map Value.ref).toArray k) ∈ news) (hx : xs.length = 4) (h : ∀ t tk, Q (.int 4 t) { s with toks := tk }) :
    wpAny (model prog w) A (call (.builtin "len") [.ref H]) Q E s := by
  have e : (xs.map Value.ref).toArray.size = 4 := by simp [hx]
  refine PyProof.Rows.len_list ⟨_, (N _ hm).1, rfl, _, rfl⟩ (by rw [e]; decide) ?_
  rw [e]
  exact h _ _
theorem append_led {prog : Program} {w : World} {A : Around} {E : Value → Shared → Prop} {s : Shared} {h₀ : Heap} {L D : Addr} {m : Str → Option Value} {vs : List Value} {n : Nat} {v : Value} {news : Led} {Q : Value → Shared → Prop}
    (F : Fr h₀ L s.heap m) (N : News h₀ L s.heap news) (hm : (D, listOf vs.toArray n) ∈ news) (hsz : vs.length ≤ 1000)
    (h : ∀ h', Fr h₀ L h' m → News h₀ L h' (ledPut D (listOf (vs ++ [v]).toArray (n + 1)) news) → Q .none { s with heap := h' }) :
    wpAny (model prog w) A (call (.builtin "list.append") [.ref D, v]) Q E s := by
  have e : (vs ++ [v]).toArray = vs.toArray.push v := by simp
  refine append_at (hsz := by rw [sizeLine_eq]; simp; omega) (N _ hm).1 fun h' hs ho' => h h' (F.change hs (N _ hm).2.1 (N _ hm).2.2) (News.put N hm hs (by rw [e]; exact ho'))
/-- where a turn of the second loop ends -/
theorem cell_endL {y₀ : Str} {h₀ h' : Heap} {L : Addr} {s : Shared} {bm m' : Str → Option Value} {tl : Led} {oc : Obj} {c o : Option Value} {I ax Rl cA : Addr} {oI : Obj} {vals : List Value} {k k' i : Nat} {vs : List Value} {r : Int → Int} {zs : List Int} {z u : Int} {t : Tok} {R : Result → Shared → Prop} {tk : Nat} {g : Array GenState} (F : Fr h₀ L h' m')
    (N : News h₀ L h' (ledPut Rl (listOf (vs ++ [Value.int u t]).toArray (k' + 1)) ((I, oI) :: (cA, oc) :: tupA ax vals k :: (Rl, listOf vs.toArray k') :: tl))) (hc : oc.data = .cell c) (hG : AllBare g) (off : ∀ p ∈ tupA ax vals k :: (Rl, listOf vs.toArray k') :: tl, p.1 ≠ I ∧ p.1 ≠ cA) (neR : ∀ p ∈ (I, oI) :: (cA, oc) :: tupA ax vals k :: tl, p.1 ≠ Rl)
    (hvs : IntsAre vs ((zs.take i).map r)) (hz : zs[i]? = some z) (hu : u = r z) (hm : m' = anyAt y₀ o bm) :
    TurnEndC h₀ L s I oI cA (TupIn ax vals.toArray) (fun m₁ news₁ => ∃ vs k', news₁ = tupA ax vals k :: (Rl, listOf vs.toArray k') :: tl ∧ IntsAre vs ((zs.take (i + 1)).map r) ∧ ∃ o, m₁ = anyAt y₀ o bm) R .next { s with heap := h', toks := tk, gens := g } := by
  subst hu
  refine TurnEndC.intro F N (tupA ax vals k :: (Rl, listOf (vs ++ [Value.int (r z) t]).toArray (k' + 1)) :: tl) (fun p hp => ?_) hc (fun p hp => ?_) hG ⟨_, .head _, rfl, _, rfl⟩ ⟨_, _, rfl, ?_, _, hm⟩
  · by_cases hR : p = (Rl, listOf (vs ++ [Value.int (r z) t]).toArray (k' + 1))
    · rw [hR]; exact .head _
    · have hp2 : p ∈ (I, oI) :: (cA, oc) :: tupA ax vals k :: tl := by
        simp only [List.mem_cons] at hp ⊢
        rcases hp with h | h | h | h | h
        · exact .inl h
        · exact .inr (.inl h)
        · exact .inr (.inr (.inl h))
        · exact absurd h hR
        · exact .inr (.inr (.inr h))
      refine mem_ledPut ?_ (neR p hp2)
      simp only [List.mem_cons] at hp2 ⊢
      rcases hp2 with h | h | h | h <;> simp [h]
  · rcases List.mem_cons.mp hp with rfl | hp
    · exact off _ (.head _)
    · rcases List.mem_cons.mp hp with rfl | hp
      · exact off (Rl, listOf vs.toArray k') (.tail _ (.head _))
      · exact off p (.tail _ (.tail _ hp))
  · rw [List.take_add_one, hz, List.map_append]
    exact hvs.append (.cons _ _ .nil)
/-- how many heaps' worth stand at a size, of the size times the number -/
noncomputable def colZ (ns : List Nat) (number : Nat) (z : Int) : Int := (z * (ns.map fun n => ((n / z.toNat : Nat) : Int)).sum).fmod (z * number)
theorem col_eq {ns : List Nat} {number j spare tabs : Nat} : ((spare : Int) + j * ((ns.map fun n => ((n / j : Nat) : Int)).sum + (4 + (tabs : Nat))) - spare - j * (4 + (tabs : Nat))).fmod (j * number) = colZ ns number j := by
  unfold colZ
  rw [Int.toNat_natCast]
  congr 1
  simp only [Int.mul_add]
  omega
theorem stops_eq {ns : List Nat} (hn : ns.length = 4) (j spare tabs : Nat) : (spare : Int) + j * ((ns.map fun n => ((n / j : Nat) : Int)).sum + (4 + (tabs : Nat))) = j * (((ns.map fun n : Nat => (n : Int)).map fun z => z.fdiv j + 1).sum + tabs) + spare := by
  have h : ((ns.map fun n : Nat => (n : Int)).map fun z => z.fdiv j + 1).sum = (ns.map fun n => ((n / j : Nat) : Int)).sum + 4 := by
    obtain ⟨a, b, c, d, rfl⟩ := four_of hn
    have e : ∀ n : Nat, ((n : Int)).fdiv (j : Nat) = ((n / j : Nat) : Int) := fun n => by
      rw [Int.fdiv_eq_ediv_of_nonneg _ (by omega)]; rfl
    simp only [List.map_cons, List.map_nil, List.sum_cons, List.sum_nil, e]
    omega
  rw [h]
  simp only [Int.mul_add]
  omega
end SR
end
section
open PySem PySem.W PyProof.Rows PySem.Calls PySem.Spec LCg
set_option Elab.async false
set_option maxRecDepth 100000
namespace SR
noncomputable def RowsAre (X : Led) (rs : List Addr) (ns : List Nat) : Prop := ∀ (j : Nat) (r : Addr) (n : Nat), rs[j]? = some r → ns[j]? = some n → ∃ vs k, (r, listOf vs.toArray k) ∈ X ∧ IntsAre vs (bits n)
noncomputable def RowsJ (ps : Array Value) (base : Led) (ns : List Nat) (i : Nat) (ys : List Value) (news₁ : Led) : Prop :=
  ∃ ps' X rs, news₁ = (89, tabObj ps') :: (X ++ base) ∧ TabSt 56 4 qI2D (X ++ base) ps' ∧ ys = rs.map Value.ref ∧ rs.length = i ∧ rs.Nodup ∧ RowsAre X rs ns ∧ (∀ r ∈ rs, ∃ o, (r, o) ∈ X) ∧ ∀ p ∈ X, ∀ q ∈ (89, tabObj ps) :: base, p.1 ≠ q.1
theorem i2d_call {w : World} {p : Program} {loose : List Str} {mean : ExcName → Option Value} {mg mb : Str → Option Value} {dp un : Nat} {gd : Option (List Code)} {cn : Str} {cs : Scope} {a : Addr} {ccd : Value} {cl : List (Str × Addr)} {outer : List Env} {A₀ : Around} {base h₀ : Heap} {L : Addr} {m : Str → Option Value} {s : Shared} {Q E : Value → Shared → Prop}
    {a1 a2 a3 : Addr × Obj} {ps : Array Value} {tl : Led} {v : Nat} {ta tn : Tok} (B : Below A₀ base outer h₀) (F : Fr h₀ L s.heap m) (X : (SR.hm.heap_1 w.params).In h₀) (N : News h₀ L s.heap (a1 :: a2 :: a3 :: (89, tabObj ps) :: tl)) (T : Top p loose mean mg mb h₀) (hk : cs.kind = .function) (hG : AllBare s.gens) (hd : dp + 20 < recursionLimit) (hu : un + 100 < cLine)
    (hps : TabSt 56 4 qI2D tl ps) (hr : ∀ p ∈ a1 :: a2 :: a3 :: tl, p.1 ≠ 89) (v1 : v ≤ 7)
    (ret : ∀ D c' oc ps' vs ns n h' tk g, Fr h₀ L h' m → News h₀ L h' ((89, tabObj ps') :: (c', oc) :: (D, listOf vs.toArray n) :: a1 :: a2 :: a3 :: tl) → AllBare g → c' ≠ 89 → 89 < D → IntsAre vs ns → vs.length ≤ 3 → (ns ++ [0, 0, 0]).take 3 = bits v → c' ≠ D → (ps' = ps ∨ ∀ p ∈ a1 :: a2 :: a3 :: tl, p.1 ≠ c') → ps' = #[rawInt 56, rawInt 4, .ref c'] → CodeOk qI2D oc → Q (.ref D) { s with heap := h', toks := tk, gens := g }) :
    wpAny (model PySem.Challenge.rw_sr0056_01.row.prog w) (ktrTop dp un gd cn cs L a ccd cl outer) (call (.ref 94) [.int (v : Nat) ta, .int 1 tn]) Q E s := by
  have N' : News h₀ L s.heap ((89, tabObj ps) :: a1 :: a2 :: a3 :: tl) := cb_drop N fun p hp => by
    simp only [List.mem_cons] at hp ⊢
    rcases hp with h | h | h | h | h <;> simp [h]
  refine tell_use (tell_i2d w (a1 :: a2 :: a3 :: tl) hr ps (tabSt_more hps fun p hp => .tail _ (.tail _ (.tail _ hp))) ta tn v (by omega) (by omega)) B F X N' T hk hG hd hu ?_
  rintro r news' h' tk' g' F' N'' G' ⟨D, c', oc, ps', vs, ns, n, rfl, rfl, h1, h2, h3, h4, h5, h6, h7, h8, h9, h10, h11⟩
  exact ret D c' oc ps' vs ns n h' tk' g' F' N'' G' h1 h3 h5 h6 h7 h8 h9 h10 h11
section
variable {prog : Program} {w : World} {A : Around} {E : Value → Shared → Prop} {s : Shared} {h₀ : Heap} {L : Addr} {m : Str → Option Value} {env : Env}
theorem rows_src {mm : Addr → Str → Option Value} {elt : PySem.Expr} {x : Str} {ifs : List PySem.Expr} {scope : Scope} {cl : List (Str × Addr)} {Q' : Addr → Shared → Prop} {H : Addr} {xs : List Addr} {ns : List Nat} {k : Nat} {c1 c2 c3 e96 : Addr × Obj} {ps : Array Value} {rest : Led}
    (hh : A.handled = none) (F : Fr h₀ L s.heap m) (N : News h₀ L s.heap (c1 :: c2 :: c3 :: (89, tabObj ps) :: e96 :: rest)) (hG : AllBare s.gens) (hps : TabSt 56 4 qI2D rest ps) (hH : (H, listOf (xs.map Value.ref).toArray k) ∈ rest) (hx : xs.length = 4) (hn : ns.length = 4)
    (turn : ∀ (I C D : Addr) (i : Nat) (x₁ : Addr) (n : Nat) ps' X rs oI oC m₂ h tk g (E' : Value → Shared → Prop), xs[i]? = some x₁ → ns[i]? = some n → rs.length = i → TabSt 56 4 qI2D (X ++ c1 :: c2 :: c3 :: e96 :: rest) ps' → rs.Nodup → RowsAre X rs ns → (∀ r ∈ rs, ∃ o, (r, o) ∈ X) → (∀ p ∈ X, ∀ q ∈ (89, tabObj ps) :: c1 :: c2 :: c3 :: e96 :: rest, p.1 ≠ q.1) →
      NsObj oC m₂ → m₂ x = some (.ref x₁) → Fr h₀ L h m → News h₀ L h ((I, oI) :: (C, oC) :: (D, lst (rs.map Value.ref)) :: (89, tabObj ps') :: (X ++ c1 :: c2 :: c3 :: e96 :: rest)) → (∀ p ∈ (89, tabObj ps') :: (X ++ c1 :: c2 :: c3 :: e96 :: rest), p.1 ≠ I ∧ p.1 ≠ C ∧ p.1 ≠ D) → ((@Ne Nat I C) ∧ (@Ne Nat I D) ∧ (@Ne Nat C D)) → AllBare g →
      wpAny (model prog w) A (testsOf ifs (compEnvC scope cl C env)) (fun ok s' => if ok = true then
        wpAny (model prog w) A (eval elt (compEnvC scope cl C env)) (CompEndO h₀ L m s I oI C D (rs.map Value.ref) (SrcAt h₀ H (xs.map Value.ref).toArray) (fun y news' => RowsJ ps (c1 :: c2 :: c3 :: e96 :: rest) ns (i + 1) (rs.map Value.ref ++ [y]) news') oC) E' s'
        else CompEndO h₀ L m s I oI C D (rs.map Value.ref) (SrcAt h₀ H (xs.map Value.ref).toArray) (fun _ news' => RowsJ ps (c1 :: c2 :: c3 :: e96 :: rest) ns (i + 1) (rs.map Value.ref) news') oC .none s') E' { s with heap := h, toks := tk, gens := g })
    (done : ∀ D ps' X rs h tk g, rs.length = 4 → TabSt 56 4 qI2D (X ++ c1 :: c2 :: c3 :: e96 :: rest) ps' → rs.Nodup → RowsAre X rs ns → (∀ r ∈ rs, ∃ o, (r, o) ∈ X) → (∀ p ∈ X, ∀ q ∈ (89, tabObj ps) :: c1 :: c2 :: c3 :: e96 :: rest, p.1 ≠ q.1) →
      Fr h₀ L h (mm D) → News h₀ L h ((D, lst (rs.map Value.ref)) :: (89, tabObj ps') :: (X ++ c1 :: c2 :: c3 :: e96 :: rest)) → (∀ p ∈ (89, tabObj ps') :: (X ++ c1 :: c2 :: c3 :: e96 :: rest), p.1 ≠ D) → AllBare g → Q' D { s with heap := h, toks := tk, gens := g }) :
    SrcO prog w A h₀ L m mm env elt x ifs scope cl Q' (.ref H) s := by
  have hsz : (xs.map Value.ref).toArray.size = 4 := by simp [hx]
  have N' : News h₀ L s.heap ((89, tabObj ps) :: ([] ++ c1 :: c2 :: c3 :: e96 :: rest)) := cb_drop N fun p hp => by
    simp only [List.mem_cons, List.nil_append] at hp ⊢
    rcases hp with h | h | h | h | h | h <;> simp [h]
  refine SrcO.list hh F N' hG (.inr ⟨_, .tail _ (.tail _ (.tail _ (.tail _ (.tail _ hH)))), rfl, _, rfl⟩) (by rw [hsz, sizeLine_eq]; omega) (RowsJ ps (c1 :: c2 :: c3 :: e96 :: rest) ns)
    ⟨ps, [], [], rfl, tabSt_more hps fun p hp => .tail _ (.tail _ (.tail _ (.tail _ hp))), rfl, rfl, List.nodup_nil, (fun j r n h => by simp at h), (fun r hr => nomatch hr), fun p hp => nomatch hp⟩ ?_ ?_
  · rintro I hI i v ys news₁ oI C oC D m₂ h tk g E' hi hyl hP ⟨ps', X, rs, rfl, ht, rfl, hl, hnd, hra, hrX, hX⟩ hoC hm F' N' off ne hG' hS'
    obtain ⟨x₁, hx₁⟩ : ∃ x₁, xs[i]? = some x₁ := ⟨xs[i], List.getElem?_eq_getElem (by omega)⟩
    obtain ⟨n, hn₁⟩ : ∃ n, ns[i]? = some n := ⟨ns[i], List.getElem?_eq_getElem (by omega)⟩
    have hv : v = .ref x₁ := by
      have : (xs.map Value.ref)[i]? = some v := by simpa using hP
      rw [List.getElem?_map, hx₁] at this
      exact (Option.some.inj this).symm
    subst hv
    exact turn I C D i x₁ n ps' X rs oI oC m₂ h tk g E' hx₁ hn₁ hl ht hnd hra hrX hX hoC hm F' N' off ne hG'
  · rintro D ys news' h tk g ⟨ps', X, rs, rfl, ht, rfl, hl, hnd, hra, hrX, hX⟩ F' N' off hG'
    rw [hsz] at hl
    exact done D ps' X rs h tk g hl ht hnd hra hrX hX F' N' off hG'
end
theorem rows_base {L : Addr} {o1 o2 o3 o96 : Obj} {rest : Led} (h : 89 < L) (hr : ∀ p ∈ rest, p.1 ≠ 89) : ∀ p ∈ (L + 1 + 1 + 1, o1) :: (L + 1 + 1, o2) :: (L + 1, o3) :: (96, o96) :: rest, p.1 ≠ 89 := by
  intro p hp
  rcases List.mem_cons.mp hp with rfl | hp
  · exact Nat.ne_of_gt (Nat.lt_of_lt_of_le h (Nat.le_add_right L 3))
  rcases List.mem_cons.mp hp with rfl | hp
  · exact Nat.ne_of_gt (Nat.lt_of_lt_of_le h (Nat.le_add_right L 2))
  rcases List.mem_cons.mp hp with rfl | hp
  · exact Nat.ne_of_gt (Nat.lt_of_lt_of_le h (Nat.le_add_right L 1))
  rcases List.mem_cons.mp hp with rfl | hp
  · exact (by decide : (96 : Nat) ≠ 89)
  · exact hr p hp
theorem rows_off {I C D : Addr} {oI oC oD : Obj} {ps ps' : Array Value} {X base : Led} (off : ∀ p ∈ (89, tabObj ps') :: (X ++ base), p.1 ≠ I ∧ p.1 ≠ C ∧ p.1 ≠ D) (hX : ∀ p ∈ X, ∀ q ∈ (89, tabObj ps) :: base, p.1 ≠ q.1) (hb : ∀ p ∈ base, p.1 ≠ 89) : ∀ p ∈ (I, oI) :: (C, oC) :: (D, oD) :: (X ++ base), p.1 ≠ 89 := by
  intro p hp
  have o := off (89, tabObj ps') (.head _)
  rcases List.mem_cons.mp hp with rfl | hp
  · exact Ne.symm o.1
  rcases List.mem_cons.mp hp with rfl | hp
  · exact Ne.symm o.2.1
  rcases List.mem_cons.mp hp with rfl | hp
  · exact Ne.symm o.2.2
  rcases List.mem_append.mp hp with hp | hp
  · exact hX p hp _ (.head _)
  · exact hb p hp
theorem rows_lt {a1 a2 a4 a5 I C D E : Addr} {oI oC oE : Obj} {l : Led} (h : a1 < D ∧ a2 < D ∧ 89 < D ∧ a4 < D ∧ a5 < D ∧ I < D ∧ C < D ∧ E < D ∧ AllLt D l) : (∀ p ∈ (I, oI) :: (C, oC) :: (E, oE) :: l, p.1 < D) ∧ 89 < D := by
  obtain ⟨_, _, h3, _, _, h6, h7, h8, h9⟩ := h
  refine ⟨fun p hp => ?_, h3⟩
  rcases List.mem_cons.mp hp with rfl | hp
  · exact h6
  rcases List.mem_cons.mp hp with rfl | hp
  · exact h7
  rcases List.mem_cons.mp hp with rfl | hp
  · exact h8
  · exact of_allLt h9 p hp
theorem rows_sub {r a1 a2 t c d I C E : Addr × Obj} {l : Led} : ∀ p ∈ I :: C :: E :: t :: c :: r :: l, p ∈ r :: a1 :: a2 :: t :: c :: d :: I :: C :: E :: l := by
  intro p hp
  simp only [List.mem_cons] at hp ⊢
  rcases hp with h | h | h | h | h | h | h <;> simp [h]
theorem rows_end {h₀ h' : Heap} {L : Addr} {m : Str → Option Value} {s : Shared} {I C D H R c' : Addr} {oI oC oc : Obj} {xs rs : List Addr} {ns : List Nat} {k kr i n : Nat} {ps ps0 ps' : Array Value} {X base all : Led} {vs : List Value} {tk : Nat} {g : Array GenState} (F : Fr h₀ L h' m) (N : News h₀ L h' all)
    (sub : ∀ p ∈ (I, oI) :: (C, oC) :: (D, lst (rs.map Value.ref)) :: (89, tabObj ps') :: (c', oc) :: (R, listOf vs.toArray kr) :: (X ++ base), p ∈ all)
    (off : ∀ p ∈ (89, tabObj ps0) :: (X ++ base), p.1 ≠ I ∧ p.1 ≠ C ∧ p.1 ≠ D) (hG : AllBare g) (hH : (H, listOf (xs.map Value.ref).toArray k) ∈ base) (hn : ns[i]? = some n) (hl : rs.length = i) (ht : TabSt 56 4 qI2D (X ++ base) ps0) (hnd : rs.Nodup) (hra : RowsAre X rs ns) (hrX : ∀ r ∈ rs, ∃ o, (r, o) ∈ X) (hX : ∀ p ∈ X, ∀ q ∈ (89, tabObj ps) :: base, p.1 ≠ q.1)
    (hR : ∀ p ∈ (I, oI) :: (C, oC) :: (D, lst (rs.map Value.ref)) :: (X ++ base), p.1 < R) (hR89 : 89 < R) (hc : ps' = ps0 ∨ ∀ p ∈ (I, oI) :: (C, oC) :: (D, lst (rs.map Value.ref)) :: (X ++ base), p.1 ≠ c') (hc89 : c' ≠ 89) (hps : ps' = #[rawInt 56, rawInt 4, .ref c']) (hok : CodeOk qI2D oc) (hv : IntsAre vs (bits n)) :
    CompEndO h₀ L m s I oI C D (rs.map Value.ref) (SrcAt h₀ H (xs.map Value.ref).toArray) (fun y news' => RowsJ ps base ns (i + 1) (rs.map Value.ref ++ [y]) news') oC (.ref R) { s with heap := h', toks := tk, gens := g } := by
  have offR : ∀ p ∈ (R, listOf vs.toArray kr) :: (X ++ base), p.1 ≠ I ∧ p.1 ≠ C ∧ p.1 ≠ D := by
    intro p hp
    rcases List.mem_cons.mp hp with rfl | hp
    · exact ⟨Nat.ne_of_gt (hR _ (.head _)), Nat.ne_of_gt (hR _ (.tail _ (.head _))), Nat.ne_of_gt (hR _ (.tail _ (.tail _ (.head _))))⟩
    · exact off p (.tail _ hp)
  have o89 := off (89, tabObj ps0) (.head _)
  have hRX : ∀ r ∈ rs, r ≠ R := by
    intro r hr
    obtain ⟨o, ho⟩ := hrX r hr
    exact Nat.ne_of_lt (hR _ (.tail _ (.tail _ (.tail _ (List.mem_append_left _ ho)))))
  have nd : (rs ++ [R]).Nodup := by
    rw [List.nodup_append]
    refine ⟨hnd, by simp, fun a ha b hb => ?_⟩
    rw [List.mem_singleton.mp hb]
    exact hRX a ha
  have ra : ∀ X' : Led, (∀ p ∈ X, p ∈ X') → (R, listOf vs.toArray kr) ∈ X' → RowsAre X' (rs ++ [R]) ns ∧ ∀ r ∈ rs ++ [R], ∃ o, (r, o) ∈ X' := by
    intro X' h1 h2
    constructor
    · intro j r n' hj hn'
      by_cases hji : j < rs.length
      · rw [List.getElem?_append_left hji] at hj
        obtain ⟨vs', k', a, b⟩ := hra j r n' hj hn'
        exact ⟨vs', k', h1 _ a, b⟩
      · rw [List.getElem?_append_right (by omega)] at hj
        have hj0 : j - rs.length = 0 := by
          rcases Nat.eq_zero_or_pos (j - rs.length) with h | h
          · exact h
          · rw [List.getElem?_eq_none (by simp; omega)] at hj; cases hj
        rw [hj0] at hj
        simp only [List.getElem?_cons_zero, Option.some.injEq] at hj
        subst hj
        have : j = i := by omega
        subst this
        rw [hn] at hn'
        cases hn'
        exact ⟨vs, kr, h2, hv⟩
    · intro r hr
      rcases List.mem_append.mp hr with hr | hr
      · obtain ⟨o, ho⟩ := hrX r hr
        exact ⟨o, h1 _ ho⟩
      · rw [List.mem_singleton.mp hr]; exact ⟨_, h2⟩
  have hXR : ∀ q ∈ (89, tabObj ps) :: base, R ≠ q.1 := by
    intro q hq
    rcases List.mem_cons.mp hq with rfl | hq
    · exact Nat.ne_of_gt hR89
    · exact Nat.ne_of_gt (hR q (.tail _ (.tail _ (.tail _ (List.mem_append_right _ hq)))))
  rcases hc with hc | hc
  · -- the table is as it was
    obtain ⟨r1, r2⟩ := ra ((R, listOf vs.toArray kr) :: X) (fun p hp => .tail _ hp) (.head _)
    refine CompEndO.intro F N ((89, tabObj ps') :: ((R, listOf vs.toArray kr) :: X ++ base)) (fun p hp => sub p ?_) (fun p hp => ?_) hG (.inr ⟨_, .tail _ (.tail _ (List.mem_append_right _ hH)), rfl, _, rfl⟩)
      ⟨ps', (R, listOf vs.toArray kr) :: X, rs ++ [R], rfl, by rw [hc]; exact tabSt_more ht fun p hp => .tail _ hp, by simp, by simp [hl], nd, r1, r2, fun p hp => ?_⟩
    · simp only [List.mem_cons, List.cons_append] at hp ⊢
      rcases hp with h | h | h | h | h | h <;> simp [h]
    · rcases List.mem_cons.mp hp with rfl | hp
      · exact o89
      · exact offR p hp
    · rcases List.mem_cons.mp hp with rfl | hp
      · exact hXR
      · exact hX p hp
  · obtain ⟨r1, r2⟩ := ra ((c', oc) :: (R, listOf vs.toArray kr) :: X) (fun p hp => .tail _ (.tail _ hp)) (.tail _ (.head _))
    refine CompEndO.intro F N ((89, tabObj ps') :: ((c', oc) :: (R, listOf vs.toArray kr) :: X ++ base)) (fun p hp => sub p ?_) (fun p hp => ?_) hG (.inr ⟨_, .tail _ (.tail _ (.tail _ (List.mem_append_right _ hH))), rfl, _, rfl⟩)
      ⟨ps', (c', oc) :: (R, listOf vs.toArray kr) :: X, rs ++ [R], rfl, ?_, by simp, by simp [hl], nd, r1, r2, fun p hp => ?_⟩
    · simp only [List.mem_cons, List.cons_append] at hp ⊢
      rcases hp with h | h | h | h | h | h | h <;> simp [h]
    · rcases List.mem_cons.mp hp with rfl | hp
      · exact o89
      · rcases List.mem_cons.mp hp with rfl | hp
        · exact ⟨Ne.symm (hc (I, oI) (.head _)), Ne.symm (hc (C, oC) (.tail _ (.head _))), Ne.symm (hc (D, lst (rs.map Value.ref)) (.tail _ (.tail _ (.head _))))⟩
        · exact offR p hp
    · obtain ⟨vs', t', h1, h2⟩ := hok
      exact .inr ⟨c', oc, vs', t', hps, .head _, h1, h2⟩
    · rcases List.mem_cons.mp hp with rfl | hp
      · intro q hq
        rcases List.mem_cons.mp hq with rfl | hq
        · exact hc89
        · exact Ne.symm (hc q (.tail _ (.tail _ (.tail _ (List.mem_append_right _ hq)))))
      · rcases List.mem_cons.mp hp with rfl | hp
        · exact hXR
        · exact hX p hp
end SR
end
section
open PySem PySem.W PyProof.Rows PySem.Calls PySem.Spec LCg
set_option Elab.async false
set_option maxRecDepth 100000
namespace SR
/-- the matrix of the heaps' figures, and the chosen heaps -/
noncomputable abbrev St := (Nat → Nat → Int) × List Nat
noncomputable def onesOf (M : Nat → Nat → Int) (ch : List Nat) (p : Nat) : Nat → Bool := fun a => !(ch.contains a) && decide (M a p = 1)
noncomputable def onesL (S : St) (p : Nat) : List Nat := (List.range 4).filter (onesOf S.1 S.2 p)
noncomputable def wantOf (number : Nat) (S : St) (p : Nat) : Int := (-((onesL S p).length : Int)).fmod number
noncomputable def chAfter (number : Nat) (S : St) (p : Nat) : List Nat := if wantOf number S p > S.2.length then S.2 ++ (onesL S p).take (number - wantOf number S p).toNat else S.2
noncomputable def wantAfter (number : Nat) (S : St) (p : Nat) : Int := if wantOf number S p > S.2.length then 0 else wantOf number S p
noncomputable def setAt (M : Nat → Nat → Int) (a p : Nat) (v : Int) : Nat → Nat → Int := fun b q => if b = a ∧ q = p then v else M b q
noncomputable def setRows (M : Nat → Nat → Int) (ch : List Nat) (w : Int) (p : Nat) : Nat → Nat → Nat → Int
  | 0 => M
  | i + 1 => setAt (setRows M ch w p i) (ch.getD i 0) p (if (i : Int) < w then 1 else 0)
noncomputable def stepSt (number p : Nat) (S : St) : St := (setRows S.1 (chAfter number S p) (wantAfter number S p) p (chAfter number S p).length, chAfter number S p)
noncomputable def ansAt (number : Nat) (M : Nat → Nat → Int) (l : List Nat) : St := l.foldl (fun S p => stepSt number p S) (M, [])
structure StOk (number : Nat) (S : St) : Prop where
  lt : ∀ a ∈ S.2, a < 4
  len : S.2.length < number
  bit : ∀ a p, S.1 a p = 0 ∨ S.1 a p = 1
theorem wantOf_bounds {number : Nat} (h : 0 < number) (S : St) (p : Nat) : 0 ≤ wantOf number S p ∧ wantOf number S p < number := by
  unfold wantOf
  exact ⟨Int.fmod_nonneg_of_pos _ (by omega), Int.fmod_lt_of_pos _ (by omega)⟩
theorem chAfter_ok {number : Nat} (h : 0 < number) {S : St} (ok : StOk number S) (p : Nat) : (∀ a ∈ chAfter number S p, a < 4) ∧ (chAfter number S p).length < number := by
  obtain ⟨h1, h2⟩ := wantOf_bounds h S p
  unfold chAfter
  split
  · refine ⟨fun a ha => ?_, ?_⟩
    · rcases List.mem_append.mp ha with ha | ha
      · exact ok.lt a ha
      · have := List.mem_of_mem_take ha
        unfold onesL at this
        exact List.mem_range.mp (List.mem_filter.mp this).1
    · rw [List.length_append, List.length_take]
      omega
  · exact ⟨ok.lt, ok.len⟩
theorem setRows_bit {M : Nat → Nat → Int} {ch : List Nat} {w : Int} {p : Nat} (h : ∀ a q, M a q = 0 ∨ M a q = 1) : ∀ i a q, setRows M ch w p i a q = 0 ∨ setRows M ch w p i a q = 1
  | 0 => h
  | i + 1 => fun a q => by
    unfold setRows setAt
    split
    · split <;> simp
    · exact setRows_bit h i a q
theorem stepSt_ok {number : Nat} (h : 0 < number) {S : St} (ok : StOk number S) (p : Nat) : StOk number (stepSt number p S) :=
  ⟨(chAfter_ok h ok p).1, (chAfter_ok h ok p).2, setRows_bit ok.bit _⟩
theorem ansAt_ok {number : Nat} (h : 0 < number) {M : Nat → Nat → Int} (hM : ∀ a p, M a p = 0 ∨ M a p = 1) (l : List Nat) : StOk number (ansAt number M l) := by
  have : ∀ (l : List Nat) (S : St), StOk number S → StOk number (l.foldl (fun S p => stepSt number p S) S) := by
    intro l
    induction l with
    | nil => exact fun S h => h
    | cons p r ih => exact fun S ok => ih _ (stepSt_ok h ok p)
  exact this l _ ⟨fun a ha => (nomatch ha), h, hM⟩
theorem ansAt_take {number : Nat} {M : Nat → Nat → Int} {l : List Nat} {i p : Nat} (h : l[i]? = some p) : ansAt number M (l.take (i + 1)) = stepSt number p (ansAt number M (l.take i)) := by
  unfold ansAt
  rw [List.take_add_one, h, List.foldl_append]
  rfl
/-- the rows as they stand in a ledger -/
noncomputable def RowsM (tl : Led) (rs : List Addr) (M : Nat → Nat → Int) : Prop := ∀ (j : Nat) (r : Addr), rs[j]? = some r → ∃ t0 t1 t2 k, (r, listOf #[.int (M j 0) t0, .int (M j 1) t1, .int (M j 2) t2] k) ∈ tl
noncomputable abbrev natZ (l : List Nat) : List Int := l.map fun n : Nat => (n : Int)
theorem RowsM.in {h₀ h : Heap} {L : Addr} {news tl : Led} {rs : List Addr} {M : Nat → Nat → Int} (_N : News h₀ L h news) (H : RowsM tl rs M) (sub : ∀ p ∈ tl, p ∈ news) : RowsM news rs M := fun j r hj =>
  (H j r hj).elim fun t0 H => H.elim fun t1 H => H.elim fun t2 H => H.elim fun k hm => ⟨t0, t1, t2, k, sub _ hm⟩
noncomputable def AnsJ (tup eR eD : Addr × Obj) (c2 c3 : Addr) (rs : List Addr) (TL : Led) (bm : Str → Option Value) (S : St) (m₁ : Str → Option Value) (news₁ : Led) : Prop :=
  ∃ oc2 Dc vsc kc tl o1 o2 o3, news₁ = tup :: (c2, oc2) :: eR :: eD :: (Dc, listOf vsc.toArray kc) :: tl ∧ oc2.data = .cell (some (.ref Dc)) ∧ IntsAre vsc (natZ S.2) ∧ RowsM tl rs S.1 ∧ (∀ p ∈ TL, p.1 ∉ rs → p ∈ tl) ∧ (∀ r ∈ rs, r ≠ Dc) ∧ (∀ p ∈ tl, p.1 ≠ c2) ∧ (@Ne Nat Dc c2) ∧
    m₁ = anyAt (Str.ofString "k") o1 (anyAt (Str.ofString "wanting") o2 (anyAt (Str.ofString "ones") o3 bm))
section
variable {prog : Program} {w : World} {A : Around} {E : Value → Shared → Prop} {s : Shared} {h₀ : Heap} {env : Env}
theorem ans_loop (number : Nat) (pl : List Nat) (M₀ : Nat → Nat → Int) (rs : List Addr) (hnum : 0 < number) (hM₀ : ∀ a p, M₀ a p = 0 ∨ M₀ a p = 1) {x : Str} {px : Pos} {body : List Stmt} {R : Result → Shared → Prop} {ax c1 c2 c3 D9 Dc : Addr} {oc1 oc2 oc3 oD : Obj} {vals : List Value} {k kc : Nat} {bm : Str → Option Value} {TL : Led} {c : Option Value} (hh : A.handled = none) (hk : env.scope.kind = .function) (hl : env.kindOf x = some .cell) (hcl : env.cells.lookup x = some c3)
    (F : Fr h₀ env.locals s.heap bm) (N : News h₀ env.locals s.heap (tupA ax vals k :: (Dc, listOf #[] kc) :: (D9, oD) :: (c3, oc3) :: (c2, oc2) :: (c1, oc1) :: TL)) (hd3 : oc3.data = .cell c) (hd2 : oc2.data = .cell (some (.ref Dc))) (hv : IntsAre vals (natZ pl)) (hpl : ∀ p ∈ pl, p ≤ 2)
    (ne3 : (@Ne Nat ax c3) ∧ (@Ne Nat Dc c3) ∧ (@Ne Nat D9 c3) ∧ (@Ne Nat c2 c3) ∧ (@Ne Nat c1 c3)) (ne3' : ∀ p ∈ TL, p.1 ≠ c3) (ne2 : @Ne Nat Dc c2) (ne2' : ∀ p ∈ TL, p.1 ≠ c2) (hrs : ∀ r ∈ rs, r ≠ Dc) (hR : RowsM TL rs M₀)
    (b1 : bm (Str.ofString "k") = none) (b2 : bm (Str.ofString "wanting") = none) (b3 : bm (Str.ofString "ones") = none) (hG : AllBare s.gens)
    (turn : ∀ (I : Addr) (p : Nat) (t : Tok) (S : St) oc3 oc2 Dc vsc kc tl o1 o2 o3 oI h tk g (E' : Value → Shared → Prop), p ≤ 2 → StOk number S → oc3.data = .cell (some (.int (p : Nat) t)) → oc2.data = .cell (some (.ref Dc)) → IntsAre vsc (natZ S.2) → RowsM tl rs S.1 → (∀ p ∈ TL, p.1 ∉ rs → p ∈ tl) → (∀ r ∈ rs, r ≠ Dc) → (∀ p ∈ tl, p.1 ≠ c2) → (@Ne Nat Dc c2) →
      Fr h₀ env.locals h (anyAt (Str.ofString "k") o1 (anyAt (Str.ofString "wanting") o2 (anyAt (Str.ofString "ones") o3 bm))) → News h₀ env.locals h ((I, oI) :: (c3, oc3) :: tupA ax vals k :: (c2, oc2) :: (c1, oc1) :: (D9, oD) :: (Dc, listOf vsc.toArray kc) :: tl) →
      (∀ p ∈ tupA ax vals k :: (c2, oc2) :: (c1, oc1) :: (D9, oD) :: (Dc, listOf vsc.toArray kc) :: tl, p.1 ≠ I ∧ p.1 ≠ c3) → (@Ne Nat I c2) → AllBare g →
      wpAny (model prog w) A (execs body env) (TurnEndC h₀ env.locals s I oI c3 (TupIn ax vals.toArray) (AnsJ (tupA ax vals k) (c1, oc1) (D9, oD) c2 c3 rs TL bm (stepSt number p S)) R) E' { s with heap := h, toks := tk, gens := g })
    (done : ∀ oc3 oc2 Dc vsc kc tl o1 o2 o3 h tk g, IntsAre vsc (natZ (ansAt number M₀ pl).2) → oc2.data = .cell (some (.ref Dc)) → RowsM tl rs (ansAt number M₀ pl).1 → (∀ p ∈ TL, p.1 ∉ rs → p ∈ tl) → (∀ r ∈ rs, r ≠ Dc) →
      Fr h₀ env.locals h (anyAt (Str.ofString "k") o1 (anyAt (Str.ofString "wanting") o2 (anyAt (Str.ofString "ones") o3 bm))) → News h₀ env.locals h ((c3, oc3) :: tupA ax vals k :: (c2, oc2) :: (c1, oc1) :: (D9, oD) :: (Dc, listOf vsc.toArray kc) :: tl) → AllBare g → R (.ok .next) { s with heap := h, toks := tk, gens := g }) :
    wpAny (model prog w) A (pyIter (.ref ax)) (fun it s₂ => codeAny (model prog w) A (.forLoop (.Name x px) it body [] env) R s₂) E s := by
  obtain ⟨n1, n2, n3, n4, n5⟩ := ne3
  refine for_tupC (news₀ := tupA ax vals k :: (c2, oc2) :: (c1, oc1) :: (D9, oD) :: (Dc, listOf #[] kc) :: TL) (fun i m₁ news₁ => AnsJ (tupA ax vals k) (c1, oc1) (D9, oD) c2 c3 rs TL bm (ansAt number M₀ (pl.take i)) m₁ news₁) hh hk hl hcl ⟨_, .head _, rfl, _, rfl⟩ F (cb_drop N fun p hp => ?_) hd3 ?_ hG
    ⟨oc2, Dc, [], kc, TL, none, none, none, rfl, hd2, .nil, hR, fun p hp _ => hp, hrs, ne2', ne2, ?_⟩ ?_ ?_
  · simp only [List.mem_cons] at hp ⊢
    rcases hp with h | h | h | h | h | h | h <;> simp [h]
  · intro p hp
    rcases List.mem_cons.mp hp with rfl | hp
    · exact n1
    rcases List.mem_cons.mp hp with rfl | hp
    · exact n4
    rcases List.mem_cons.mp hp with rfl | hp
    · exact n5
    rcases List.mem_cons.mp hp with rfl | hp
    · exact n3
    rcases List.mem_cons.mp hp with rfl | hp
    · exact n2
    · exact ne3' p hp
  · rw [anyAt_none (y₀ := Str.ofString "ones") b3, anyAt_none (y₀ := Str.ofString "wanting") b2, anyAt_none (y₀ := Str.ofString "k") b1]
  · rintro m₁ news₁ oc3 c h tk g ⟨oc2, Dc, vsc, kc, tl, o1, o2, o3, rfl, hd2, hvs, hRM, hTL, hrs, t2, nd, rfl⟩ hc F' N' ne' G'
    have : vals.toArray.size = pl.length := by simp [hv.length]
    rw [this, List.take_length] at hvs hRM
    exact done oc3 oc2 Dc vsc kc tl o1 o2 o3 h tk g hvs hd2 hRM hTL hrs F' N' G'
  · rintro I hI i v m₁ news₁ oI oc3 h tk g E' hi ⟨oc2, Dc, vsc, kc, tl, o1, o2, o3, rfl, hd2, hvs, hRM, hTL, hrs, t2, nd, rfl⟩ hc F' N' off hIc G' hS _
    obtain ⟨z, t, rfl, hz⟩ := IntsAre.at hv i v (by simpa using hi)
    obtain ⟨p, hp, rfl⟩ : ∃ p, pl[i]? = some p ∧ z = (p : Int) := by
      rw [List.getElem?_map] at hz
      cases e : pl[i]? with
      | none => rw [e] at hz; cases hz
      | some p => rw [e] at hz; exact ⟨p, rfl, (Option.some.inj hz).symm⟩
    rw [ansAt_take hp]
    exact turn I p t _ oc3 oc2 Dc vsc kc tl o1 o2 o3 oI h tk g E' (hpl p (List.mem_of_getElem? hp)) (ansAt_ok hnum hM₀ _) hc hd2 hvs hRM hTL hrs t2 nd F' N' off (Ne.symm (off (c2, oc2) (.tail _ (.head _))).1) G'
/-- a comprehension that keeps the places of a range that pass a test -/
theorem filt_src (P : Nat → Bool) {L : Addr} {m : Str → Option Value} {mm : Addr → Str → Option Value} {elt : PySem.Expr} {x : Str} {ifs : List PySem.Expr} {scope : Scope} {cl : List (Str × Addr)} {Q' : Addr → Shared → Prop} {r : Addr} {t u v : Tok} {n : Nat} {b : Int} {base : Led}
    (hh : A.handled = none) (F : Fr h₀ L s.heap m) (N : News h₀ L s.heap base) (hG : AllBare s.gens) (hr : IsRange s.heap r 0 b 1 t u v) (hb : b = (n : Nat)) (hn : n ≤ 1000)
    (turn : ∀ (I C D : Addr) (i : Nat) t ys oI oC m₂ h tk gg (E' : Value → Shared → Prop), i < n → IntsAre ys (natZ ((List.range i).filter P)) → NsObj oC m₂ → m₂ x = some (.int (i : Nat) t) → Fr h₀ L h m → News h₀ L h ((I, oI) :: (C, oC) :: (D, lst ys) :: base) → (∀ p ∈ base, p.1 ≠ I ∧ p.1 ≠ C ∧ p.1 ≠ D) → ((@Ne Nat I C) ∧ (@Ne Nat I D) ∧ (@Ne Nat C D)) → AllBare gg →
      wpAny (model prog w) A (testsOf ifs (compEnvC scope cl C env)) (fun ok s' => if ok = true then
        wpAny (model prog w) A (eval elt (compEnvC scope cl C env)) (CompEndO h₀ L m s I oI C D ys (fun _ => True) (fun y news' => news' = base ∧ IntsAre (ys ++ [y]) (natZ ((List.range (i + 1)).filter P))) oC) E' s'
        else CompEndO h₀ L m s I oI C D ys (fun _ => True) (fun _ news' => news' = base ∧ IntsAre ys (natZ ((List.range (i + 1)).filter P))) oC .none s') E' { s with heap := h, toks := tk, gens := gg })
    (done : ∀ D ys h tk gg, IntsAre ys (natZ ((List.range n).filter P)) → Fr h₀ L h (mm D) → News h₀ L h ((D, lst ys) :: base) → (∀ p ∈ base, p.1 ≠ D) → AllBare gg → Q' D { s with heap := h, toks := tk, gens := gg }) :
    SrcO prog w A h₀ L m mm env elt x ifs scope cl Q' (.ref r) s := by
  subst hb
  refine SrcO.range (n := n) hh F N hG hr (small_one (by omega) (by omega) (by omega) (by omega)) (by rw [rangeSize_nat]; congr 1) (by rw [sizeLine_eq]; omega) (fun i ys news₁ => news₁ = base ∧ IntsAre ys (natZ ((List.range i).filter P))) ⟨rfl, .nil⟩ ?_ ?_
  · rintro I hI i v ys news₁ oI C oC D m₂ h tk gg E' hi hyl ⟨t, rfl⟩ ⟨rfl, hys⟩ hoC hm F' N' off ne hG' hS'
    rw [Int.zero_add] at hm
    exact turn I C D i t ys oI oC m₂ h tk gg E' hi hys hoC hm F' N' off ne hG'
  · rintro D ys news' h tk gg ⟨rfl, hys⟩ F' N' off hG'
    exact done D ys h tk gg hys F' N' off hG'
end
theorem filt_yes {P : Nat → Bool} {i : Nat} {ys : List Value} {t : Tok} (h : IntsAre ys (natZ ((List.range i).filter P))) (hp : P i = true) : IntsAre (ys ++ [.int (i : Nat) t]) (natZ ((List.range (i + 1)).filter P)) := by
  rw [List.range_succ, List.filter_append, List.filter_cons, if_pos hp, List.filter_nil, natZ, List.map_append]
  exact h.append (.cons _ _ .nil)
theorem filt_no {P : Nat → Bool} {i : Nat} {ys : List Value} (h : IntsAre ys (natZ ((List.range i).filter P))) (hp : P i = false) : IntsAre ys (natZ ((List.range (i + 1)).filter P)) := by
  rw [List.range_succ, List.filter_append, List.filter_cons, if_neg (by rw [hp]; decide), List.filter_nil, List.append_nil]
  exact h
theorem ans_facts {L D : Addr} {o1 o2 o3 o96 : Obj} {X rest : Led} {ps ps9 : Array Value} (hX : ∀ p ∈ X, ∀ q ∈ (89, tabObj ps) :: (L + 1 + 1 + 1, o1) :: (L + 1 + 1, o2) :: (L + 1, o3) :: (96, o96) :: rest, p.1 ≠ q.1) (lr : AllLt L rest) (l89 : 89 < L) (l96 : 96 < L)
    (off : ∀ p ∈ (89, tabObj ps9) :: (X ++ (L + 1 + 1 + 1, o1) :: (L + 1 + 1, o2) :: (L + 1, o3) :: (96, o96) :: rest), p.1 ≠ D) :
    ((@Ne Nat D (L + 1)) ∧ (@Ne Nat D (L + 1 + 1)) ∧ (@Ne Nat D (L + 1 + 1 + 1))) ∧ (∀ p ∈ (89, tabObj ps9) :: (X ++ (96, o96) :: rest), p.1 ≠ L + 1) ∧ (∀ p ∈ (89, tabObj ps9) :: (X ++ (96, o96) :: rest), p.1 ≠ L + 1 + 1) ∧ (∀ p ∈ (89, tabObj ps9) :: (X ++ (96, o96) :: rest), p.1 ≠ L + 1 + 1 + 1) ∧ (∀ p ∈ (89, tabObj ps9) :: (X ++ (96, o96) :: rest), p.1 ≠ D) := by
  have gen : ∀ (k : Nat) (o : Obj), (L + k, o) ∈ (L + 1 + 1 + 1, o1) :: (L + 1 + 1, o2) :: (L + 1, o3) :: (96, o96) :: rest → ∀ p ∈ (89, tabObj ps9) :: (X ++ (96, o96) :: rest), p.1 ≠ L + k ∨ p.1 = L + k ∧ k = 0 := by
    intro k o hk p hp
    rcases List.mem_cons.mp hp with rfl | hp
    · exact .inl (Nat.ne_of_lt (Nat.lt_of_lt_of_le l89 (Nat.le_add_right _ _)))
    rcases List.mem_append.mp hp with hp | hp
    · exact .inl (hX p hp (L + k, o) (.tail _ hk))
    rcases List.mem_cons.mp hp with rfl | hp
    · exact .inl (Nat.ne_of_lt (Nat.lt_of_lt_of_le l96 (Nat.le_add_right _ _)))
    · exact .inl (Nat.ne_of_lt (Nat.lt_of_lt_of_le (of_allLt lr p hp) (Nat.le_add_right _ _)))
  refine ⟨⟨Ne.symm (off (L + 1, o3) (.tail _ (List.mem_append_right _ (.tail _ (.tail _ (.head _)))))), Ne.symm (off (L + 1 + 1, o2) (.tail _ (List.mem_append_right _ (.tail _ (.head _))))), Ne.symm (off (L + 1 + 1 + 1, o1) (.tail _ (List.mem_append_right _ (.head _))))⟩, ?_, ?_, ?_, ?_⟩
  · exact fun p hp => (gen 1 o3 (.tail _ (.tail _ (.head _))) p hp).elim id fun h => absurd h.2 (by decide)
  · exact fun p hp => (gen 2 o2 (.tail _ (.head _)) p hp).elim id fun h => absurd h.2 (by decide)
  · exact fun p hp => (gen 3 o1 (.head _) p hp).elim id fun h => absurd h.2 (by decide)
  · intro p hp
    refine off p ?_
    rcases List.mem_cons.mp hp with rfl | hp
    · exact .head _
    rcases List.mem_append.mp hp with hp | hp
    · exact .tail _ (List.mem_append_left _ hp)
    · exact .tail _ (List.mem_append_right _ (.tail _ (.tail _ (.tail _ hp))))
theorem ans_sub {d t a b c e : Addr × Obj} {X rest : Led} : ∀ p ∈ d :: a :: b :: c :: t :: (X ++ e :: rest), p ∈ d :: t :: (X ++ a :: b :: c :: e :: rest) := by
  intro p hp
  simp only [List.mem_cons, List.mem_append] at hp ⊢
  rcases hp with h | h | h | h | h | h | h | h <;> simp [h]
noncomputable def bitM (ns : List Nat) (j p : Nat) : Int := (bits ((ns.getD j 0 : Nat) : Int)).getD p 0
theorem bitM_bit (ns : List Nat) : ∀ a p, bitM ns a p = 0 ∨ bitM ns a p = 1 := by
  intro a p
  unfold bitM bits
  rcases p with _ | _ | _ | p
  · exact Int.emod_two_eq _
  · exact Int.emod_two_eq _
  · exact Int.emod_two_eq _
  · exact .inl rfl
theorem rowsM_of {X TL : Led} {rs : List Addr} {ns : List Nat} (h : RowsAre X rs ns) (hl : rs.length = 4) (hn : ns.length = 4) (sub : ∀ p ∈ X, p ∈ TL) : RowsM TL rs (bitM ns) := by
  intro j r hj
  have hj4 : j < 4 := by
    rcases Nat.lt_or_ge j 4 with h | h
    · exact h
    · rw [List.getElem?_eq_none (by omega)] at hj; cases hj
  have hnj : ns[j]? = some (ns.getD j 0) := by
    rw [List.getD_eq_getElem?_getD, List.getElem?_eq_getElem (by omega)]; rfl
  obtain ⟨vs, k, hm, hv⟩ := h j r _ hj hnj
  unfold bits at hv
  obtain ⟨t0, vs1, rfl, hv1⟩ := hv.cons_inv
  obtain ⟨t1, vs2, rfl, hv2⟩ := hv1.cons_inv
  obtain ⟨t2, vs3, rfl, hv3⟩ := hv2.cons_inv
  obtain rfl := hv3.nil_inv
  exact ⟨t0, t1, t2, k, sub _ hm⟩
section
variable {prog : Program} {w : World} {A : Around} {E : Value → Shared → Prop} {s : Shared} {h₀ : Heap} {L : Addr} {m : Str → Option Value}
theorem sub_ref {value slice : PySem.Expr} {D r : Addr} {rs : List Addr} {news : Led} {i : Nat} {u : Tok} {Q : Value → Shared → Prop} (N : News h₀ L s.heap news) (hm : (D, lst (rs.map Value.ref)) ∈ news) (hi : rs[i]? = some r) (hl : i < 4) (h : Q (.ref r) s)
    (hs : subscripted slice false (.ref D) (.int (i : Nat) u) = operate [.ref D, .int (i : Nat) u] (getItem (.ref D) (.int (i : Nat) u)) := by with_unfolding_all rfl) : wpAny (model prog w) A (subscriptTail value slice (.ref D) (.int (i : Nat) u)) Q E s := by
  refine item_listR (items := (rs.map Value.ref).toArray) ⟨_, (N _ hm).1, rfl, _, rfl⟩ (by omega) (by omega) (x := .ref r) ?_ h hs
  rw [Int.toNat_natCast]
  simp [hi]
theorem row_get {value slice : PySem.Expr} {r : Addr} {rs : List Addr} {M : Nat → Nat → Int} {news : Led} {j p : Nat} {u : Tok} {Q : Value → Shared → Prop} (N : News h₀ L s.heap news) (hR : RowsM news rs M) (hj : rs[j]? = some r) (hp : p ≤ 2) (h : ∀ t, Q (.int (M j p) t) s)
    (hs : subscripted slice false (.ref r) (.int (p : Nat) u) = operate [.ref r, .int (p : Nat) u] (getItem (.ref r) (.int (p : Nat) u)) := by with_unfolding_all rfl) : wpAny (model prog w) A (subscriptTail value slice (.ref r) (.int (p : Nat) u)) Q E s := by
  obtain ⟨t0, t1, t2, k, hm⟩ := hR j r hj
  have hl : s.heap.IsList r #[.int (M j 0) t0, .int (M j 1) t1, .int (M j 2) t2] := ⟨_, (N _ hm).1, rfl, _, rfl⟩
  have : p = 0 ∨ p = 1 ∨ p = 2 := by omega
  rcases this with rfl | rfl | rfl
  · exact item_listR hl (by omega) (by omega) (x := .int (M j 0) t0) rfl (h t0) hs
  · exact item_listR hl (by omega) (by omega) (x := .int (M j 1) t1) rfl (h t1) hs
  · exact item_listR hl (by omega) (by omega) (x := .int (M j 2) t2) rfl (h t2) hs
theorem set_row {r : Addr} {rs : List Addr} {M : Nat → Nat → Int} {news : Led} {j p : Nat} {u tv : Tok} {v : Int} {Q : Unit → Shared → Prop} (F : Fr h₀ L s.heap m) (N : News h₀ L s.heap news) (hR : RowsM news rs M) (hj : rs[j]? = some r) (hp : p ≤ 2)
    (h : ∀ h' o', Fr h₀ L h' m → News h₀ L h' (ledPut r o' news) → (∃ t0 t1 t2 k, o' = listOf #[.int (setAt M j p v j 0) t0, .int (setAt M j p v j 1) t1, .int (setAt M j p v j 2) t2] k) → Q () { s with heap := h' }) :
    wpAny (model prog w) A (setItem (.ref r) (.int (p : Nat) u) (.int v tv)) Q E s := by
  obtain ⟨t0, t1, t2, k, hm⟩ := hR j r hj
  have fin : ∀ o' : Obj, Obj.mapSeq (fun x => x.setIfInBounds ((p : Nat) : Int).toNat (.int v tv)) (listOf #[.int (M j 0) t0, .int (M j 1) t1, .int (M j 2) t2] k) = o' → o'.isFreed = false → (∃ t0 t1 t2 k, o' = listOf #[.int (setAt M j p v j 0) t0, .int (setAt M j p v j 1) t1, .int (setAt M j p v j 2) t2] k) → wpAny (model prog w) A (setItem (.ref r) (.int (p : Nat) u) (.int v tv)) Q E s := by
    intro o' e hkd ho'
    refine ki_setAt (N _ hm).1 (by omega) (by omega) (by show (_ : Int) < 3; omega) ?_
    refine h _ o' (F.change (Heap.SameBut.update ..) (N _ hm).2.1 (N _ hm).2.2) (News.put N hm (Heap.SameBut.update ..) ?_) ho'
    rw [Heap.get?_update_self _ (N _ hm).1 (by rw [e]; exact hkd), e]
  have : p = 0 ∨ p = 1 ∨ p = 2 := by omega
  rcases this with rfl | rfl | rfl
  · exact fin (listOf #[.int v tv, .int (M j 1) t1, .int (M j 2) t2] _) rfl rfl ⟨tv, t1, t2, _, by simp [setAt]; rfl⟩
  · exact fin (listOf #[.int (M j 0) t0, .int v tv, .int (M j 2) t2] _) rfl rfl ⟨t0, tv, t2, _, by simp [setAt]; rfl⟩
  · exact fin (listOf #[.int (M j 0) t0, .int (M j 1) t1, .int v tv] _) rfl rfl ⟨t0, t1, tv, _, by simp [setAt]; rfl⟩
end
theorem rs_ne {a b c d l : Addr} {rs : List Addr} {TL : Led} (h : a < l ∧ b < l ∧ c < l ∧ d < l ∧ AllLt l TL) (hr : ∀ r ∈ rs, ∃ o, (r, o) ∈ TL) : ∀ r ∈ rs, r ≠ l := by
  intro r hr'
  obtain ⟨o, ho⟩ := hr r hr'
  exact Nat.ne_of_lt (of_allLt h.2.2.2.2 _ ho)
theorem len_nats {prog : Program} {w : World} {A : Around} {E : Value → Shared → Prop} {s : Shared} {h₀ : Heap} {L D : Addr} {vs : List Value} {l : List Nat} {n : Nat} {news : Led} {Q : Value → Shared → Prop} (N : News h₀ L s.heap news) (hm : (D, ({ cls := .type "list", data := .seq vs.toArray n } : Obj)) ∈ news) (hv : IntsAre vs (natZ l)) (hl : l.length ≤ 1000) (h : ∀ t tk, Q (.int (l.length : Nat) t) { s with toks := tk }) :
    wpAny (model prog w) A (call (.builtin "len") [.ref D]) Q E s := by
  have e : vs.toArray.size = l.length := by simp [hv.length]
  refine PyProof.Rows.len_list ⟨_, (N _ hm).1, rfl, _, rfl⟩ (by rw [e]; omega) ?_
  rw [e]
  exact h _ _
theorem onesL_len (S : St) (p : Nat) : (onesL S p).length ≤ 1000 := by
  unfold onesL
  exact Nat.le_trans (List.length_filter_le _ _) (by rw [List.length_range]; decide)
end SR
end
section
open PySem PySem.W PyProof.Rows PySem.Calls PySem.Spec LCg
set_option Elab.async false
set_option maxRecDepth 100000
namespace SR
theorem ne_nat {a b : Addr} (h : a ≠ b) : @Ne Nat a b := h
theorem onesOf_in {S : St} {p i : Nat} (h : ((natZ S.2).any fun x => x == (i : Int)) = true) : onesOf S.1 S.2 p i = false := by
  unfold onesOf
  have : S.2.contains i = true := by
    rw [List.any_eq_true] at h
    obtain ⟨z, hz, e⟩ := h
    obtain ⟨n, hn, rfl⟩ := List.mem_map.mp hz
    have : n = i := by have := eq_of_beq e; omega
    subst this
    simpa using hn
  rw [this]; rfl
theorem onesOf_out {S : St} {p i : Nat} (h : ((natZ S.2).any fun x => x == (i : Int)) = false) : onesOf S.1 S.2 p i = decide (S.1 i p = 1) := by
  unfold onesOf
  have : S.2.contains i = false := by
    cases e : S.2.contains i with
    | false => rfl
    | true =>
      rw [List.any_eq_false] at h
      have hm : i ∈ S.2 := by simpa using e
      exact absurd (by simp) (h (i : Int) (List.mem_map.mpr ⟨i, hm, rfl⟩))
  rw [this]; rfl
theorem filt_end {h₀ h' : Heap} {L : Addr} {m : Str → Option Value} {s : Shared} {I C D : Addr} {oI oC : Obj} {ys : List Value} {y : Value} {base : Led} {tk : Nat} {gg : Array GenState} {J : Value → Led → Prop} (F : Fr h₀ L h' m) (N : News h₀ L h' ((I, oI) :: (C, oC) :: (D, lst ys) :: base))
    (off : ∀ p ∈ base, p.1 ≠ I ∧ p.1 ≠ C ∧ p.1 ≠ D) (hG : AllBare gg) (hJ : J y base) : CompEndO h₀ L m s I oI C D ys (fun _ => True) J oC y { s with heap := h', toks := tk, gens := gg } :=
  CompEndO.intro F N _ (fun p hp => hp) off hG trivial hJ
section
variable {prog : Program} {w : World} {A : Around} {E : Value → Shared → Prop} {s : Shared} {h₀ : Heap} {env : Env}
theorem nat_get {value slice : PySem.Expr} {L D : Addr} {vs : List Value} {l : List Nat} {news : Led} {i n : Nat} {u : Tok} {Q : Value → Shared → Prop} (N : News h₀ L s.heap news) (hm : (D, listOf vs.toArray n) ∈ news) (hv : IntsAre vs (natZ l)) (hi : i < l.length) (hl : l.length ≤ 1000) (h : ∀ t, Q (.int (l.getD i 0 : Nat) t) s)
    (hs : subscripted slice false (.ref D) (.int (i : Nat) u) = operate [.ref D, .int (i : Nat) u] (getItem (.ref D) (.int (i : Nat) u)) := by with_unfolding_all rfl) : wpAny (model prog w) A (subscriptTail value slice (.ref D) (.int (i : Nat) u)) Q E s := by
  refine item_list_intsR (ns := natZ l) ⟨_, (N _ hm).1, rfl, _, rfl⟩ hv (by omega) (by rw [natZ, List.length_map]; omega) (by omega) (fun t => ?_) hs
  have : (natZ l).getD ((i : Int).toNat) 0 = ((l.getD i 0 : Nat) : Int) := by
    rw [Int.toNat_natCast, natZ, List.getD_eq_getElem?_getD, List.getD_eq_getElem?_getD, List.getElem?_map]
    cases l[i]? <;> rfl
  rw [this]
  exact h t
noncomputable def KJ (e3 e2 e1 eD eC : Addr × Obj) (rs : List Addr) (all : Led) (bm : Str → Option Value) (M : Nat → Nat → Int) (m₁ : Str → Option Value) (news₁ : Led) : Prop :=
  ∃ tl o1, news₁ = e3 :: e2 :: e1 :: eD :: eC :: tl ∧ RowsM tl rs M ∧ (∀ q ∈ all, q.1 ∉ rs → q ∈ tl) ∧ m₁ = anyAt (Str.ofString "k") o1 bm
theorem k_loop (M : Nat → Nat → Int) (ch : List Nat) (wt : Int) (p : Nat) (rs : List Addr) (e3 e2 e1 eD eC : Addr × Obj) {px : Pos} {body : List Stmt} {R : Result → Shared → Prop} {Rg : Addr} {b : Int} {t u v : Tok} {all : Led} {bm : Str → Option Value} {o1 : Option Value} (hh : A.handled = none)
    (hr : IsRange s.heap Rg 0 b 1 t u v) (hb : b = (ch.length : Nat)) (hl : ch.length ≤ 1000) (hx : env.kindOf (Str.ofString "k") = some .local) (hp : (env.scope.kind == .class || (env.scope.kind == .module && env.locals != env.globals)) = false)
    {m' : Str → Option Value} (F : Fr h₀ env.locals s.heap m') (hm : m' = anyAt (Str.ofString "k") o1 bm) (N : News h₀ env.locals s.heap all) (hG : AllBare s.gens) (sub : ∀ q ∈ [e3, e2, e1, eD, eC], q ∈ all) (hR : RowsM all rs M)
    (turn : ∀ (Ik : Addr) (i : Nat) u tl oIk h tk g (E' : Value → Shared → Prop), i < ch.length → RowsM tl rs (setRows M ch wt p i) → (∀ q ∈ all, q.1 ∉ rs → q ∈ tl) → Fr h₀ env.locals h (anyAt (Str.ofString "k") (some (.int (i : Nat) u)) bm) → News h₀ env.locals h ((Ik, oIk) :: e3 :: e2 :: e1 :: eD :: eC :: tl) → (∀ q ∈ e3 :: e2 :: e1 :: eD :: eC :: tl, q.1 ≠ Ik) → AllBare g →
      wpAny (model prog w) A (execs body env) (TurnEnd h₀ env.locals s Ik oIk (fun _ => True) (KJ e3 e2 e1 eD eC rs all bm (setRows M ch wt p (i + 1))) R) E' { s with heap := h, toks := tk, gens := g })
    (done : ∀ tl o1 h tk g, RowsM tl rs (setRows M ch wt p ch.length) → (∀ q ∈ all, q.1 ∉ rs → q ∈ tl) → Fr h₀ env.locals h (anyAt (Str.ofString "k") o1 bm) → News h₀ env.locals h (e3 :: e2 :: e1 :: eD :: eC :: tl) → AllBare g → R (.ok .next) { s with heap := h, toks := tk, gens := g }) :
    wpAny (model prog w) A (pyIter (.ref Rg)) (fun it s₂ => codeAny (model prog w) A (.forLoop (.Name (Str.ofString "k") px) it body [] env) R s₂) E s := by
  subst hb
  subst hm
  have N' : News h₀ env.locals s.heap (e3 :: e2 :: e1 :: eD :: eC :: all) := cb_drop N fun q hq => by
    simp only [List.mem_cons] at hq
    rcases hq with rfl | rfl | rfl | rfl | rfl | hq
    all_goals first | exact hq | exact sub _ (by simp)
  refine for_range (n := ch.length) (fun i m₁ news₁ => KJ e3 e2 e1 eD eC rs all bm (setRows M ch wt p i) m₁ news₁) hh hr (small_one (by omega) (by omega) (by omega) (by omega)) (by rw [rangeSize_nat]; congr 1) hx hp F N' hG ⟨all, o1, rfl, hR, fun q hq _ => hq, rfl⟩ ?_ ?_
  · rintro m₁ news₁ h tk g ⟨tl, o1, rfl, hR', hall, rfl⟩ F' N'' G'
    exact done tl o1 h tk g hR' hall F' N'' G'
  · rintro I hI i u m₁ news₁ oI h tk g E' hi ⟨tl, o1, rfl, hR', hall, rfl⟩ F' N'' off G'
    rw [Int.zero_add, anyAt_set] at F'
    exact turn I i u tl oI h tk g E' hi hR' hall F' N'' off G'
end
theorem k_end {h₀ h' : Heap} {L : Addr} {s : Shared} {e3 e2 e1 eD eC : Addr × Obj} {rs : List Addr} {all tl : Led} {bm : Str → Option Value} {o1 : Option Value} {M : Nat → Nat → Int} {ch : List Nat} {wt v : Int} {p i : Nat} {Ik r : Addr} {oIk o' : Obj} {R : Result → Shared → Prop} {tk : Nat} {g : Array GenState} (F : Fr h₀ L h' (anyAt (Str.ofString "k") o1 bm))
    (N : News h₀ L h' (ledPut r o' ((Ik, oIk) :: e3 :: e2 :: e1 :: eD :: eC :: tl))) (off : ∀ q ∈ e3 :: e2 :: e1 :: eD :: eC :: tl, q.1 ≠ Ik) (hG : AllBare g) (hR : RowsM tl rs (setRows M ch wt p i)) (hall : ∀ q ∈ all, q.1 ∉ rs → q ∈ tl) (hr : rs[ch.getD i 0]? = some r) (hnd : rs.Nodup)
    (ne : ∀ q ∈ [e3, e2, e1, eD, eC], q.1 ∉ rs) (ho : ∃ t0 t1 t2 k, o' = listOf #[.int (setAt (setRows M ch wt p i) (ch.getD i 0) p v (ch.getD i 0) 0) t0, .int (setAt (setRows M ch wt p i) (ch.getD i 0) p v (ch.getD i 0) 1) t1, .int (setAt (setRows M ch wt p i) (ch.getD i 0) p v (ch.getD i 0) 2) t2] k) (hv : v = if (i : Int) < wt then 1 else 0) :
    TurnEnd h₀ L s Ik oIk (fun _ => True) (KJ e3 e2 e1 eD eC rs all bm (setRows M ch wt p (i + 1))) R .next { s with heap := h', toks := tk, gens := g } := by
  have hrm : r ∈ rs := List.mem_of_getElem? hr
  obtain ⟨t0, t1, t2, k, hmr⟩ := hR _ r hr
  have hrI : r ≠ Ik := off (r, _) (.tail _ (.tail _ (.tail _ (.tail _ (.tail _ hmr)))))
  have neR : ∀ q ∈ [e3, e2, e1, eD, eC], q.1 ≠ r := fun q hq e => ne q hq (e ▸ hrm)
  refine ⟨h', tk, g, anyAt (Str.ofString "k") o1 bm, e3 :: e2 :: e1 :: eD :: eC :: ledPut r o' tl, rfl, F, fun q hq => N q ?_, fun q hq => ?_, hG, trivial, ledPut r o' tl, o1, rfl, ?_, fun q hq hn => mem_ledPut (hall q hq hn) (fun e => hn (e ▸ hrm)), rfl⟩
  · simp only [List.mem_cons] at hq
    rcases hq with rfl | rfl | rfl | rfl | rfl | rfl | hq
    · exact mem_ledPut (.head _) (Ne.symm hrI)
    · exact mem_ledPut (.tail _ (.head _)) (neR _ (by simp))
    · exact mem_ledPut (.tail _ (.tail _ (.head _))) (neR _ (by simp))
    · exact mem_ledPut (.tail _ (.tail _ (.tail _ (.head _)))) (neR _ (by simp))
    · exact mem_ledPut (.tail _ (.tail _ (.tail _ (.tail _ (.head _))))) (neR _ (by simp))
    · exact mem_ledPut (.tail _ (.tail _ (.tail _ (.tail _ (.tail _ (.head _)))))) (neR _ (by simp))
    · rcases of_ledPut hq with rfl | ⟨hq, hn⟩
      · exact .head _
      · exact mem_ledPut (.tail _ (.tail _ (.tail _ (.tail _ (.tail _ (.tail _ hq)))))) hn
  · simp only [List.mem_cons] at hq
    rcases hq with rfl | rfl | rfl | rfl | rfl | hq
    · exact off _ (.head _)
    · exact off _ (.tail _ (.head _))
    · exact off _ (.tail _ (.tail _ (.head _)))
    · exact off _ (.tail _ (.tail _ (.tail _ (.head _))))
    · exact off _ (.tail _ (.tail _ (.tail _ (.tail _ (.head _)))))
    · rcases of_ledPut hq with rfl | ⟨hq, hn⟩
      · exact hrI
      · exact off q (.tail _ (.tail _ (.tail _ (.tail _ (.tail _ hq)))))
  · intro j rj hj
    show ∃ t0 t1 t2 k, (rj, listOf #[.int (setAt (setRows M ch wt p i) (ch.getD i 0) p (if (i : Int) < wt then 1 else 0) j 0) t0, .int (setAt (setRows M ch wt p i) (ch.getD i 0) p (if (i : Int) < wt then 1 else 0) j 1) t1, .int (setAt (setRows M ch wt p i) (ch.getD i 0) p (if (i : Int) < wt then 1 else 0) j 2) t2] k) ∈ _
    rw [← hv]
    by_cases e : j = ch.getD i 0
    · subst e
      rw [hr] at hj
      cases hj
      obtain ⟨s0, s1, s2, k', rfl⟩ := ho
      exact ⟨s0, s1, s2, k', .head _⟩
    · obtain ⟨s0, s1, s2, k', hm⟩ := hR j rj hj
      have hne : rj ≠ r := by
        intro e'
        subst e'
        apply e
        have h1 : j < rs.length := by
          rcases Nat.lt_or_ge j rs.length with h | h
          · exact h
          · rw [List.getElem?_eq_none h] at hj; cases hj
        exact (List.getElem?_inj h1 hnd).mp (hj.trans hr.symm)
      refine ⟨s0, s1, s2, k', ?_⟩
      have hs : ∀ q, setAt (setRows M ch wt p i) (ch.getD i 0) p v j q = setRows M ch wt p i j q := fun q => by
        unfold setAt
        rw [if_neg (fun h => e h.1)]
      rw [hs, hs, hs]
      exact mem_ledPut hm hne
theorem map_w {m' bm : Str → Option Value} {vw vo : Value} {o1 o2 o3 : Option Value} (h : ∀ y, m' y = if y = Str.ofString "wanting" then some vw else if y = Str.ofString "ones" then some vo else anyAt (Str.ofString "k") o1 (anyAt (Str.ofString "wanting") o2 (anyAt (Str.ofString "ones") o3 bm)) y) :
    m' = anyAt (Str.ofString "k") o1 (anyAt (Str.ofString "wanting") (some vw) (anyAt (Str.ofString "ones") (some vo) bm)) := by
  funext y
  rw [h]
  by_cases a : y = Str.ofString "wanting"
  · subst a
    have : ¬ (Str.ofString "wanting" = Str.ofString "k") := by decide +kernel
    simp only [anyAt, if_neg this, if_true]
  by_cases b : y = Str.ofString "ones"
  · subst b
    have h1 : ¬ (Str.ofString "ones" = Str.ofString "k") := by decide +kernel
    simp only [anyAt, if_neg h1, if_neg a, if_true]
  · simp only [anyAt, if_neg a, if_neg b]
theorem map_ww {m' bm : Str → Option Value} {vw vw' vo : Value} {o1 o2 o3 : Option Value} (h : ∀ y, m' y = if y = Str.ofString "wanting" then some vw else if y = Str.ofString "wanting" then some vw' else if y = Str.ofString "ones" then some vo else anyAt (Str.ofString "k") o1 (anyAt (Str.ofString "wanting") o2 (anyAt (Str.ofString "ones") o3 bm)) y) :
    m' = anyAt (Str.ofString "k") o1 (anyAt (Str.ofString "wanting") (some vw) (anyAt (Str.ofString "ones") (some vo) bm)) := by
  refine map_w (o2 := o2) (o3 := o3) fun y => ?_
  rw [h]
  by_cases a : y = Str.ofString "wanting"
  · simp only [if_pos a]
  · simp only [if_neg a]
theorem map_w' {bm : Str → Option Value} {vw vo : Value} {o1 o2 o3 : Option Value} : (fun y => if y = Str.ofString "wanting" then some vw else if y = Str.ofString "ones" then some vo else anyAt (Str.ofString "k") o1 (anyAt (Str.ofString "wanting") o2 (anyAt (Str.ofString "ones") o3 bm)) y) =
    anyAt (Str.ofString "k") o1 (anyAt (Str.ofString "wanting") (some vw) (anyAt (Str.ofString "ones") (some vo) bm)) := map_w (o2 := o2) (o3 := o3) fun _ => rfl
theorem map_ww' {bm : Str → Option Value} {vw vw' vo : Value} {o1 o2 o3 : Option Value} : (fun y => if y = Str.ofString "wanting" then some vw else if y = Str.ofString "wanting" then some vw' else if y = Str.ofString "ones" then some vo else anyAt (Str.ofString "k") o1 (anyAt (Str.ofString "wanting") o2 (anyAt (Str.ofString "ones") o3 bm)) y) =
    anyAt (Str.ofString "k") o1 (anyAt (Str.ofString "wanting") (some vw) (anyAt (Str.ofString "ones") (some vo) bm)) := map_ww (vw' := vw') (o2 := o2) (o3 := o3) fun _ => rfl
theorem chAfter_pos {number : Nat} {S : St} {p : Nat} (h : (S.2.length : Int) < (-((onesL S p).length : Int)).fmod number) : chAfter number S p = S.2 ++ (onesL S p).take (number - (-((onesL S p).length : Int)).fmod number).toNat ∧ wantAfter number S p = 0 :=
  ⟨if_pos h, if_pos h⟩
theorem chAfter_neg {number : Nat} {S : St} {p : Nat} (h : ¬ (S.2.length : Int) < (-((onesL S p).length : Int)).fmod number) : chAfter number S p = S.2 ∧ wantAfter number S p = (-((onesL S p).length : Int)).fmod number :=
  ⟨if_neg h, if_neg h⟩
theorem natZ_ch {number : Nat} {S : St} {p : Nat} (h : (S.2.length : Int) < (-((onesL S p).length : Int)).fmod number) : natZ S.2 ++ List.take (number - (-((onesL S p).length : Int)).fmod number).toNat (natZ (onesL S p)) = natZ (chAfter number S p) := by
  rw [(chAfter_pos h).1, natZ, natZ, natZ, List.map_append, List.map_take]
theorem rs_in {tl : Led} {rs : List Addr} {M : Nat → Nat → Int} (h : RowsM tl rs M) : ∀ r ∈ rs, ∃ o, (r, o) ∈ tl := by
  intro r hr
  obtain ⟨j, hj⟩ := List.getElem?_of_mem hr
  obtain ⟨t0, t1, t2, k, hm⟩ := h j r hj
  exact ⟨_, hm⟩
theorem ans_end {h₀ h' : Heap} {L : Addr} {s : Shared} {I ax c1 c2 c3 D9 Dc : Addr} {oI oc1 oc2 oc3 oD : Obj} {vals vsc : List Value} {k kc : Nat} {rs : List Addr} {TL all tl : Led} {bm : Str → Option Value} {o1 o2 o3 c : Option Value} {S' : St} {R : Result → Shared → Prop} {tk : Nat} {g : Array GenState}
    (F : Fr h₀ L h' (anyAt (Str.ofString "k") o1 (anyAt (Str.ofString "wanting") o2 (anyAt (Str.ofString "ones") o3 bm)))) (N : News h₀ L h' ((c3, oc3) :: (c2, oc2) :: (c1, oc1) :: (D9, oD) :: (Dc, listOf vsc.toArray kc) :: tl)) (hd3 : oc3.data = .cell c) (hd2 : oc2.data = .cell (some (.ref Dc))) (hv : IntsAre vsc (natZ S'.2)) (hR : RowsM tl rs S'.1)
    (hall : ∀ q ∈ all, q.1 ∉ rs → q ∈ tl) (hI : (I, oI) ∈ all) (ht : tupA ax vals k ∈ all) (hrI : ∀ r ∈ rs, r ≠ I) (hrt : ∀ r ∈ rs, r ≠ ax) (hr2 : ∀ r ∈ rs, r ≠ c2) (hr3 : ∀ r ∈ rs, r ≠ c3) (hTL : ∀ p ∈ TL, p.1 ∉ rs → p ∈ all ∧ p.1 ≠ I) (e2 : ∀ p ∈ TL, p.1 ≠ c2) (e3 : ∀ p ∈ TL, p.1 ≠ c3)
    (o4 : ax ≠ I ∧ ax ≠ c3) (o5 : c2 ≠ I ∧ c2 ≠ c3) (o6 : c1 ≠ I ∧ c1 ≠ c3) (o7 : D9 ≠ I ∧ D9 ≠ c3) (o8 : Dc ≠ I ∧ Dc ≠ c3) (hDc : @Ne Nat Dc c2) (hrD : ∀ r ∈ rs, r ≠ Dc) (hG : AllBare g) :
    TurnEndC h₀ L s I oI c3 (TupIn ax vals.toArray) (AnsJ (tupA ax vals k) (c1, oc1) (D9, oD) c2 c3 rs TL bm S') R .next { s with heap := h', toks := tk, gens := g } := by
  have kp : ∀ q ∈ tl, q.1 ≠ I → q.1 ≠ c3 → q.1 ≠ c2 → q ∈ tl.filter fun q => decide (q.1 ≠ I) && (decide (q.1 ≠ c3) && decide (q.1 ≠ c2)) := fun q hq h1 h2 h3 => List.mem_filter.mpr ⟨hq, by simp [h1, h2, h3]⟩
  have fp : ∀ q ∈ tl.filter fun q => decide (q.1 ≠ I) && (decide (q.1 ≠ c3) && decide (q.1 ≠ c2)), q ∈ tl ∧ q.1 ≠ I ∧ q.1 ≠ c3 ∧ q.1 ≠ c2 := fun q hq => by
    obtain ⟨a, b⟩ := List.mem_filter.mp hq
    simp only [Bool.and_eq_true, decide_eq_true_eq] at b
    exact ⟨a, b.1, b.2.1, b.2.2⟩
  refine TurnEndC.intro F N (tupA ax vals k :: (c2, oc2) :: (c1, oc1) :: (D9, oD) :: (Dc, listOf vsc.toArray kc) :: tl.filter fun q => decide (q.1 ≠ I) && (decide (q.1 ≠ c3) && decide (q.1 ≠ c2))) (fun q hq => ?_) hd3 (fun q hq => ?_) hG ⟨_, .head _, rfl, _, rfl⟩
    ⟨oc2, Dc, vsc, kc, _, o1, o2, o3, rfl, hd2, hv, ?_, ?_, hrD, fun q hq => (fp q hq).2.2.2, hDc, rfl⟩
  · simp only [List.mem_cons] at hq
    rcases hq with rfl | rfl | rfl | rfl | rfl | rfl | rfl | hq
    · exact .tail _ (.tail _ (.tail _ (.tail _ (.tail _ (hall _ hI fun h => hrI _ h rfl)))))
    · exact .head _
    · exact .tail _ (.tail _ (.tail _ (.tail _ (.tail _ (hall _ ht fun h => hrt _ h rfl)))))
    · exact .tail _ (.head _)
    · exact .tail _ (.tail _ (.head _))
    · exact .tail _ (.tail _ (.tail _ (.head _)))
    · exact .tail _ (.tail _ (.tail _ (.tail _ (.head _))))
    · exact .tail _ (.tail _ (.tail _ (.tail _ (.tail _ (fp q hq).1))))
  · simp only [List.mem_cons] at hq
    rcases hq with rfl | rfl | rfl | rfl | rfl | hq
    · exact o4
    · exact o5
    · exact o6
    · exact o7
    · exact o8
    · exact ⟨(fp q hq).2.1, (fp q hq).2.2.1⟩
  · intro j r hj
    obtain ⟨t0, t1, t2, k, hm⟩ := hR j r hj
    have hr := List.mem_of_getElem? hj
    exact ⟨t0, t1, t2, k, kp _ hm (hrI r hr) (hr3 r hr) (hr2 r hr)⟩
  · intro p hp hn
    obtain ⟨h1, h2⟩ := hTL p hp hn
    exact kp p (hall p h1 hn) h2 (e3 p hp) (e2 p hp)
theorem getD_mem {l : List Nat} {i : Nat} (h : i < l.length) : l.getD i 0 ∈ l := by
  rw [List.getD_eq_getElem?_getD, List.getElem?_eq_getElem h]
  exact List.getElem_mem h
theorem off_rs {c : Addr} {rs : List Addr} {TL : Led} (h : ∀ r ∈ rs, ∃ o, (r, o) ∈ TL) (e : ∀ p ∈ TL, p.1 ≠ c) : ∀ r ∈ rs, r ≠ c := fun r hr => let ⟨_, ho⟩ := h r hr; e _ ho
theorem rs_ne5 {a b c d e l : Addr} {rs : List Addr} {TL : Led} (h : a < l ∧ b < l ∧ c < l ∧ d < l ∧ e < l ∧ AllLt l TL) (hr : ∀ r ∈ rs, ∃ o, (r, o) ∈ TL) : ∀ r ∈ rs, r ≠ l := off_rs hr fun p hp => Nat.ne_of_lt (of_allLt h.2.2.2.2.2 p hp)
theorem lt_tail {a b c d e f g h i l : Addr} {tl : Led} (x : a < l ∧ b < l ∧ c < l ∧ d < l ∧ e < l ∧ f < l ∧ g < l ∧ h < l ∧ i < l ∧ AllLt l tl) : ∀ p ∈ tl, p.1 ≠ l := fun p hp => Nat.ne_of_lt (of_allLt x.2.2.2.2.2.2.2.2.2 p hp)
theorem lt_9 {a b c d e f g h i l : Addr} {tl : Led} (x : a < l ∧ b < l ∧ c < l ∧ d < l ∧ e < l ∧ f < l ∧ g < l ∧ h < l ∧ i < l ∧ AllLt l tl) : (l ≠ c ∧ l ≠ d) ∧ (@Ne Nat l f) := ⟨⟨Nat.ne_of_gt x.2.2.1, Nat.ne_of_gt x.2.2.2.1⟩, Nat.ne_of_gt x.2.2.2.2.2.1⟩
theorem ne_five {e3 e2 e1 eD eC : Addr × Obj} {rs : List Addr} (h3 : ∀ r ∈ rs, r ≠ e3.1) (h2 : ∀ r ∈ rs, r ≠ e2.1) (h1 : ∀ r ∈ rs, r ≠ e1.1) (hD : ∀ r ∈ rs, r ≠ eD.1) (hC : ∀ r ∈ rs, r ≠ eC.1) : ∀ q ∈ [e3, e2, e1, eD, eC], q.1 ∉ rs := by
  intro q hq hr
  simp only [List.mem_cons, List.not_mem_nil, or_false] at hq
  rcases hq with rfl | rfl | rfl | rfl | rfl
  · exact h3 _ hr rfl
  · exact h2 _ hr rfl
  · exact h1 _ hr rfl
  · exact hD _ hr rfl
  · exact hC _ hr rfl
section
variable {prog : Program} {w : World} {A : Around} {E : Value → Shared → Prop} {s : Shared} {h₀ : Heap} {env : Env}
theorem k_loop' (M : Nat → Nat → Int) (ch : List Nat) (wt : Int) (p : Nat) (rs : List Addr) {px : Pos} {body : List Stmt} {R : Result → Shared → Prop} {c1 c2 c3 D9 Dc Rg : Addr} {oc1 oc2 oc3 : Obj} {vsc : List Value} {kc : Nat} {b : Int} {t t' u v : Tok} {all : Led} {bm : Str → Option Value} {o1 : Option Value} (hh : A.handled = none)
    (_d3 : oc3.data = .cell (some (.int (p : Nat) t'))) (_d2 : oc2.data = .cell (some (.ref Dc))) (_d1 : oc1.data = .cell (some (.ref D9))) (_hv : IntsAre vsc (natZ ch)) (hr : IsRange s.heap Rg 0 b 1 t u v) (hb : b = (ch.length : Nat)) (hl : ch.length ≤ 1000) (hx : env.kindOf (Str.ofString "k") = some .local) (hp : (env.scope.kind == .class || (env.scope.kind == .module && env.locals != env.globals)) = false)
    {m' : Str → Option Value} (F : Fr h₀ env.locals s.heap m') (hm : m' = anyAt (Str.ofString "k") o1 bm) (N : News h₀ env.locals s.heap all) (hG : AllBare s.gens) (m3 : (c3, oc3) ∈ all) (m2 : (c2, oc2) ∈ all) (m1 : (c1, oc1) ∈ all) (mD : (D9, lst (rs.map Value.ref)) ∈ all) (mC : (Dc, listOf vsc.toArray kc) ∈ all) (hR : RowsM all rs M)
    (turn : ∀ (Ik : Addr) (i : Nat) u tl oIk h tk g (E' : Value → Shared → Prop), i < ch.length → RowsM tl rs (setRows M ch wt p i) → (∀ q ∈ all, q.1 ∉ rs → q ∈ tl) → Fr h₀ env.locals h (anyAt (Str.ofString "k") (some (.int (i : Nat) u)) bm) → News h₀ env.locals h ((Ik, oIk) :: (c3, oc3) :: (c2, oc2) :: (c1, oc1) :: (D9, lst (rs.map Value.ref)) :: (Dc, listOf vsc.toArray kc) :: tl) → (∀ q ∈ (c3, oc3) :: (c2, oc2) :: (c1, oc1) :: (D9, lst (rs.map Value.ref)) :: (Dc, listOf vsc.toArray kc) :: tl, q.1 ≠ Ik) → AllBare g →
      wpAny (model prog w) A (execs body env) (TurnEnd h₀ env.locals s Ik oIk (fun _ => True) (KJ (c3, oc3) (c2, oc2) (c1, oc1) (D9, lst (rs.map Value.ref)) (Dc, listOf vsc.toArray kc) rs all bm (setRows M ch wt p (i + 1))) R) E' { s with heap := h, toks := tk, gens := g })
    (done : ∀ tl o1 h tk g, RowsM tl rs (setRows M ch wt p ch.length) → (∀ q ∈ all, q.1 ∉ rs → q ∈ tl) → Fr h₀ env.locals h (anyAt (Str.ofString "k") o1 bm) → News h₀ env.locals h ((c3, oc3) :: (c2, oc2) :: (c1, oc1) :: (D9, lst (rs.map Value.ref)) :: (Dc, listOf vsc.toArray kc) :: tl) → AllBare g → R (.ok .next) { s with heap := h, toks := tk, gens := g }) :
    wpAny (model prog w) A (pyIter (.ref Rg)) (fun it s₂ => codeAny (model prog w) A (.forLoop (.Name (Str.ofString "k") px) it body [] env) R s₂) E s := by
  refine k_loop M ch wt p rs (c3, oc3) (c2, oc2) (c1, oc1) (D9, lst (rs.map Value.ref)) (Dc, listOf vsc.toArray kc) hh hr hb hl hx hp F hm N hG ?_ hR turn done
  intro q hq
  simp only [List.mem_cons, List.not_mem_nil, or_false] at hq
  rcases hq with rfl | rfl | rfl | rfl | rfl
  · exact m3
  · exact m2
  · exact m1
  · exact mD
  · exact mC
end
end SR
end
section
open PySem PySem.W PyProof.Rows PySem.Calls PySem.Spec LCg
set_option Elab.async false
set_option maxRecDepth 100000
namespace SR
noncomputable def valOf (M : Nat → Nat → Int) (a : Nat) : Int := M a 0 + 2 * M a 1 + 4 * M a 2
noncomputable def pairsOf (S : St) : List (Nat × Int) := S.2.map fun a => (a, valOf S.1 a)
noncomputable def PairsAre (X : Led) (Ts : List Addr) (prs : List (Nat × Int)) : Prop := ∀ (j : Nat) (T : Addr), Ts[j]? = some T → ∃ a v t t', prs[j]? = some (a, v) ∧ (T, tupO [.int (a : Nat) t, .int v t']) ∈ X
theorem d2i_call {w : World} {p : Program} {loose : List Str} {mean : ExcName → Option Value} {mg mb : Str → Option Value} {dp un : Nat} {gd : Option (List Code)} {cn : Str} {cs : Scope} {a : Addr} {ccd : Value} {cl : List (Str × Addr)} {outer : List Env} {A₀ : Around} {base h₀ : Heap} {L : Addr} {m : Str → Option Value} {s : Shared} {Q E : Value → Shared → Prop}
    {a1 a2 a3 : Addr × Obj} {ps : Array Value} {tl : Led} {rs : List Addr} {M : Nat → Nat → Int} {j : Nat} {r : Addr} {tn : Tok} (B : Below A₀ base outer h₀) (F : Fr h₀ L s.heap m) (X : (SR.hm.heap_1 w.params).In h₀) (N : News h₀ L s.heap (a1 :: a2 :: a3 :: (96, tabObj ps) :: tl)) (T : Top p loose mean mg mb h₀) (hk : cs.kind = .function) (hG : AllBare s.gens) (hd : dp + 20 < recursionLimit) (hu : un + 100 < cLine)
    (hps : TabSt 71 4 qD2I tl ps) (hr : ∀ p ∈ a1 :: a2 :: a3 :: tl, p.1 ≠ 96) (hR : RowsM tl rs M) (hj : rs[j]? = some r) (bit : ∀ a p, M a p = 0 ∨ M a p = 1)
    (ret : ∀ t c' oc ps' h' tk g, Fr h₀ L h' m → News h₀ L h' ((96, tabObj ps') :: (c', oc) :: a1 :: a2 :: a3 :: tl) → AllBare g → c' ≠ 96 → (ps' = ps ∨ ∀ p ∈ a1 :: a2 :: a3 :: tl, p.1 ≠ c') → ps' = #[rawInt 71, rawInt 4, .ref c'] → CodeOk qD2I oc → Q (.int (valOf M j) t) { s with heap := h', toks := tk, gens := g }) :
    wpAny (model PySem.Challenge.rw_sr0056_01.row.prog w) (ktrTop dp un gd cn cs L a ccd cl outer) (call (.ref 101) [.ref r, .int 1 tn]) Q E s := by
  have N' : News h₀ L s.heap ((96, tabObj ps) :: a1 :: a2 :: a3 :: tl) := cb_drop N fun p hp => by
    simp only [List.mem_cons] at hp ⊢
    rcases hp with h | h | h | h | h <;> simp [h]
  obtain ⟨t0, t1, t2, k, hm⟩ := hR j r hj
  have b0 := bit j 0
  have b1 := bit j 1
  have b2 := bit j 2
  refine tell_use (tell_d2i w r k (M j 0) (M j 1) (M j 2) t0 t1 t2 (a1 :: a2 :: a3 :: tl) hr ps (tabSt_more hps fun p hp => .tail _ (.tail _ (.tail _ hp))) (.tail _ (.tail _ (.tail _ hm))) tn (by omega) (by omega) (by omega) (by omega) (by omega) (by omega)) B F X N' T hk hG hd hu ?_
  rintro r news' h' tk' g' F' N'' G' ⟨⟨t, rfl⟩, c', oc, ps', rfl, h1, h2, h3, h4, h5⟩
  exact ret t c' oc ps' h' tk' g' F' N'' G' h1 h3 h4 h5
noncomputable def PairJ (p96 : Array Value) (rest B : Led) (e1 eD : Addr × Obj) (prs : List (Nat × Int)) (i : Nat) (ys : List Value) (news₁ : Led) : Prop :=
  ∃ ps' X Ts, news₁ = (96, tabObj ps') :: e1 :: eD :: (X ++ B) ∧ TabSt 71 4 qD2I (X ++ rest) ps' ∧ ys = Ts.map Value.ref ∧ Ts.length = i ∧ PairsAre X Ts prs ∧ ∀ p ∈ X, ∀ q ∈ (96, tabObj p96) :: e1 :: eD :: B, p.1 ≠ q.1
section
variable {prog : Program} {w : World} {A : Around} {E : Value → Shared → Prop} {s : Shared} {h₀ : Heap} {L : Addr} {m : Str → Option Value} {env : Env}
theorem pairs_src (prs : List (Nat × Int)) (e1 eD : Addr × Obj) {mm : Addr → Str → Option Value} {elt : PySem.Expr} {x : Str} {ifs : List PySem.Expr} {scope : Scope} {cl : List (Str × Addr)} {Q' : Addr → Shared → Prop} {Dc : Addr} {vsc : List Value} {kc : Nat} {ch : List Nat} {p96 : Array Value} {all rest : Led}
    (hh : A.handled = none) (F : Fr h₀ L s.heap m) (N : News h₀ L s.heap all) (hG : AllBare s.gens) (h96 : (96, tabObj p96) ∈ all) (m1 : e1 ∈ all) (mD : eD ∈ all) (mC : (Dc, listOf vsc.toArray kc) ∈ all) (hC : Dc ≠ 96) (hps : TabSt 71 4 qD2I rest p96) (hv : IntsAre vsc (natZ ch)) (hl : ch.length ≤ 1000)
    (turn : ∀ (I C D : Addr) (i a : Nat) t ps' X Ts oI oC m₂ h tk g (E' : Value → Shared → Prop), ch[i]? = some a → Ts.length = i → TabSt 71 4 qD2I (X ++ rest) ps' → PairsAre X Ts prs → (∀ p ∈ X, ∀ q ∈ (96, tabObj p96) :: e1 :: eD :: all.filter (fun p => p.1 != 96), p.1 ≠ q.1) →
      NsObj oC m₂ → m₂ x = some (.int (a : Nat) t) → Fr h₀ L h m → News h₀ L h ((I, oI) :: (C, oC) :: (D, lst (Ts.map Value.ref)) :: (96, tabObj ps') :: e1 :: eD :: (X ++ all.filter (fun p => p.1 != 96))) → (∀ p ∈ (96, tabObj ps') :: e1 :: eD :: (X ++ all.filter (fun p => p.1 != 96)), p.1 ≠ I ∧ p.1 ≠ C ∧ p.1 ≠ D) → ((@Ne Nat I C) ∧ (@Ne Nat I D) ∧ (@Ne Nat C D)) → AllBare g →
      wpAny (model prog w) A (testsOf ifs (compEnvC scope cl C env)) (fun ok s' => if ok = true then
        wpAny (model prog w) A (eval elt (compEnvC scope cl C env)) (CompEndO h₀ L m s I oI C D (Ts.map Value.ref) (SrcAt h₀ Dc vsc.toArray) (fun y news' => PairJ p96 rest (all.filter (fun p => p.1 != 96)) e1 eD prs (i + 1) (Ts.map Value.ref ++ [y]) news') oC) E' s'
        else CompEndO h₀ L m s I oI C D (Ts.map Value.ref) (SrcAt h₀ Dc vsc.toArray) (fun _ news' => PairJ p96 rest (all.filter (fun p => p.1 != 96)) e1 eD prs (i + 1) (Ts.map Value.ref) news') oC .none s') E' { s with heap := h, toks := tk, gens := g })
    (done : ∀ D ps' X Ts h tk g, Ts.length = ch.length → TabSt 71 4 qD2I (X ++ rest) ps' → PairsAre X Ts prs → (∀ p ∈ X, ∀ q ∈ (96, tabObj p96) :: e1 :: eD :: all.filter (fun p => p.1 != 96), p.1 ≠ q.1) →
      Fr h₀ L h (mm D) → News h₀ L h ((D, lst (Ts.map Value.ref)) :: (96, tabObj ps') :: e1 :: eD :: (X ++ all.filter (fun p => p.1 != 96))) → (∀ p ∈ (96, tabObj ps') :: e1 :: eD :: (X ++ all.filter (fun p => p.1 != 96)), p.1 ≠ D) → AllBare g → Q' D { s with heap := h, toks := tk, gens := g }) :
    SrcO prog w A h₀ L m mm env elt x ifs scope cl Q' (.ref Dc) s := by
  have hsz : vsc.toArray.size = ch.length := by simp [hv.length]
  have inB : ∀ p ∈ all.filter (fun p => p.1 != 96), p ∈ all := fun p hp => (List.mem_filter.mp hp).1
  have mC' : (Dc, listOf vsc.toArray kc) ∈ all.filter (fun p => p.1 != 96) := List.mem_filter.mpr ⟨mC, by simpa using hC⟩
  have N' : News h₀ L s.heap ((96, tabObj p96) :: e1 :: eD :: ([] ++ all.filter (fun p => p.1 != 96))) := cb_drop N fun p hp => by
    simp only [List.mem_cons, List.nil_append] at hp
    rcases hp with rfl | rfl | rfl | hp
    · exact h96
    · exact m1
    · exact mD
    · exact inB p hp
  refine SrcO.list hh F N' hG (.inr ⟨_, .tail _ (.tail _ (.tail _ mC')), rfl, _, rfl⟩) (by rw [hsz, sizeLine_eq]; omega) (PairJ p96 rest (all.filter (fun p => p.1 != 96)) e1 eD prs)
    ⟨p96, [], [], rfl, hps, rfl, rfl, (fun j T h => by simp at h), fun p hp => nomatch hp⟩ ?_ ?_
  · rintro I hI i v ys news₁ oI C oC D m₂ h tk g E' hi hyl hP ⟨ps', X, Ts, rfl, ht, rfl, hTl, hpa, hX⟩ hoC hm F' N' off ne hG' hS'
    obtain ⟨z, t, rfl, hz⟩ := IntsAre.at hv i v (by simpa using hP)
    obtain ⟨a, ha, rfl⟩ : ∃ a, ch[i]? = some a ∧ z = (a : Int) := by
      rw [natZ, List.getElem?_map] at hz
      cases e : ch[i]? with
      | none => rw [e] at hz; cases hz
      | some a => rw [e] at hz; exact ⟨a, rfl, (Option.some.inj hz).symm⟩
    exact turn I C D i a t ps' X Ts oI oC m₂ h tk g E' ha hTl ht hpa hX hoC hm F' N' off ne hG'
  · rintro D ys news' h tk g ⟨ps', X, Ts, rfl, ht, rfl, hTl, hpa, hX⟩ F' N' off hG'
    exact done D ps' X Ts h tk g (by omega) ht hpa hX F' N' off hG'
theorem pairs_src' (prs : List (Nat × Int)) {c1 D9 : Addr} {oc1 : Obj} {rs : List Addr} (_d1 : oc1.data = .cell (some (.ref D9))) {mm : Addr → Str → Option Value} {elt : PySem.Expr} {x : Str} {ifs : List PySem.Expr} {scope : Scope} {cl : List (Str × Addr)} {Q' : Addr → Shared → Prop} {Dc : Addr} {vsc : List Value} {kc : Nat} {ch : List Nat} {p96 : Array Value} {all rest : Led}
    (hh : A.handled = none) (F : Fr h₀ L s.heap m) (N : News h₀ L s.heap all) (hG : AllBare s.gens) (h96 : (96, tabObj p96) ∈ all) (m1 : (c1, oc1) ∈ all) (mD : (D9, lst (rs.map Value.ref)) ∈ all) (mC : (Dc, listOf vsc.toArray kc) ∈ all) (hC : Dc ≠ 96) (hps : TabSt 71 4 qD2I rest p96) (hv : IntsAre vsc (natZ ch)) (hl : ch.length ≤ 1000)
    (turn : ∀ (I C D : Addr) (i a : Nat) t ps' X Ts oI oC m₂ h tk g (E' : Value → Shared → Prop), ch[i]? = some a → Ts.length = i → TabSt 71 4 qD2I (X ++ rest) ps' → PairsAre X Ts prs → (∀ p ∈ X, ∀ q ∈ (96, tabObj p96) :: (c1, oc1) :: (D9, lst (rs.map Value.ref)) :: all.filter (fun p => p.1 != 96), p.1 ≠ q.1) →
      NsObj oC m₂ → m₂ x = some (.int (a : Nat) t) → Fr h₀ L h m → News h₀ L h ((I, oI) :: (C, oC) :: (D, lst (Ts.map Value.ref)) :: (96, tabObj ps') :: (c1, oc1) :: (D9, lst (rs.map Value.ref)) :: (X ++ all.filter (fun p => p.1 != 96))) → (∀ p ∈ (96, tabObj ps') :: (c1, oc1) :: (D9, lst (rs.map Value.ref)) :: (X ++ all.filter (fun p => p.1 != 96)), p.1 ≠ I ∧ p.1 ≠ C ∧ p.1 ≠ D) → ((@Ne Nat I C) ∧ (@Ne Nat I D) ∧ (@Ne Nat C D)) → AllBare g →
      wpAny (model prog w) A (testsOf ifs (compEnvC scope cl C env)) (fun ok s' => if ok = true then
        wpAny (model prog w) A (eval elt (compEnvC scope cl C env)) (CompEndO h₀ L m s I oI C D (Ts.map Value.ref) (SrcAt h₀ Dc vsc.toArray) (fun y news' => PairJ p96 rest (all.filter (fun p => p.1 != 96)) (c1, oc1) (D9, lst (rs.map Value.ref)) prs (i + 1) (Ts.map Value.ref ++ [y]) news') oC) E' s'
        else CompEndO h₀ L m s I oI C D (Ts.map Value.ref) (SrcAt h₀ Dc vsc.toArray) (fun _ news' => PairJ p96 rest (all.filter (fun p => p.1 != 96)) (c1, oc1) (D9, lst (rs.map Value.ref)) prs (i + 1) (Ts.map Value.ref) news') oC .none s') E' { s with heap := h, toks := tk, gens := g })
    (done : ∀ D ps' X Ts h tk g, Ts.length = ch.length → TabSt 71 4 qD2I (X ++ rest) ps' → PairsAre X Ts prs → (∀ p ∈ X, ∀ q ∈ (96, tabObj p96) :: (c1, oc1) :: (D9, lst (rs.map Value.ref)) :: all.filter (fun p => p.1 != 96), p.1 ≠ q.1) →
      Fr h₀ L h (mm D) → News h₀ L h ((D, lst (Ts.map Value.ref)) :: (96, tabObj ps') :: (c1, oc1) :: (D9, lst (rs.map Value.ref)) :: (X ++ all.filter (fun p => p.1 != 96))) → (∀ p ∈ (96, tabObj ps') :: (c1, oc1) :: (D9, lst (rs.map Value.ref)) :: (X ++ all.filter (fun p => p.1 != 96)), p.1 ≠ D) → AllBare g → Q' D { s with heap := h, toks := tk, gens := g }) :
    SrcO prog w A h₀ L m mm env elt x ifs scope cl Q' (.ref Dc) s := 
  pairs_src prs (c1, oc1) (D9, lst (rs.map Value.ref)) hh F N hG h96 m1 mD mC hC hps hv hl turn done
end
theorem pair_perm {I C D a c T e d : Addr × Obj} {Z l : Led} (h : ∀ p ∈ I :: C :: D :: a :: c :: T :: e :: d :: Z, p ∈ l) : ∀ p ∈ I :: C :: D :: a :: e :: d :: c :: T :: Z, p ∈ l := by
  intro p hp
  refine h p ?_
  simp only [List.mem_cons] at hp ⊢
  rcases hp with h | h | h | h | h | h | h | h | h <;> simp [h]
theorem pair_skip {I C D a e d c T : Addr × Obj} {Z : Led} : ∀ p ∈ I :: C :: D :: a :: e :: d :: T :: Z, p ∈ I :: C :: D :: a :: e :: d :: c :: T :: Z := by
  intro p hp
  simp only [List.mem_cons] at hp ⊢
  rcases hp with h | h | h | h | h | h | h | h <;> simp [h]
theorem pairs_end {h₀ h' : Heap} {L : Addr} {m : Str → Option Value} {s : Shared} {I C D Dc T c' : Addr} {oI oC oc : Obj} {Ts : List Addr} {prs : List (Nat × Int)} {e1 eD : Addr × Obj} {kc i a : Nat} {v : Int} {t t' : Tok} {p96 ps0 ps' : Array Value} {X B rest all : Led} {vsc : List Value} {tk : Nat} {g : Array GenState} (F : Fr h₀ L h' m) (N : News h₀ L h' all)
    (sub : ∀ p ∈ (I, oI) :: (C, oC) :: (D, lst (Ts.map Value.ref)) :: (96, tabObj ps') :: (c', oc) :: (T, tupO [.int (a : Nat) t, .int v t']) :: e1 :: eD :: (X ++ B), p ∈ all)
    (off : ∀ p ∈ (96, tabObj ps0) :: e1 :: eD :: (X ++ B), p.1 ≠ I ∧ p.1 ≠ C ∧ p.1 ≠ D) (hG : AllBare g) (mC : (Dc, listOf vsc.toArray kc) ∈ B) (hn : prs[i]? = some (a, v)) (hl : Ts.length = i) (ht : TabSt 71 4 qD2I (X ++ rest) ps0) (hpa : PairsAre X Ts prs) (hX : ∀ p ∈ X, ∀ q ∈ (96, tabObj p96) :: e1 :: eD :: B, p.1 ≠ q.1)
    (hT : ∀ p ∈ (I, oI) :: (C, oC) :: (D, lst (Ts.map Value.ref)) :: e1 :: eD :: (X ++ B), p.1 < T) (hT96 : 96 < T) (hc : ps' = ps0 ∨ ∀ p ∈ (I, oI) :: (C, oC) :: (D, lst (Ts.map Value.ref)) :: e1 :: eD :: (X ++ B), p.1 ≠ c') (hc96 : c' ≠ 96) (hps : ps' = #[rawInt 71, rawInt 4, .ref c']) (hok : CodeOk qD2I oc) :
    CompEndO h₀ L m s I oI C D (Ts.map Value.ref) (SrcAt h₀ Dc vsc.toArray) (fun y news' => PairJ p96 rest B e1 eD prs (i + 1) (Ts.map Value.ref ++ [y]) news') oC (.ref T) { s with heap := h', toks := tk, gens := g } := by
  have o96 := off (96, tabObj ps0) (.head _)
  have offT : ∀ p ∈ (T, tupO [.int (a : Nat) t, .int v t']) :: (X ++ B), p.1 ≠ I ∧ p.1 ≠ C ∧ p.1 ≠ D :=
    fc ⟨Nat.ne_of_gt (hT _ (.head _)), Nat.ne_of_gt (hT _ (.tail _ (.head _))), Nat.ne_of_gt (hT _ (.tail _ (.tail _ (.head _))))⟩ fun p hp => off p (.tail _ (.tail _ (.tail _ hp)))
  have pa : ∀ X' : Led, (∀ p ∈ X, p ∈ X') → (T, tupO [.int (a : Nat) t, .int v t']) ∈ X' → PairsAre X' (Ts ++ [T]) prs := by
    intro X' h1 h2 j T' hj
    by_cases hji : j < Ts.length
    · rw [List.getElem?_append_left hji] at hj
      obtain ⟨a', v', s1, s2, e, hm⟩ := hpa j T' hj
      exact ⟨a', v', s1, s2, e, h1 _ hm⟩
    · rw [List.getElem?_append_right (by omega)] at hj
      have hj0 : j - Ts.length = 0 := by
        rcases Nat.eq_zero_or_pos (j - Ts.length) with h | h
        · exact h
        · rw [List.getElem?_eq_none (by simp; omega)] at hj; cases hj
      rw [hj0] at hj
      simp only [List.getElem?_cons_zero, Option.some.injEq] at hj
      subst hj
      have : j = i := by omega
      subst this
      exact ⟨a, v, t, t', hn, h2⟩
  have hXT : ∀ q ∈ (96, tabObj p96) :: e1 :: eD :: B, T ≠ q.1 :=
    fc (Nat.ne_of_gt hT96) (fc (Nat.ne_of_gt (hT _ (.tail _ (.tail _ (.tail _ (.head _)))))) (fc (Nat.ne_of_gt (hT _ (.tail _ (.tail _ (.tail _ (.tail _ (.head _))))))) fun q hq => Nat.ne_of_gt (hT q (.tail _ (.tail _ (.tail _ (.tail _ (.tail _ (List.mem_append_right _ hq)))))))))
  have oE1 := off e1 (.tail _ (.head _))
  have oED := off eD (.tail _ (.tail _ (.head _)))
  have m : ∀ {l : Led}, (∀ p ∈ (I, oI) :: (C, oC) :: (D, lst (Ts.map Value.ref)) :: (96, tabObj ps') :: (c', oc) :: (T, tupO [.int (a : Nat) t, .int v t']) :: e1 :: eD :: (X ++ B), p ∈ l) → ∀ p ∈ (I, oI) :: (C, oC) :: (D, lst (Ts.map Value.ref)) :: (96, tabObj ps') :: e1 :: eD :: (c', oc) :: (T, tupO [.int (a : Nat) t, .int v t']) :: (X ++ B), p ∈ l := fun h => pair_perm h
  rcases hc with hc | hc
  · refine CompEndO.intro F N ((96, tabObj ps') :: e1 :: eD :: ((T, tupO [.int (a : Nat) t, .int v t']) :: X ++ B)) (fun p hp => m sub p (pair_skip p hp)) (fc o96 (fc oE1 (fc oED offT))) hG (.inr ⟨_, .tail _ (.tail _ (.tail _ (.tail _ (List.mem_append_right _ mC)))), rfl, _, rfl⟩)
      ⟨ps', (T, tupO [.int (a : Nat) t, .int v t']) :: X, Ts ++ [T], rfl, by rw [hc]; exact tabSt_more ht fun p hp => .tail _ hp, by simp, by simp [hl], pa _ (fun p hp => .tail _ hp) (.head _), fc (p := fun p : Addr × Obj => ∀ q ∈ (96, tabObj p96) :: e1 :: eD :: B, p.1 ≠ q.1) hXT hX⟩
  · refine CompEndO.intro F N ((96, tabObj ps') :: e1 :: eD :: ((c', oc) :: (T, tupO [.int (a : Nat) t, .int v t']) :: X ++ B)) (m sub) (fc o96 (fc oE1 (fc oED (fc ⟨Ne.symm (hc (I, oI) (.head _)), Ne.symm (hc (C, oC) (.tail _ (.head _))), Ne.symm (hc (D, lst (Ts.map Value.ref)) (.tail _ (.tail _ (.head _))))⟩ offT)))) hG (.inr ⟨_, .tail _ (.tail _ (.tail _ (.tail _ (.tail _ (List.mem_append_right _ mC))))), rfl, _, rfl⟩)
      ⟨ps', (c', oc) :: (T, tupO [.int (a : Nat) t, .int v t']) :: X, Ts ++ [T], rfl, ?_, by simp, by simp [hl], pa _ (fun p hp => .tail _ (.tail _ hp)) (.tail _ (.head _)), fc (p := fun p : Addr × Obj => ∀ q ∈ (96, tabObj p96) :: e1 :: eD :: B, p.1 ≠ q.1) (fc hc96 (fc (Ne.symm (hc _ (.tail _ (.tail _ (.tail _ (.head _)))))) (fc (Ne.symm (hc _ (.tail _ (.tail _ (.tail _ (.tail _ (.head _))))))) fun q hq => Ne.symm (hc q (.tail _ (.tail _ (.tail _ (.tail _ (.tail _ (List.mem_append_right _ hq))))))))))  (fc hXT hX)⟩
    · obtain ⟨vs', t', h1, h2⟩ := hok
      exact .inr ⟨c', oc, vs', t', hps, .head _, h1, h2⟩
theorem pair_sub {T t c I C D e1 eD : Addr × Obj} {l : Led} : ∀ p ∈ I :: C :: D :: t :: c :: T :: e1 :: eD :: l, p ∈ T :: t :: c :: I :: C :: D :: e1 :: eD :: l := by
  intro p hp
  simp only [List.mem_cons] at hp ⊢
  rcases hp with h | h | h | h | h | h | h | h | h <;> simp [h]
theorem pair_lt {a c I C D e d T : Addr} {oI oC oD oe od : Obj} {l : Led} (h : a < T ∧ c < T ∧ I < T ∧ C < T ∧ D < T ∧ e < T ∧ d < T ∧ AllLt T l) : ∀ p ∈ (I, oI) :: (C, oC) :: (D, oD) :: (e, oe) :: (d, od) :: l, p.1 < T := by
  obtain ⟨_, _, h1, h2, h3, h4, h5, h6⟩ := h
  intro p hp
  simp only [List.mem_cons] at hp
  rcases hp with rfl | rfl | rfl | rfl | rfl | hp
  · exact h1
  · exact h2
  · exact h3
  · exact h4
  · exact h5
  · exact of_allLt h6 p hp
theorem rowsM_filter {tl all : Led} {rs : List Addr} {M : Nat → Nat → Int} (h : RowsM tl rs M) (sub : ∀ p ∈ tl, p ∈ all) (hr : ∀ r ∈ rs, r ≠ 96) : RowsM (all.filter (fun p => p.1 != 96)) rs M := fun j r hj =>
  let ⟨t0, t1, t2, k, hm⟩ := h j r hj; ⟨t0, t1, t2, k, List.mem_filter.mpr ⟨sub _ hm, by simpa using hr r (List.mem_of_getElem? hj)⟩⟩
theorem RowsM.mono {tl tl' : Led} {rs : List Addr} {M : Nat → Nat → Int} (h : RowsM tl rs M) (sub : ∀ p ∈ tl, p ∈ tl') : RowsM tl' rs M := fun j r hj =>
  (h j r hj).elim fun t0 H => H.elim fun t1 H => H.elim fun t2 H => H.elim fun k hm => ⟨t0, t1, t2, k, sub _ hm⟩
theorem tab_clean {h₀ h : Heap} {L : Addr} {a1 a2 a3 : Addr} {o1 o2 o3 : Obj} {x1 x2 x3 : Option Value} {X rest all : Led} {rs : List Addr} {M : Nat → Nat → Int} {p96 ps9 : Array Value} (N : News h₀ L h all) (sub : ∀ p ∈ X ++ (a1, o1) :: (a2, o2) :: (a3, o3) :: (96, tabObj p96) :: rest, p ∈ all) (ht : TabSt 56 4 qI2D (X ++ (a1, o1) :: (a2, o2) :: (a3, o3) :: (96, tabObj p96) :: rest) ps9)
    (d1 : o1.data = .cell x1) (d2 : o2.data = .cell x2) (d3 : o3.data = .cell x3) (h96 : TabSt 71 4 qD2I rest p96) (hR : RowsM X rs M) : TabSt 56 4 qI2D (X.filter (fun p => decide (p.1 ∉ rs)) ++ rest) ps9 := by
  rcases ht with h | ⟨c', oc, vs, t, h1, h2, h3, h4⟩
  · exact .inl h
  · refine .inr ⟨c', oc, vs, t, h1, ?_, h3, h4⟩
    rcases List.mem_append.mp h2 with hx | hx
    · refine List.mem_append_left _ (List.mem_filter.mpr ⟨hx, decide_eq_true fun hr => ?_⟩)
      obtain ⟨j, hj⟩ := List.getElem?_of_mem hr
      obtain ⟨t0, t1, t2, k, hm⟩ := hR j c' hj
      have e1 := (N _ (sub _ (List.mem_append_left _ hm))).1
      rw [(N _ (sub _ (List.mem_append_left _ hx))).1] at e1
      cases e1
      cases h3
    · simp only [List.mem_cons] at hx
      rcases hx with hx | hx | hx | hx | hx
      · cases hx; rw [d1] at h3; cases h3
      · cases hx; rw [d2] at h3; cases h3
      · cases hx; rw [d3] at h3; cases h3
      · cases hx
        have h3' : (Data.fields p96) = .fields vs := h3
        cases h3'
        rcases h96 with rfl | ⟨c2, oc2, vs2, t2, rfl, _⟩
        · cases h4
        · simp [rawInt] at h4
      · exact List.mem_append_right _ hx
/-- what an answer tells: the pairs of heap and left, made anew; the two tables and what stood before -/
noncomputable def AnsPost (ps p96 : Array Value) (rest : Led) (prs : List (Nat × Int)) (r : Value) (news' : Led) : Prop :=
  ∃ D Ts ps' p96' X, r = .ref D ∧ news' = (89, tabObj ps') :: (96, tabObj p96') :: (X ++ rest) ∧ TabSt 56 4 qI2D (X ++ rest) ps' ∧ TabSt 71 4 qD2I (X ++ rest) p96' ∧ (∀ p ∈ X, ∀ q ∈ (89, tabObj ps) :: (96, tabObj p96) :: rest, p.1 ≠ q.1) ∧ (D, lst (Ts.map Value.ref)) ∈ X ∧ Ts.length = prs.length ∧ PairsAre X Ts prs
theorem ans_post {h₀ h : Heap} {L D : Addr} {e1 eD : Addr × Obj} {a1 a2 a3 : Addr × Obj} {ps p96 ps9 ps' : Array Value} {X X9 B rest TL : Led} {rs Ts : List Addr} {prs : List (Nat × Int)} (N : News h₀ L h ((D, lst (Ts.map Value.ref)) :: (96, tabObj ps') :: e1 :: eD :: (X ++ B)))
    (hTL : (89, tabObj ps9) :: (X9 ++ (96, tabObj p96) :: rest) = TL) (inB : ∀ p ∈ TL, p.1 ∉ rs → p.1 ≠ 96 → p ∈ B) (off : ∀ p ∈ (96, tabObj ps') :: e1 :: eD :: (X ++ B), p.1 ≠ D) (hX : ∀ p ∈ X, ∀ q ∈ (96, tabObj p96) :: e1 :: eD :: B, p.1 ≠ q.1) (hX9 : ∀ p ∈ X9, ∀ q ∈ (89, tabObj ps) :: a1 :: a2 :: a3 :: (96, tabObj p96) :: rest, p.1 ≠ q.1)
    (hr89 : ∀ r ∈ rs, r ≠ 89) (hrr : ∀ r ∈ rs, ∀ q ∈ rest, r ≠ q.1) (h96 : ∀ p ∈ rest, p.1 ≠ 96) (h89 : ∀ p ∈ rest, p.1 ≠ 89) (t1 : TabSt 56 4 qI2D (X9.filter (fun p => decide (p.1 ∉ rs)) ++ rest) ps9) (t2 : TabSt 71 4 qD2I (X ++ rest) ps') (hl : Ts.length = prs.length) (hp : PairsAre X Ts prs) :
    ∃ news', News h₀ L h news' ∧ AnsPost ps p96 rest prs (.ref D) news' := by
  have b89 : (89, tabObj ps9) ∈ B := inB _ (hTL ▸ .head _) (fun h => hr89 _ h rfl) (show (89 : Nat) ≠ 96 by decide)
  have brest : ∀ q ∈ rest, q ∈ B := fun q hq => inB q (hTL ▸ .tail _ (List.mem_append_right _ (.tail _ hq))) (fun h => hrr _ h q hq rfl) (h96 q hq)
  have bX9 : ∀ q ∈ X9.filter (fun p => decide (p.1 ∉ rs)), q ∈ B := fun q hq => by
    obtain ⟨h1, h2⟩ := List.mem_filter.mp hq
    exact inB q (hTL ▸ .tail _ (List.mem_append_left _ h1)) (of_decide_eq_true h2) (hX9 q h1 (96, tabObj p96) (.tail _ (.tail _ (.tail _ (.tail _ (.head _))))))
  refine ⟨_, fun p hp => N p ?_, D, Ts, ps9, ps', (D, lst (Ts.map Value.ref)) :: (X ++ X9.filter (fun p => decide (p.1 ∉ rs))), rfl, rfl, tabSt_more t1 ?_, tabSt_more t2 ?_, ?_, .head _, hl, fun j T hj => ?_⟩
  · simp only [List.mem_cons, List.mem_append, List.cons_append] at hp
    rcases hp with h | h | h | (h | h) | h
    · exact h ▸ .tail _ (.tail _ (.tail _ (.tail _ (List.mem_append_right _ b89))))
    · exact h ▸ .tail _ (.head _)
    · exact h ▸ .head _
    · exact .tail _ (.tail _ (.tail _ (.tail _ (List.mem_append_left _ h))))
    · exact .tail _ (.tail _ (.tail _ (.tail _ (List.mem_append_right _ (bX9 p h)))))
    · exact .tail _ (.tail _ (.tail _ (.tail _ (List.mem_append_right _ (brest p h)))))
  · intro p hp
    rcases List.mem_append.mp hp with h | h
    · exact List.mem_append_left _ (.tail _ (List.mem_append_right _ h))
    · exact List.mem_append_right _ h
  · intro p hp
    rcases List.mem_append.mp hp with h | h
    · exact List.mem_append_left _ (.tail _ (List.mem_append_left _ h))
    · exact List.mem_append_right _ h
  · intro p hp q hq
    have qc : q.1 = 96 ∨ ∃ q' ∈ B, q'.1 = q.1 := by
      rcases List.mem_cons.mp hq with rfl | hq
      · exact .inr ⟨_, b89, rfl⟩
      rcases List.mem_cons.mp hq with rfl | hq
      · exact .inl rfl
      · exact .inr ⟨q, brest q hq, rfl⟩
    rcases List.mem_cons.mp hp with rfl | hp
    · rcases qc with h | ⟨q', h1, h2⟩
      · rw [h]; exact Ne.symm (off _ (.head _))
      · rw [← h2]; exact Ne.symm (off q' (.tail _ (.tail _ (.tail _ (List.mem_append_right _ h1)))))
    rcases List.mem_append.mp hp with hp | hp
    · rcases qc with h | ⟨q', h1, h2⟩
      · rw [h]; exact hX p hp _ (.head _)
      · rw [← h2]; exact hX p hp q' (.tail _ (.tail _ (.tail _ h1)))
    · have h1 := (List.mem_filter.mp hp).1
      rcases List.mem_cons.mp hq with rfl | hq
      · exact hX9 p h1 (89, tabObj ps) (.head _)
      rcases List.mem_cons.mp hq with rfl | hq
      · exact hX9 p h1 (96, tabObj p96) (.tail _ (.tail _ (.tail _ (.tail _ (.head _)))))
      · exact hX9 p h1 q (.tail _ (.tail _ (.tail _ (.tail _ (.tail _ hq)))))
  · obtain ⟨a, v, t, t', h1, h2⟩ := hp j T hj
    exact ⟨a, v, t, t', h1, .tail _ (List.mem_append_left _ h2)⟩
theorem pair_off {I C D e d : Addr} {oI oC oD oe od : Obj} {p96 ps : Array Value} {X all : Led} (off : ∀ p ∈ (96, tabObj ps) :: (e, oe) :: (d, od) :: (X ++ all.filter (fun p => p.1 != 96)), p.1 ≠ I ∧ p.1 ≠ C ∧ p.1 ≠ D) (hX : ∀ p ∈ X, ∀ q ∈ (96, tabObj p96) :: (e, oe) :: (d, od) :: all.filter (fun p => p.1 != 96), p.1 ≠ q.1) (he : e ≠ 96) (hd : d ≠ 96) : ∀ p ∈ (I, oI) :: (C, oC) :: (D, oD) :: (e, oe) :: (d, od) :: (X ++ all.filter (fun p => p.1 != 96)), p.1 ≠ 96 := by
  intro p hp
  have o := off (96, tabObj ps) (.head _)
  simp only [List.mem_cons] at hp
  rcases hp with rfl | rfl | rfl | rfl | rfl | hp
  · exact Ne.symm o.1
  · exact Ne.symm o.2.1
  · exact Ne.symm o.2.2
  · exact he
  · exact hd
  rcases List.mem_append.mp hp with hp | hp
  · exact hX p hp _ (.head _)
  · simpa using (List.mem_filter.mp hp).2
theorem pairsOf_get {S : St} {i a : Nat} (h : S.2[i]? = some a) : (pairsOf S)[i]? = some (a, valOf S.1 a) := by
  unfold pairsOf
  rw [List.getElem?_map, h]; rfl
theorem inB_of {h₀ h : Heap} {L : Addr} {all tl TL : Led} {rs : List Addr} (_N : News h₀ L h all) (sub : ∀ p ∈ tl, p ∈ all) (hTL : ∀ p ∈ TL, p.1 ∉ rs → p ∈ tl) : ∀ p ∈ TL, p.1 ∉ rs → p.1 ≠ 96 → p ∈ all.filter (fun p => p.1 != 96) :=
  fun p hp h1 h2 => List.mem_filter.mpr ⟨sub p (hTL p hp h1), by simpa using h2⟩
theorem pair_rows {h₀ h : Heap} {L : Addr} {i c d t e1 eD : Addr × Obj} {X tl all : Led} {rs : List Addr} {M : Nat → Nat → Int} (_N : News h₀ L h (i :: c :: d :: t :: e1 :: eD :: (X ++ all.filter (fun p => p.1 != 96)))) (hR : RowsM tl rs M) (sub : ∀ p ∈ tl, p ∈ all) (z : ∀ r ∈ rs, r ≠ 96) :
    RowsM (e1 :: eD :: (X ++ all.filter (fun p => p.1 != 96))) rs M := (rowsM_filter hR sub z).mono fun _ hp => .tail _ (.tail _ (List.mem_append_right _ hp))
theorem pair_tab {h₀ h : Heap} {L : Addr} {i c d t e1 eD : Addr × Obj} {X rest all : Led} {ps : Array Value} (_N : News h₀ L h (i :: c :: d :: t :: e1 :: eD :: (X ++ all.filter (fun p => p.1 != 96)))) (ht : TabSt 71 4 qD2I (X ++ rest) ps) (inr : ∀ p ∈ rest, p ∈ all.filter (fun p => p.1 != 96)) :
    TabSt 71 4 qD2I (e1 :: eD :: (X ++ all.filter (fun p => p.1 != 96))) ps := tabSt_more ht fun p hp => by
  rcases List.mem_append.mp hp with h | h
  · exact .tail _ (.tail _ (List.mem_append_left _ h))
  · exact .tail _ (.tail _ (List.mem_append_right _ (inr p h)))
theorem in_filter {h₀ h : Heap} {L : Addr} {all : Led} {p : Addr × Obj} (_N : News h₀ L h all) (hp : p ∈ all) (hn : p.1 ≠ 96) : p ∈ all.filter (fun p => p.1 != 96) := List.mem_filter.mpr ⟨hp, by simpa using hn⟩
end SR
end
section
open PySem PySem.W PyProof.Rows PySem.Calls PySem.Spec LCg
set_option Elab.async false
set_option maxRecDepth 100000
namespace SR
/-- the list of pairs stands in a ledger -/
noncomputable def PrIn (D : Addr) (Ts : List Addr) (vals : Nat → Array Value) (news : Led) : Prop := (∃ n, (D, listOf (Ts.map Value.ref).toArray n) ∈ news) ∧ ∀ (j : Nat) (T : Addr), Ts[j]? = some T → (T, ({ cls := .type "tuple", data := .seq (vals j) } : Obj)) ∈ news
noncomputable def ValsOk (Ts : List Addr) (vals : Nat → Array Value) (prs : List (Nat × Int)) : Prop := ∀ (j : Nat) (T : Addr), Ts[j]? = some T → ∃ a v t t', prs[j]? = some (a, v) ∧ vals j = #[.int (a : Nat) t, .int v t']
theorem PrIn.mono {D : Addr} {Ts : List Addr} {vals : Nat → Array Value} {news news' : Led} (h : PrIn D Ts vals news) (sub : ∀ p ∈ news, p ∈ news') : PrIn D Ts vals news' := ⟨let ⟨n, h1⟩ := h.1; ⟨n, sub _ h1⟩, fun j T hj => sub _ (h.2 j T hj)⟩
theorem PairsAre.mono {X X' : Led} {Ts : List Addr} {prs : List (Nat × Int)} (h : PairsAre X Ts prs) (sub : ∀ p ∈ X, p ∈ X') : PairsAre X' Ts prs := fun j T hj =>
  (h j T hj).elim fun a H => H.elim fun v H => H.elim fun t H => H.elim fun t' H => ⟨a, v, t, t', H.1, sub _ H.2⟩
theorem PairsAre.prIn {X : Led} {D : Addr} {n : Nat} {Ts : List Addr} {prs : List (Nat × Int)} (h : PairsAre X Ts prs) (hD : (D, listOf (Ts.map Value.ref).toArray n) ∈ X) : ∃ vals, PrIn D Ts vals X ∧ ValsOk Ts vals prs := by
  have : ∀ j : Nat, ∃ va : Array Value, ∀ T, Ts[j]? = some T → (∃ a v t t', prs[j]? = some (a, v) ∧ va = #[.int (a : Nat) t, .int v t']) ∧ (T, ({ cls := .type "tuple", data := .seq va } : Obj)) ∈ X := by
    intro j
    cases e : Ts[j]? with
    | none => exact ⟨#[], fun T hT => by cases hT⟩
    | some T =>
      obtain ⟨a, v, t, t', h1, h2⟩ := h j T e
      exact ⟨#[.int (a : Nat) t, .int v t'], fun T' hT' => by cases hT'; exact ⟨⟨a, v, t, t', h1, rfl⟩, h2⟩⟩
  obtain ⟨vals, hv⟩ := Classical.axiomOfChoice this
  exact ⟨vals, ⟨⟨n, hD⟩, fun j T hj => (hv j T hj).2⟩, fun j T hj => (hv j T hj).1⟩
section
variable {prog : Program} {w : World} {A : Around} {E : Value → Shared → Prop} {s : Shared} {h₀ : Heap} {L : Addr} {m : Str → Option Value} {env : Env}
noncomputable def SrcOT (prog : Program) (w : World) (A : Around) (h₀ : Heap) (L : Addr) (m : Str → Option Value) (mm : Addr → Str → Option Value) (env : Env) (elt c : PySem.Expr) (xa xb : Str) (scope : Scope) (cl : List (Str × Addr)) (Q' : Addr → Shared → Prop) (xv : Value) (s₁ : Shared) : Prop :=
  ∀ E : Value → Shared → Prop, wpAny (model prog w) A (pyIter xv) (fun it s₂ => ∃ (I : Addr) (fp : List Addr) (n : Nat) (Pt : Nat → Array Value → Prop) (St : Nat → Heap → Prop) (Mid : Nat → Addr → Heap → Prop) (S : Led → Prop) (news : Led) (J : Nat → List Value → Led → Prop), it = .ref I ∧ WalksU prog w A I fp [I] n Pt St Mid ∧ (∀ i vals, Pt i vals → ∃ va vb, vals = #[va, vb]) ∧ n ≤ sizeLine ∧ (∀ i h, St i h → ∃ o, h.get? I = some o) ∧
    (∀ i h h' o nw, St i h → h.get? I = some o → h'.get? I = some o → (∀ b o, h₀.get? b = some o → h'.get? b = some o) → News h₀ L h' nw → S nw → St i h') ∧ St 0 s₂.heap ∧ (∀ b ∈ fp, b < s₂.heap.objs.size) ∧
    Fr h₀ L s₂.heap m ∧ News h₀ L s₂.heap news ∧ L ≠ I ∧ h₀.get? I = none ∧ (∀ p ∈ news, p.1 ≠ I) ∧ S news ∧ AllBare s₂.gens ∧ J 0 [] news ∧
    (∀ i va vb ys news₁ oI C oC D m₂ h tk g (E' : Value → Shared → Prop), i < n → ys.length ≤ i → Pt i #[va, vb] → J i ys news₁ → NsObj oC m₂ → m₂ xa = some va → m₂ xb = some vb → Fr h₀ L h m → News h₀ L h ((I, oI) :: (C, oC) :: (D, lst ys) :: news₁) → (∀ p ∈ news₁, p.1 ≠ I ∧ p.1 ≠ C ∧ p.1 ≠ D) → ((@Ne Nat I C) ∧ (@Ne Nat I D) ∧ (@Ne Nat C D)) → AllBare g → S news₁ →
      wpAny (model prog w) A (isTrue c (compEnvC scope cl C env) (eval c (compEnvC scope cl C env))) (fun ok s' => if ok = true then
        wpAny (model prog w) A (eval elt (compEnvC scope cl C env)) (CompEndO h₀ L m s₂ I oI C D ys S (fun y news' => J (i + 1) (ys ++ [y]) news') oC) E' s'
        else CompEndO h₀ L m s₂ I oI C D ys S (fun _ news' => J (i + 1) ys news') oC .none s') E' { s₂ with heap := h, toks := tk, gens := g }) ∧
    (∀ D ys news' h tk g, J n ys news' → Fr h₀ L h (mm D) → News h₀ L h ((D, lst ys) :: news') → (∀ p ∈ news', p.1 ≠ D) → AllBare g → Q' D { s₂ with heap := h, toks := tk, gens := g })) E s₁
theorem ListComp_OT {elt iter c : PySem.Expr} {xa xb : Str} {pa pb pt : Pos} {kt : Nat} {scope : Scope} {cl : List (Str × Addr)} {pos : Pos} {Q : Value → Shared → Prop} (_F₀ : Fr h₀ L s.heap m) (hh : A.handled = none)
    (hclos : closureFor scope env = pure cl) (hcell : ∀ y ∈ scope.names, y.2 ≠ .cell) (hkind : scope.kind = .function)
    (hnames : ∀ y ∈ scope.names, y.2 = .local → scope.names.lookup y.1 = some .local) (hxa : scope.names.lookup xa = some .local) (hxb : scope.names.lookup xb = some .local) (hab : xa ≠ xb)
    (h : wpAny (model prog w) A (eval iter env) (SrcOT prog w A h₀ L m (fun _ => m) env elt c xa xb scope cl (fun D s' => Q (.ref D) s')) E s)
    (hs : ∀ x, foldedSetIterable iter env x = pure x := by intro _; rfl) :
    wpAny (model prog w) A (eval (.ListComp elt [⟨.Tuple [.Name xa pa, .Name xb pb] kt pt, iter, [c], 0⟩] scope pos) env) Q E s := by
  rw [eval_ListComp]
  refine wpAny_comprehension_free (use := none) rfl hs hclos hkind hnames (wpAny_mono h (fun xv s₁ h₁ => ?_) fun _ _ e => e)
  refine wpAny_mono (h₁ E) (fun it s₂ h₂ => ?_) fun _ _ e => e
  obtain ⟨I, fp, n, Pt, St, Mid, S, news, J, rfl, W, hsz', hsz, hIo, hSt, hst, hfp, F, N, hIL, hI₀, off, hS, hG, hJ, turn, done⟩ := h₂
  refine block_OT J hh W hsz' hsz hIo hSt hcell hkind hxa hxb hab hst hfp F N hIL hI₀ off hS hG hJ turn ?_
  intro D C h tk g m' ys news' F' N' o1 hn hC₀ hCL hDL hCD offC hG' hJ'
  refine ⟨m', hn, fun h'' hs'' => done D ys news' h'' tk g hJ' (F'.change hs'' hCL hC₀) (fun p hp => ?_) o1 hG'⟩
  refine ⟨hs''.extBut _ _ ?_ (N' p hp).1, (N' p hp).2⟩
  rcases List.mem_cons.mp hp with rfl | hp
  · exact Ne.symm hCD
  · exact offC p hp
/-- a comprehension over a list of pairs of the ledger, with one test -/
theorem SrcOT.pairs {mm : Addr → Str → Option Value} {elt c : PySem.Expr} {xa xb : Str} {scope : Scope} {cl : List (Str × Addr)} {Q' : Addr → Shared → Prop} {D₀ : Addr} {Ts : List Addr} {prs : List (Nat × Int)} {vals : Nat → Array Value} {news : Led} (hh : A.handled = none) (F : Fr h₀ L s.heap m) (N : News h₀ L s.heap news) (hG : AllBare s.gens)
    (hs : PrIn D₀ Ts vals news) (hvals : ValsOk Ts vals prs) (hl : Ts.length ≤ 1000) (J : Nat → List Value → Led → Prop) (hJ : J 0 [] news)
    (turn : ∀ i a v ta tv ys news₁ I oI C oC D m₂ h tk g (E' : Value → Shared → Prop), prs[i]? = some (a, v) → ys.length ≤ i → J i ys news₁ → NsObj oC m₂ → m₂ xa = some (.int (a : Nat) ta) → m₂ xb = some (.int v tv) → Fr h₀ L h m → News h₀ L h ((I, oI) :: (C, oC) :: (D, lst ys) :: news₁) → (∀ p ∈ news₁, p.1 ≠ I ∧ p.1 ≠ C ∧ p.1 ≠ D) → ((@Ne Nat I C) ∧ (@Ne Nat I D) ∧ (@Ne Nat C D)) → AllBare g → PrIn D₀ Ts vals news₁ →
      wpAny (model prog w) A (isTrue c (compEnvC scope cl C env) (eval c (compEnvC scope cl C env))) (fun ok s' => if ok = true then
        wpAny (model prog w) A (eval elt (compEnvC scope cl C env)) (CompEndO h₀ L m s I oI C D ys (PrIn D₀ Ts vals) (fun y news' => J (i + 1) (ys ++ [y]) news') oC) E' s'
        else CompEndO h₀ L m s I oI C D ys (PrIn D₀ Ts vals) (fun _ news' => J (i + 1) ys news') oC .none s') E' { s with heap := h, toks := tk, gens := g })
    (done : ∀ D ys news' h tk g, J Ts.length ys news' → Fr h₀ L h (mm D) → News h₀ L h ((D, lst ys) :: news') → (∀ p ∈ news', p.1 ≠ D) → AllBare g → Q' D { s with heap := h, toks := tk, gens := g }) :
    SrcOT prog w A h₀ L m mm env elt c xa xb scope cl Q' (.ref D₀) s := by
  intro E
  obtain ⟨⟨n₀, hD⟩, hP⟩ := id hs
  have hlist : s.heap.IsList D₀ (Ts.map Value.ref).toArray := ⟨_, (N _ hD).1, rfl, _, rfl⟩
  have hlt : D₀ < s.heap.objs.size := Heap.lt_size (N _ hD).1
  have hsz : (Ts.map Value.ref).toArray.size = Ts.length := by simp
  have hTs : ∀ j, j < (Ts.map Value.ref).toArray.size → Ts[j]? = some (Ts.getD j 0) := fun j hj => by
    rw [hsz] at hj
    rw [List.getD_eq_getElem?_getD, List.getElem?_eq_getElem hj]; rfl
  have hTlt : ∀ j, j < (Ts.map Value.ref).toArray.size → Ts.getD j 0 < s.heap.objs.size := fun j hj => by
    exact Heap.lt_size (N _ (hP j _ (hTs j hj))).1
  have up : ∀ b o, s.heap.get? b = some o → (s.heap.push { cls := .type "list_iterator", data := .fields #[.ref D₀, .int 0 0] }).get? b = some o := fun b o e => Heap.get?_push_of_some _ e
  have W := WalksU.listOfTuples (prog := prog) (w := w) hh s.heap.objs.size D₀ (Nat.ne_of_lt hlt) (Ts.map Value.ref).toArray (fun j => Ts.getD j 0) vals (fun j hj => by
    have := hTs j hj
    simp only [List.getElem?_toArray, List.getElem?_map]
    rw [this]; rfl) (fun j hj => Nat.ne_of_lt (hTlt j hj))
  refine wpAny_pyIter_list hlist ?_
  refine ⟨_, _, _, _, _, _, PrIn D₀ Ts vals, news, J, rfl, W.bound, ?_, by rw [hsz, sizeLine_eq]; omega, fun i h st => by obtain ⟨o, e, _⟩ := st.1; exact ⟨o, e⟩, ?_, ⟨⟨_, Heap.get?_push_size _ rfl, rfl, rfl⟩, hlist.push _, fun k hk => ?_⟩, fun b hb => ?_,
    F.keeps up, N.grown up, Nat.ne_of_lt F.ns.lt, next_is_new F, fun p hp => Nat.ne_of_lt (Heap.lt_size (N p hp).1), hs, hG, hJ, ?_, ?_⟩
  · rintro i va ⟨hi, rfl⟩
    obtain ⟨a, v, t, t', h1, h2⟩ := hvals i _ (hTs i hi)
    exact ⟨_, _, h2⟩
  · intro i h h' o nw st e e' _ N' S'
    obtain ⟨⟨n', hD'⟩, hP'⟩ := S'
    refine ⟨st.1.at fun o h => by rw [h] at e; cases e; exact e', ⟨_, (N' _ hD').1, rfl, _, rfl⟩, fun k hk => ?_⟩
    exact ⟨_, (N' _ (hP' k _ (hTs k hk))).1, rfl, _, rfl⟩
  · exact ⟨_, up _ _ (N _ (hP k _ (hTs k hk))).1, rfl, _, rfl⟩
  · show b < (s.heap.push _).objs.size
    rw [Heap.size_push]
    simp only [List.mem_cons, List.mem_map, List.mem_range] at hb
    rcases hb with rfl | rfl | ⟨j, hj, rfl⟩
    · exact Nat.lt_succ_self _
    · exact Nat.lt_succ_of_lt hlt
    · exact Nat.lt_succ_of_lt (hTlt j hj)
  · rintro i va vb ys news₁ oI C oC D m₂ h tk g E' hi hyl ⟨hi', hP⟩ hJ' hoC ha hb F' N' off ne hG' hS'
    obtain ⟨a, v, t, t', h1, h2⟩ := hvals i _ (hTs i hi)
    rw [h2] at hP
    cases hP
    exact turn i a v t t' ys news₁ _ oI C oC D m₂ h tk g E' h1 hyl hJ' hoC ha hb F' N' off ne hG' hS'
  · intro D ys news' h tk g hJ'
    rw [hsz] at hJ'
    exact done D ys news' h tk g hJ'
/-- a loop over a list of pairs of the ledger -/
theorem for_pairs {xa xb : Str} {pa pb pt : Pos} {kt : Nat} {body : List Stmt} {R : Result → Shared → Prop} {D₀ : Addr} {Ts : List Addr} {prs : List (Nat × Int)} {vals : Nat → Array Value} {m₀ : Str → Option Value} {news₀ : Led} (J : Nat → (Str → Option Value) → Led → Prop) (hh : A.handled = none)
    (hs : PrIn D₀ Ts vals news₀) (hvals : ValsOk Ts vals prs) (hxa : env.kindOf xa = some .local) (hxb : env.kindOf xb = some .local) (hp : (env.scope.kind == .class || (env.scope.kind == .module && env.locals != env.globals)) = false)
    (F : Fr h₀ env.locals s.heap m₀) (N : News h₀ env.locals s.heap news₀) (hG : AllBare s.gens) (hJ : J 0 m₀ news₀)
    (hR : ∀ m₁ news₁ h tk g, J Ts.length m₁ news₁ → Fr h₀ env.locals h m₁ → News h₀ env.locals h news₁ → AllBare g → R (.ok .next) { s with heap := h, toks := tk, gens := g })
    (turn : ∀ (I : Addr) oI (i a : Nat) v ta tv m₁ news₁ h tk g (E' : Value → Shared → Prop), prs[i]? = some (a, v) → J i m₁ news₁ → Fr h₀ env.locals h (fun y => if y = xb then some (.int v tv) else if y = xa then some (.int (a : Nat) ta) else m₁ y) → News h₀ env.locals h ((I, oI) :: news₁) → (∀ p ∈ news₁, p.1 ≠ I) → AllBare g → PrIn D₀ Ts vals news₁ → IterO oI →
      wpAny (model prog w) A (execs body env) (TurnEnd h₀ env.locals s I oI (PrIn D₀ Ts vals) (J (i + 1)) R) E' { s with heap := h, toks := tk, gens := g }) :
    wpAny (model prog w) A (pyIter (.ref D₀)) (fun it s₂ => codeAny (model prog w) A (.forLoop (.Tuple [.Name xa pa, .Name xb pb] kt pt) it body [] env) R s₂) E s := by
  obtain ⟨⟨n₀, hD⟩, hP⟩ := id hs
  have hlist : s.heap.IsList D₀ (Ts.map Value.ref).toArray := ⟨_, (N _ hD).1, rfl, _, rfl⟩
  have hlt : D₀ < s.heap.objs.size := Heap.lt_size (N _ hD).1
  have hsz : (Ts.map Value.ref).toArray.size = Ts.length := by simp
  have hTs : ∀ j, j < (Ts.map Value.ref).toArray.size → Ts[j]? = some (Ts.getD j 0) := fun j hj => by
    rw [hsz] at hj
    rw [List.getD_eq_getElem?_getD, List.getElem?_eq_getElem hj]; rfl
  have hTlt : ∀ j, j < (Ts.map Value.ref).toArray.size → Ts.getD j 0 < s.heap.objs.size := fun j hj => Heap.lt_size (N _ (hP j _ (hTs j hj))).1
  have up : ∀ b o, s.heap.get? b = some o → (s.heap.push { cls := .type "list_iterator", data := .fields #[.ref D₀, .int 0 0] }).get? b = some o := fun b o e => Heap.get?_push_of_some _ e
  have W := WalksU.listOfTuples (prog := prog) (w := w) hh s.heap.objs.size D₀ (Nat.ne_of_lt hlt) (Ts.map Value.ref).toArray (fun j => Ts.getD j 0) vals (fun j hj => by
    have := hTs j hj
    simp only [List.getElem?_toArray, List.getElem?_map]
    rw [this]; rfl) (fun j hj => Nat.ne_of_lt (hTlt j hj))
  refine wpAny_pyIter_list hlist ?_
  refine for_ownT (s := { s with heap := s.heap.push _ }) (S := PrIn D₀ Ts vals) J hh W.bound ?_ ?_ ?_ hxa hxb hp (F.keeps up) (N.grown up) ⟨⟨_, Heap.get?_push_size _ rfl, rfl, rfl⟩, hlist.push _, fun k hk => ?_⟩ (by
      intro h; exact Nat.ne_of_lt F.ns.lt (List.mem_singleton.mp h)) (fun b hb => by rw [List.mem_singleton.mp hb]; exact next_is_new F) (fun p hp h => Nat.ne_of_lt (Heap.lt_size (N p hp).1) (List.mem_singleton.mp h)) hs hG hJ ?_ ?_
  · rintro i va ⟨hi, rfl⟩
    obtain ⟨a, v, t, t', h1, h2⟩ := hvals i _ (hTs i hi)
    exact ⟨_, _, h2⟩
  · intro i h st
    obtain ⟨o, e, _⟩ := st.1
    exact ⟨[(s.heap.objs.size, o)], rfl, fun p hp => by rw [List.mem_singleton.mp hp]; exact e⟩
  · intro i h h' own nw st ho e e' _ N' S'
    obtain ⟨⟨n', hD'⟩, hP'⟩ := S'
    refine ⟨st.1.at fun o ho' => ?_, ⟨_, (N' _ hD').1, rfl, _, rfl⟩, fun k hk => ⟨_, (N' _ (hP' k _ (hTs k hk))).1, rfl, _, rfl⟩⟩
    have hm : s.heap.objs.size ∈ own.map (·.1) := by rw [ho]; simp
    obtain ⟨q, hq, hqe⟩ := List.mem_map.mp hm
    have h1 := e q hq
    have h2 := e' q hq
    rw [hqe] at h1 h2
    rw [h1] at ho'
    cases ho'
    exact h2
  · exact ⟨_, up _ _ (N _ (hP k _ (hTs k hk))).1, rfl, _, rfl⟩
  · intro m₁ news₁ h tk g hJ'
    rw [hsz] at hJ'
    exact hR m₁ news₁ h tk g hJ'
  · rintro i va vb m₁ news₁ own h tk g E' hi ⟨hi', hP⟩ hJ' F' ho N' off hG' hS' hst'
    obtain ⟨a, v, t, t', h1, h2⟩ := hvals i _ (hTs i hi)
    rw [h2] at hP
    cases hP
    obtain ⟨⟨I, oI⟩, rfl, hI⟩ : ∃ q : Addr × Obj, own = [q] ∧ q.1 = s.heap.objs.size := by
      cases own with
      | nil => simp at ho
      | cons q r =>
        cases r with
        | nil => exact ⟨q, rfl, by simpa using ho⟩
        | cons q' r' => simp at ho
    have hI' : I = s.heap.objs.size := hI
    subst hI'
    have hfd : IterO oI := by
      obtain ⟨o, e, _, hd⟩ := hst'.1
      have e2 := (N' (s.heap.objs.size, oI) (.head _)).1
      rw [e] at e2
      cases e2
      exact ⟨_, _, hd⟩
    refine wpAny_mono (turn s.heap.objs.size oI i a v t t' m₁ news₁ h tk g E' h1 hJ' F' N' (fun p hp h => off p hp (List.mem_singleton.mpr h)) hG' hS' hfd) (fun f s' hf => ?_) fun _ _ e => e
    cases f with
    | next => obtain ⟨h', tk, g, m', news', r1, r2, r3, r4, r5, r6, r7⟩ := hf; exact ⟨h', tk, g, m', news', r1, r2, r3, fun p hp h => r4 p hp (List.mem_singleton.mp h), r5, r6, r7⟩
    | cont => obtain ⟨h', tk, g, m', news', r1, r2, r3, r4, r5, r6, r7⟩ := hf; exact ⟨h', tk, g, m', news', r1, r2, r3, fun p hp h => r4 p hp (List.mem_singleton.mp h), r5, r6, r7⟩
    | brk => exact hf
    | ret v => exact hf
end
end SR
end
section
open PySem PySem.W PyProof.Rows PySem.Calls PySem.Spec LCg
set_option Elab.async false
set_option maxRecDepth 100000
namespace SR
section
variable {prog : Program} {w : World} {A : Around} {E E₂ : Value → Shared → Prop} {s : Shared} {h₀ : Heap} {env : Env}
/-- a loop over enumerate of a list that stood before -/
theorem enum_loop {xa xb : Str} {pa pb pt : Pos} {kt : Nat} {body : List Stmt} {R : Result → Shared → Prop} {l : Addr} {vs : List Value} {zs : List Int} {m₀ : Str → Option Value} {news₀ : Led} (J : Nat → (Str → Option Value) → Led → Prop) (hh : A.handled = none)
    (hl : h₀.IsList l vs.toArray) (hv : IntsAre vs zs) (hxa : env.kindOf xa = some .local) (hxb : env.kindOf xb = some .local) (hp : (env.scope.kind == .class || (env.scope.kind == .module && env.locals != env.globals)) = false)
    (F : Fr h₀ env.locals s.heap m₀) (N : News h₀ env.locals s.heap news₀) (hG : AllBare s.gens) (hJ : J 0 m₀ news₀)
    (hR : ∀ m₁ news₁ h tk g, J zs.length m₁ news₁ → Fr h₀ env.locals h m₁ → News h₀ env.locals h news₁ → AllBare g → R (.ok .next) { s with heap := h, toks := tk, gens := g })
    (turn : ∀ (e it : Addr) oe oi (i : Nat) z t tz m₁ news₁ h tk g (E' : Value → Shared → Prop), zs[i]? = some z → J i m₁ news₁ → Fr h₀ env.locals h (fun y => if y = xb then some (.int z tz) else if y = xa then some (.int (i : Nat) t) else m₁ y) → News h₀ env.locals h ((e, oe) :: (it, oi) :: news₁) → (∀ p ∈ news₁, p.1 ≠ e ∧ p.1 ≠ it) → AllBare g →
      wpAny (model prog w) A (execs body env) (TurnEndO h₀ env.locals s [e, it] [(e, oe), (it, oi)] (fun _ => True) (J (i + 1)) R) E' { s with heap := h, toks := tk, gens := g }) :
    wpAny (model prog w) A (call (.type "enumerate") [.ref l]) (fun xv s₁ => wpAny (model prog w) A (pyIter xv) (fun it s₂ => codeAny (model prog w) A (.forLoop (.Tuple [.Name xa pa, .Name xb pb] kt pt) it body [] env) R s₂) E₂ s₁) E s := by
  have hls : s.heap.IsList l vs.toArray := hl.at fun o e => F.keep _ _ e
  have hlt : l < s.heap.objs.size := by obtain ⟨_, e, _⟩ := hls; exact Heap.lt_size e
  refine call_enumerate_list hls fun h' hen hit hsz old => ?_
  refine wpAny_pyIter_enum (s := { s with heap := h' }) hen ?_
  have ne1 : s.heap.objs.size + 1 ≠ s.heap.objs.size := Nat.succ_ne_self _
  have W := (WalksT.enumerate (prog := prog) (w := w) hh (s.heap.objs.size + 1) s.heap.objs.size l ne1 (Nat.ne_of_lt (Nat.lt_succ_of_lt hlt)) (Nat.ne_of_lt hlt) vs.toArray).toU.bound
  have hvz : vs.toArray.size = zs.length := by simp [hv.length]
  have F' : Fr h₀ env.locals h' m₀ := F.keeps old
  have new₀ : ∀ b, s.heap.objs.size ≤ b → h₀.get? b = none := fun b hb => by
    cases e : h₀.get? b with
    | none => rfl
    | some o => exact absurd (Heap.lt_size (F.keep _ _ e)) (Nat.not_lt.mpr hb)
  refine for_ownT (s := { s with heap := h' }) (S := fun _ => True) J hh W ?_ ?_ ?_ hxa hxb hp F' (N.grown old) ⟨⟨_, hen⟩, hit, hls.at fun o e => old _ _ e⟩ ?_ ?_ ?_ trivial hG hJ ?_ ?_
  · rintro i vals ⟨hi, t, x, h1, rfl⟩
    exact ⟨_, _, rfl⟩
  · rintro i h ⟨⟨old, he⟩, ⟨oi, hi, _⟩, _⟩
    exact ⟨[(s.heap.objs.size + 1, _), (s.heap.objs.size, oi)], rfl, fun p hp => by
      rcases List.mem_cons.mp hp with rfl | hp
      · exact he
      · rw [List.mem_singleton.mp hp]; exact hi⟩
  · rintro i h h'' own nw ⟨⟨old, he⟩, hit', hl'⟩ ho e e' hk _ _
    have up : ∀ b ∈ [s.heap.objs.size + 1, s.heap.objs.size], ∀ o, h.get? b = some o → h''.get? b = some o := fun b hb o hbo => by
      rw [← ho] at hb
      obtain ⟨q, hq, hqe⟩ := List.mem_map.mp hb
      have h1 := e q hq
      have h2 := e' q hq
      rw [hqe] at h1 h2
      rw [h1] at hbo
      cases hbo
      exact h2
    exact ⟨⟨old, up _ (by simp) _ he⟩, hit'.at fun o x => up _ (by simp) o x, hl.at fun o x => hk _ _ x⟩
  · intro h
    simp only [List.mem_cons, List.not_mem_nil, or_false] at h
    rcases h with h | h
    · exact Nat.ne_of_lt (Nat.lt_succ_of_lt F.ns.lt) h
    · exact Nat.ne_of_lt F.ns.lt h
  · intro b hb
    simp only [List.mem_cons, List.not_mem_nil, or_false] at hb
    rcases hb with rfl | rfl
    · exact new₀ _ (Nat.le_succ _)
    · exact new₀ _ (Nat.le_refl _)
  · intro p hp h
    have hlt := Heap.lt_size (N p hp).1
    simp only [List.mem_cons, List.not_mem_nil, or_false] at h
    rcases h with h | h
    · exact Nat.ne_of_lt (Nat.lt_succ_of_lt hlt) h
    · exact Nat.ne_of_lt hlt h
  · intro m₁ news₁ h tk g hJ'
    rw [hvz] at hJ'
    exact hR m₁ news₁ h tk g hJ'
  · rintro i va vb m₁ news₁ own h tk g E' hi ⟨hi', t, x, h1, h2⟩ hJ' F' ho N' off hG' _ _
    cases h2
    obtain ⟨z, tz, rfl, hz⟩ := IntsAre.at hv i vb (by simpa using h1)
    obtain ⟨oe, oi, rfl⟩ : ∃ oe oi, own = [(s.heap.objs.size + 1, oe), (s.heap.objs.size, oi)] := by
      cases own with
      | nil => simp at ho
      | cons q r =>
        cases r with
        | nil => simp at ho
        | cons q' r' =>
          cases r' with
          | nil =>
            simp only [List.map_cons, List.map_nil, List.cons.injEq, and_true] at ho
            obtain ⟨a, b⟩ := q
            obtain ⟨a', b'⟩ := q'
            obtain ⟨h1, h2⟩ := ho
            have h1' : a = s.heap.objs.size + 1 := h1
            have h2' : a' = s.heap.objs.size := h2
            subst h1' h2'
            exact ⟨b, b', rfl⟩
          | cons q'' r'' => simp at ho
    exact turn _ _ oe oi i z t tz m₁ news₁ h tk g E' hz hJ' F' N' (fun p hp => ⟨fun e => off p hp (by rw [e]; simp), fun e => off p hp (by rw [e]; simp)⟩) hG'
end
section
variable {prog : Program} {w : World} {A : Around} {E : Value → Shared → Prop} {s : Shared} {h₀ : Heap} {L : Addr} {m : Str → Option Value}
theorem set_int {D : Addr} {vs : List Value} {zs : List Int} {n : Nat} {news : Led} {i v : Int} {u tv : Tok} {Q : Unit → Shared → Prop} (F : Fr h₀ L s.heap m) (N : News h₀ L s.heap news) (hm : (D, listOf vs.toArray n) ∈ news) (hv : IntsAre vs zs) (h0 : 0 ≤ i) (h1 : i < zs.length) (hz : zs.length ≤ 1000)
    (h : ∀ h' vs', Fr h₀ L h' m → News h₀ L h' (ledPut D (listOf vs'.toArray n) news) → IntsAre vs' (zs.set i.toNat v) → Q () { s with heap := h' }) :
    wpAny (model prog w) A (setItem (.ref D) (.int i u) (.int v tv)) Q E s := by
  have hl := hv.length
  refine ki_setAt (N _ hm).1 h0 (by omega) (by show i < ((vs.toArray.size : Nat) : Int); simp; omega) ?_
  have e : Obj.mapSeq (·.setIfInBounds i.toNat (.int v tv)) (listOf vs.toArray n) = listOf (vs.set i.toNat (.int v tv)).toArray n := by
    simp [Obj.mapSeq, W.listOf]
  refine h _ _ (F.change (Heap.SameBut.update ..) (N _ hm).2.1 (N _ hm).2.2) (News.put N hm (Heap.SameBut.update ..) (by rw [Heap.get?_update_self _ (N _ hm).1 (by rw [e]; rfl), e])) ?_
  clear h hm
  generalize i.toNat = k
  clear h0 h1 hz hl e
  induction hv generalizing k with
  | nil => exact .nil
  | cons z t r ih =>
    cases k with
    | zero => exact .cons v tv r
    | succ k => exact .cons z t (ih k)
end
theorem map_xa {bm : Str → Option Value} {vx va : Value} {o1 o2 : Option Value} : (fun y => if y = Str.ofString "x" then some vx else if y = Str.ofString "at" then some va else anyAt (Str.ofString "x") o1 (anyAt (Str.ofString "at") o2 bm) y) = anyAt (Str.ofString "x") (some vx) (anyAt (Str.ofString "at") (some va) bm) := by
  funext y
  by_cases a : y = Str.ofString "x"
  · simp only [anyAt, if_pos a]
  by_cases b : y = Str.ofString "at"
  · simp only [anyAt, if_neg a, if_pos b]
  · simp only [anyAt, if_neg a, if_neg b]
/-- a goal that the walk leaves alone -/
noncomputable def Blk (P : Prop) : Prop := P
noncomputable def DrawnJ (Dd : Addr) (base : Led) (bm : Str → Option Value) (m₁ : Str → Option Value) (news₁ : Led) : Prop := ∃ vs k dl o1 o2, news₁ = (Dd, listOf vs.toArray k) :: base ∧ IntsAre vs (natZ dl) ∧ dl.length = 7 ∧ m₁ = anyAt (Str.ofString "x") o1 (anyAt (Str.ofString "at") o2 bm)
section
variable {prog : Program} {w : World} {A : Around} {E E₂ : Value → Shared → Prop} {s : Shared} {h₀ : Heap} {env : Env}
theorem drawn_loop {pa pb pt : Pos} {kt : Nat} {body : List Stmt} {R : Result → Shared → Prop} {l Dd : Addr} {vs dv : List Value} {zs : List Int} {dl : List Nat} {k : Nat} {bm : Str → Option Value} {base : Led} (hh : A.handled = none)
    (hl : h₀.IsList l vs.toArray) (hv : IntsAre vs zs) (hxa : env.kindOf (Str.ofString "at") = some .local) (hxb : env.kindOf (Str.ofString "x") = some .local) (hp : (env.scope.kind == .class || (env.scope.kind == .module && env.locals != env.globals)) = false)
    (F : Fr h₀ env.locals s.heap bm) (N : News h₀ env.locals s.heap ((Dd, listOf dv.toArray k) :: base)) (hG : AllBare s.gens) (hd : IntsAre dv (natZ dl)) (hd7 : dl.length = 7) (b1 : bm (Str.ofString "x") = none) (b2 : bm (Str.ofString "at") = none)
    (turn : ∀ (e it : Addr) oe oi (i : Nat) z t tz vs k dl h tk g (E' : Value → Shared → Prop), IntsAre vs (natZ dl) → dl.length = 7 → Fr h₀ env.locals h (anyAt (Str.ofString "x") (some (.int z tz)) (anyAt (Str.ofString "at") (some (.int (i : Nat) t)) bm)) → News h₀ env.locals h ((e, oe) :: (it, oi) :: (Dd, listOf vs.toArray k) :: base) → (∀ p ∈ (Dd, listOf vs.toArray k) :: base, p.1 ≠ e ∧ p.1 ≠ it) → AllBare g →
      wpAny (model prog w) A (execs body env) (TurnEndO h₀ env.locals s [e, it] [(e, oe), (it, oi)] (fun _ => True) (DrawnJ Dd base bm) R) E' { s with heap := h, toks := tk, gens := g })
    (done : ∀ vs k dl o1 o2 h tk g, IntsAre vs (natZ dl) → dl.length = 7 → Fr h₀ env.locals h (anyAt (Str.ofString "x") o1 (anyAt (Str.ofString "at") o2 bm)) → News h₀ env.locals h ((Dd, listOf vs.toArray k) :: base) → AllBare g → R (.ok .next) { s with heap := h, toks := tk, gens := g }) :
    wpAny (model prog w) A (call (.type "enumerate") [.ref l]) (fun xv s₁ => wpAny (model prog w) A (pyIter xv) (fun it s₂ => codeAny (model prog w) A (.forLoop (.Tuple [.Name (Str.ofString "at") pa, .Name (Str.ofString "x") pb] kt pt) it body [] env) R s₂) E₂ s₁) E s := by
  refine enum_loop (fun _ => DrawnJ Dd base bm) hh hl hv hxa hxb hp F N hG ⟨dv, k, dl, none, none, rfl, hd, hd7, by rw [anyAt_none (y₀ := Str.ofString "at") b2, anyAt_none (y₀ := Str.ofString "x") b1]⟩ ?_ ?_
  · rintro m₁ news₁ h tk g ⟨vs, k, dl, o1, o2, rfl, h1, h2, rfl⟩ F' N' G'
    exact done vs k dl o1 o2 h tk g h1 h2 F' N' G'
  · rintro e it oe oi i z t tz m₁ news₁ h tk g E' hz ⟨vs, k, dl, o1, o2, rfl, h1, h2, rfl⟩ F' N' off G'
    rw [map_xa] at F'
    exact turn e it oe oi i z t tz vs k dl h tk g E' h1 h2 F' N' off G'
theorem drawn_loopB {pa pb pt : Pos} {kt : Nat} {body : List Stmt} {R : Result → Shared → Prop} {l Dd : Addr} {vs dv : List Value} {zs : List Int} {dl : List Nat} {k : Nat} {bm : Str → Option Value} {base : Led} (hh : A.handled = none)
    (hl : h₀.IsList l vs.toArray) (hv : IntsAre vs zs) (hxa : env.kindOf (Str.ofString "at") = some .local) (hxb : env.kindOf (Str.ofString "x") = some .local) (hp : (env.scope.kind == .class || (env.scope.kind == .module && env.locals != env.globals)) = false)
    (F : Fr h₀ env.locals s.heap bm) (N : News h₀ env.locals s.heap ((Dd, listOf dv.toArray k) :: base)) (hG : AllBare s.gens) (hd : IntsAre dv (natZ dl)) (hd7 : dl.length = 7) (b1 : bm (Str.ofString "x") = none) (b2 : bm (Str.ofString "at") = none)
    (turn : Blk (∀ (e it : Addr) oe oi (i : Nat) z t tz vs k dl h tk g (E' : Value → Shared → Prop), IntsAre vs (natZ dl) → dl.length = 7 → Fr h₀ env.locals h (anyAt (Str.ofString "x") (some (.int z tz)) (anyAt (Str.ofString "at") (some (.int (i : Nat) t)) bm)) → News h₀ env.locals h ((e, oe) :: (it, oi) :: (Dd, listOf vs.toArray k) :: base) → (∀ p ∈ (Dd, listOf vs.toArray k) :: base, p.1 ≠ e ∧ p.1 ≠ it) → AllBare g →
      wpAny (model prog w) A (execs body env) (TurnEndO h₀ env.locals s [e, it] [(e, oe), (it, oi)] (fun _ => True) (DrawnJ Dd base bm) R) E' { s with heap := h, toks := tk, gens := g }))
    (done : Blk (∀ vs k dl o1 o2 h tk g, IntsAre vs (natZ dl) → dl.length = 7 → Fr h₀ env.locals h (anyAt (Str.ofString "x") o1 (anyAt (Str.ofString "at") o2 bm)) → News h₀ env.locals h ((Dd, listOf vs.toArray k) :: base) → AllBare g → R (.ok .next) { s with heap := h, toks := tk, gens := g })) :
    wpAny (model prog w) A (call (.type "enumerate") [.ref l]) (fun xv s₁ => wpAny (model prog w) A (pyIter xv) (fun it s₂ => codeAny (model prog w) A (.forLoop (.Tuple [.Name (Str.ofString "at") pa, .Name (Str.ofString "x") pb] kt pt) it body [] env) R s₂) E₂ s₁) E s :=
  drawn_loop hh hl hv hxa hxb hp F N hG hd hd7 b1 b2 turn done
end
theorem drawn_end {h₀ h' : Heap} {L : Addr} {s : Shared} {e it Dd : Addr} {oe oi : Obj} {base : Led} {bm : Str → Option Value} {o1 o2 : Option Value} {vs vs' : List Value} {k j : Nat} {dl : List Nat} {v : Int} {R : Result → Shared → Prop} {tk : Nat} {g : Array GenState} (F : Fr h₀ L h' (anyAt (Str.ofString "x") o1 (anyAt (Str.ofString "at") o2 bm)))
    (N : News h₀ L h' (ledPut Dd (listOf vs'.toArray k) ((e, oe) :: (it, oi) :: (Dd, listOf vs.toArray k) :: base))) (off : ∀ p ∈ (Dd, listOf vs.toArray k) :: base, p.1 ≠ e ∧ p.1 ≠ it) (neD : ∀ p ∈ base, p.1 ≠ Dd) (hG : AllBare g) (hv : IntsAre vs' ((natZ dl).set j v)) (h0 : 0 ≤ v) (h7 : dl.length = 7) :
    TurnEndO h₀ L s [e, it] [(e, oe), (it, oi)] (fun _ => True) (DrawnJ Dd base bm) R .next { s with heap := h', toks := tk, gens := g } := by
  have oD := off (Dd, listOf vs.toArray k) (.head _)
  refine ⟨h', tk, g, _, (Dd, listOf vs'.toArray k) :: base, rfl, F, fun p hp => N p ?_, fun p hp => ?_, hG, trivial, vs', k, dl.set j v.toNat, o1, o2, rfl, ?_, by simpa using h7, rfl⟩
  · simp only [List.cons_append, List.nil_append, List.mem_cons] at hp
    rcases hp with rfl | rfl | rfl | hp
    · exact mem_ledPut (.head _) (Ne.symm oD.1)
    · exact mem_ledPut (.tail _ (.head _)) (Ne.symm oD.2)
    · exact .head _
    · exact mem_ledPut (.tail _ (.tail _ (.tail _ hp))) (neD p hp)
  · intro h
    simp only [List.mem_cons, List.not_mem_nil, or_false] at h
    have o : p.1 ≠ e ∧ p.1 ≠ it := by
      rcases List.mem_cons.mp hp with rfl | hp
      · exact oD
      · exact off p (.tail _ hp)
    rcases h with h | h
    · exact o.1 h
    · exact o.2 h
  · have : natZ (dl.set j v.toNat) = (natZ dl).set j v := by
      rw [natZ, List.map_set, Int.toNat_of_nonneg h0]
    rw [this]; exact hv
theorem natZ_nonneg {l : List Nat} {i : Nat} : 0 ≤ (natZ l).getD i 0 := by
  rw [natZ, List.getD_eq_getElem?_getD, List.getElem?_map]
  cases l[i]? with
  | none => simp
  | some n => simp
end SR
end
section
open PySem PySem.W PyProof.Rows PySem.Calls PySem.Spec LCg
set_option Elab.async false
set_option maxRecDepth 100000
namespace SR
/-- a heap in the making -/
noncomputable def PushJ (x d : Addr) (hsh : Int) (tk0 tk1 : Tok) (outer : Led) (bm : Str → Option Value) (i : Nat) (m₁ : Str → Option Value) (news₁ : Led) : Prop :=
  ∃ (pcs : List Pc) (ep : Nat) (X2 : Led) (o : Option Value), news₁ = (x, accO d (pcs.map Pc.ref) ep) :: (d, accD hsh tk0 tk1) :: (X2 ++ outer) ∧ (∀ q ∈ pcs, (q.T, tupO q.vals) ∈ X2) ∧ pcs.map (fun q => (q.a, q.b)) = (List.range i).map (fun k => piece (k : Nat)) ∧ (∀ p ∈ X2, p.1 ≠ x ∧ p.1 ≠ d ∧ ∀ q ∈ outer, p.1 ≠ q.1) ∧ m₁ = anyAt (Str.ofString "blank") o bm
section
variable {prog : Program} {w : World} {A : Around} {E E₂ : Value → Shared → Prop} {s : Shared} {h₀ : Heap} {env : Env}
theorem push_loop {n : Nat} {px : Pos} {body : List Stmt} {R : Result → Shared → Prop} {x d Rg : Addr} {hsh b : Int} {tk0 tk1 t u v : Tok} {outer : Led} {bm : Str → Option Value} {o₀ : Option Value} (hh : A.handled = none) (hr : IsRange s.heap Rg 0 b 1 t u v) (hb : b = (n : Nat)) (hn : n ≤ 7)
    (hx : env.kindOf (Str.ofString "blank") = some .local) (hp : (env.scope.kind == .class || (env.scope.kind == .module && env.locals != env.globals)) = false)
    {m' : Str → Option Value} (F : Fr h₀ env.locals s.heap m') (hm : m' = anyAt (Str.ofString "blank") o₀ bm) (N : News h₀ env.locals s.heap ((x, accO d [] 0) :: (d, accD hsh tk0 tk1) :: outer)) (hG : AllBare s.gens)
    (turn : Blk (∀ (I : Addr) (i : Nat) u (pcs : List Pc) ep X2 oI h tk g (E' : Value → Shared → Prop), i < n → (∀ q ∈ pcs, (q.T, tupO q.vals) ∈ X2) → pcs.map (fun q => (q.a, q.b)) = (List.range i).map (fun k => piece (k : Nat)) → (∀ p ∈ X2, p.1 ≠ x ∧ p.1 ≠ d ∧ ∀ q ∈ outer, p.1 ≠ q.1) → Fr h₀ env.locals h (anyAt (Str.ofString "blank") (some (.int (i : Nat) u)) bm) →
      News h₀ env.locals h ((I, oI) :: (x, accO d (pcs.map Pc.ref) ep) :: (d, accD hsh tk0 tk1) :: (X2 ++ outer)) → (∀ p ∈ (x, accO d (pcs.map Pc.ref) ep) :: (d, accD hsh tk0 tk1) :: (X2 ++ outer), p.1 ≠ I) → AllBare g →
      wpAny (model prog w) A (execs body env) (TurnEnd h₀ env.locals s I oI (fun _ => True) (PushJ x d hsh tk0 tk1 outer bm (i + 1)) R) E' { s with heap := h, toks := tk, gens := g }))
    (done : Blk (∀ (pcs : List Pc) ep X2 o h tk g, (∀ q ∈ pcs, (q.T, tupO q.vals) ∈ X2) → pcs.map (fun q => (q.a, q.b)) = (List.range n).map (fun k => piece (k : Nat)) → (∀ p ∈ X2, p.1 ≠ x ∧ p.1 ≠ d ∧ ∀ q ∈ outer, p.1 ≠ q.1) → Fr h₀ env.locals h (anyAt (Str.ofString "blank") o bm) → News h₀ env.locals h ((x, accO d (pcs.map Pc.ref) ep) :: (d, accD hsh tk0 tk1) :: (X2 ++ outer)) → AllBare g → R (.ok .next) { s with heap := h, toks := tk, gens := g })) :
    wpAny (model prog w) A (pyIter (.ref Rg)) (fun it s₂ => codeAny (model prog w) A (.forLoop (.Name (Str.ofString "blank") px) it body [] env) R s₂) E s := by
  subst hb
  subst hm
  refine for_range (n := n) (PushJ x d hsh tk0 tk1 outer bm) hh hr (small_one (by omega) (by omega) (by omega) (by omega)) (by rw [rangeSize_nat]; congr 1) hx hp F N hG ⟨[], 0, [], o₀, rfl, (fun q hq => nomatch hq), rfl, (fun p hp => nomatch hp), rfl⟩ ?_ ?_
  · rintro m₁ news₁ h tk g ⟨pcs, ep, X2, o, rfl, h1, h2, h3, rfl⟩ F' N' G'
    exact done pcs ep X2 o h tk g h1 h2 h3 F' N' G'
  · rintro I hI i u m₁ news₁ oI h tk g E' hi ⟨pcs, ep, X2, o, rfl, h1, h2, h3, rfl⟩ F' N' off G'
    rw [Int.zero_add, anyAt_set] at F'
    exact turn I i u pcs ep X2 oI h tk g E' hi h1 h2 h3 F' N' off G'
end
theorem push_end {h₀ h' : Heap} {L : Addr} {s : Shared} {I x d T : Addr} {oI : Obj} {hsh : Int} {tk0 tk1 ta tb : Tok} {outer X2 : Led} {bm : Str → Option Value} {o : Option Value} {pcs : List Pc} {ep i : Nat} {R : Result → Shared → Prop} {tk : Nat} {g : Array GenState} (F : Fr h₀ L h' (anyAt (Str.ofString "blank") o bm))
    (N : News h₀ L h' (ledPut x (accO d (pcs.map Pc.ref ++ [Value.ref T]) (ep + 1)) ((T, tupO [.str (piece (i : Nat)).1 ta, .str (piece (i : Nat)).2 tb]) :: (I, oI) :: (x, accO d (pcs.map Pc.ref) ep) :: (d, accD hsh tk0 tk1) :: (X2 ++ outer))))
    (off : ∀ p ∈ (x, accO d (pcs.map Pc.ref) ep) :: (d, accD hsh tk0 tk1) :: (X2 ++ outer), p.1 ≠ I) (hT : ∀ p ∈ (I, oI) :: (x, accO d (pcs.map Pc.ref) ep) :: (d, accD hsh tk0 tk1) :: (X2 ++ outer), p.1 < T) (hdx : d ≠ x) (hox : ∀ p ∈ outer, p.1 ≠ x) (hG : AllBare g)
    (h1 : ∀ q ∈ pcs, (q.T, tupO q.vals) ∈ X2) (h2 : pcs.map (fun q => (q.a, q.b)) = (List.range i).map (fun k => piece (k : Nat))) (h3 : ∀ p ∈ X2, p.1 ≠ x ∧ p.1 ≠ d ∧ ∀ q ∈ outer, p.1 ≠ q.1) :
    TurnEnd h₀ L s I oI (fun _ => True) (PushJ x d hsh tk0 tk1 outer bm (i + 1)) R .next { s with heap := h', toks := tk, gens := g } := by
  have hTx : T ≠ x := Nat.ne_of_gt (hT (x, _) (.tail _ (.head _)))
  refine ⟨h', tk, g, _, (x, accO d ((pcs ++ [(⟨T, (piece (i : Nat)).1, ta, (piece (i : Nat)).2, tb⟩ : Pc)]).map Pc.ref) (ep + 1)) :: (d, accD hsh tk0 tk1) :: ((T, tupO [.str (piece (i : Nat)).1 ta, .str (piece (i : Nat)).2 tb]) :: X2 ++ outer), rfl, F, fun p hp => N p ?_, fun p hp => ?_, hG, trivial,
    pcs ++ [⟨T, (piece (i : Nat)).1, ta, (piece (i : Nat)).2, tb⟩], ep + 1, (T, tupO [.str (piece (i : Nat)).1 ta, .str (piece (i : Nat)).2 tb]) :: X2, o, rfl, fun q hq => ?_, ?_, fun p hp => ?_, rfl⟩
  · rw [List.map_append] at hp
    simp only [List.mem_cons, List.cons_append] at hp
    rcases hp with rfl | rfl | rfl | rfl | hp
    · exact mem_ledPut (.tail _ (.head _)) (Ne.symm (off (x, _) (.head _)))
    · exact .head _
    · exact mem_ledPut (.tail _ (.tail _ (.tail _ (.head _)))) hdx
    · exact mem_ledPut (.head _) hTx
    · refine mem_ledPut (.tail _ (.tail _ (.tail _ (.tail _ hp)))) ?_
      rcases List.mem_append.mp hp with h | h
      · exact (h3 p h).1
      · exact hox p h
  · simp only [List.mem_cons, List.cons_append] at hp
    rcases hp with rfl | rfl | rfl | hp
    · exact off (x, accO d (pcs.map Pc.ref) ep) (.head _)
    · exact off _ (.tail _ (.head _))
    · exact Nat.ne_of_gt (hT _ (.head _))
    · exact off p (.tail _ (.tail _ hp))
  · rcases List.mem_append.mp hq with hq | hq
    · exact .tail _ (h1 q hq)
    · rw [List.mem_singleton.mp hq]; exact .head _
  · rw [List.map_append, h2, List.range_succ, List.map_append]; rfl
  · rcases List.mem_cons.mp hp with rfl | hp
    · exact ⟨hTx, Nat.ne_of_gt (hT (d, _) (.tail _ (.tail _ (.head _)))), fun q hq => Nat.ne_of_gt (hT q (.tail _ (.tail _ (.tail _ (List.mem_append_right _ hq)))))⟩
    · exact h3 p hp
noncomputable def HpsAre (Z : Led) (xs : List Addr) (ns : List Nat) : Prop := ∀ (j : Nat) (x : Addr) (n : Nat), xs[j]? = some x → ns[j]? = some n → Hp Z x n
noncomputable def HeapsJ (H : Addr) (base : Led) (bm : Str → Option Value) (ns : List Nat) (i : Nat) (m₁ : Str → Option Value) (news₁ : Led) : Prop :=
  ∃ (xs : List Addr) (k : Nat) (Z : Led) (o1 o2 o3 : Option Value), news₁ = (H, listOf (xs.map Value.ref).toArray k) :: (Z ++ base) ∧ xs.length = i ∧ xs.Nodup ∧ HpsAre Z xs ns ∧ (∀ p ∈ Z, ∀ q ∈ base, p.1 ≠ q.1) ∧ (∀ p ∈ Z, p.1 ≠ H) ∧ m₁ = anyAt (Str.ofString "blank") o1 (anyAt (Str.ofString "heap") o2 (anyAt (Str.ofString "count") o3 bm))
section
variable {prog : Program} {w : World} {A : Around} {E E₂ : Value → Shared → Prop} {s : Shared} {h₀ : Heap} {env : Env}
theorem map_hc {bm : Str → Option Value} {vc : Value} {o1 o2 o3 : Option Value} : (fun y => if y = Str.ofString "count" then some vc else anyAt (Str.ofString "blank") o1 (anyAt (Str.ofString "heap") o2 (anyAt (Str.ofString "count") o3 bm)) y) = anyAt (Str.ofString "blank") o1 (anyAt (Str.ofString "heap") o2 (anyAt (Str.ofString "count") (some vc) bm)) := by
  funext y
  by_cases a : y = Str.ofString "count"
  · subst a
    have h1 : ¬ (Str.ofString "count" = Str.ofString "blank") := by decide +kernel
    have h2 : ¬ (Str.ofString "count" = Str.ofString "heap") := by decide +kernel
    simp only [anyAt, if_neg h1, if_neg h2, if_true]
  · simp only [anyAt, if_neg a]
theorem heaps_loop {px : Pos} {body : List Stmt} {R : Result → Shared → Prop} {D H : Addr} {ws : List Value} {kd kh : Nat} {dl : List Nat} {bm : Str → Option Value} {rest : Led} (hh : A.handled = none) (hx : env.kindOf (Str.ofString "count") = some .local) (hp : (env.scope.kind == .class || (env.scope.kind == .module && env.locals != env.globals)) = false)
    (F : Fr h₀ env.locals s.heap bm) (N : News h₀ env.locals s.heap ((D, listOf ws.toArray kd) :: (H, listOf #[] kh) :: rest)) (hv : IntsAre ws (List.take 4 (natZ dl))) (hd7 : dl.length = 7) (b1 : bm (Str.ofString "blank") = none) (b2 : bm (Str.ofString "heap") = none) (b3 : bm (Str.ofString "count") = none) (hG : AllBare s.gens)
    (turn : Blk (∀ (I : Addr) (i c : Nat) (t : Tok) xs k Z o1 o2 oI h tk g (E' : Value → Shared → Prop), i < 4 → ((dl.take 4).map (· % 8))[i]? = some (c % 8) → xs.length = i → xs.Nodup → HpsAre Z xs ((dl.take 4).map (· % 8)) → (∀ p ∈ Z, ∀ q ∈ (D, listOf ws.toArray kd) :: rest, p.1 ≠ q.1) → (∀ p ∈ Z, p.1 ≠ H) → Fr h₀ env.locals h (anyAt (Str.ofString "blank") o1 (anyAt (Str.ofString "heap") o2 (anyAt (Str.ofString "count") (some (.int (c : Nat) t)) bm))) →
      News h₀ env.locals h ((I, oI) :: (H, listOf (xs.map Value.ref).toArray k) :: (Z ++ (D, listOf ws.toArray kd) :: rest)) → (∀ p ∈ (H, listOf (xs.map Value.ref).toArray k) :: (Z ++ (D, listOf ws.toArray kd) :: rest), p.1 ≠ I) → AllBare g →
      wpAny (model prog w) A (execs body env) (TurnEnd h₀ env.locals s I oI (SrcAt h₀ D ws.toArray) (HeapsJ H ((D, listOf ws.toArray kd) :: rest) bm ((dl.take 4).map (· % 8)) (i + 1)) R) E' { s with heap := h, toks := tk, gens := g }))
    (done : Blk (∀ xs k Z o1 o2 o3 h tk g, xs.length = 4 → xs.Nodup → HpsAre Z xs ((dl.take 4).map (· % 8)) → (∀ p ∈ Z, ∀ q ∈ (D, listOf ws.toArray kd) :: rest, p.1 ≠ q.1) → (∀ p ∈ Z, p.1 ≠ H) → Fr h₀ env.locals h (anyAt (Str.ofString "blank") o1 (anyAt (Str.ofString "heap") o2 (anyAt (Str.ofString "count") o3 bm))) → News h₀ env.locals h ((H, listOf (xs.map Value.ref).toArray k) :: (Z ++ (D, listOf ws.toArray kd) :: rest)) → AllBare g → R (.ok .next) { s with heap := h, toks := tk, gens := g })) :
    wpAny (model prog w) A (pyIter (.ref D)) (fun it s₂ => codeAny (model prog w) A (.forLoop (.Name (Str.ofString "count") px) it body [] env) R s₂) E s := by
  have hl4 : (List.take 4 (natZ dl)).length = 4 := by rw [List.length_take, natZ, List.length_map, hd7]; rfl
  have hsz : ws.toArray.size = 4 := by simp [hv.length, hl4]
  have N' : News h₀ env.locals s.heap ((H, listOf #[] kh) :: ([] ++ (D, listOf ws.toArray kd) :: rest)) := cb_drop N fun p hp => by
    simp only [List.mem_cons, List.nil_append] at hp ⊢
    rcases hp with h | h | h <;> simp [h]
  refine for_list (HeapsJ H ((D, listOf ws.toArray kd) :: rest) bm ((dl.take 4).map (· % 8))) hh (.inr ⟨_, .tail _ (.head _), rfl, _, rfl⟩) hx hp F N' hG ⟨[], kh, [], none, none, none, rfl, rfl, List.nodup_nil, (fun j x n h => by simp at h), (fun p hp => nomatch hp), (fun p hp => nomatch hp), by rw [anyAt_none (y₀ := Str.ofString "count") b3, anyAt_none (y₀ := Str.ofString "heap") b2, anyAt_none (y₀ := Str.ofString "blank") b1]⟩ ?_ ?_
  · rintro m₁ news₁ h tk g ⟨xs, k, Z, o1, o2, o3, rfl, h1, h2, h3, h4, h5, rfl⟩ F' N' G'
    rw [hsz] at h1
    exact done xs k Z o1 o2 o3 h tk g h1 h2 h3 h4 h5 F' N' G'
  · rintro I hI i v m₁ news₁ oI h tk g E' hi ⟨xs, k, Z, o1, o2, o3, rfl, h1, h2, h3, h4, h5, rfl⟩ F' N' off G' hS
    obtain ⟨z, t, rfl, hz⟩ := IntsAre.at hv i v (by simpa using hi)
    have hi4 : i < 4 := by
      rcases Nat.lt_or_ge i 4 with h | h
      · exact h
      · rw [List.getElem?_eq_none (by omega)] at hz; cases hz
    obtain ⟨c, hc, rfl⟩ : ∃ c, (dl.take 4)[i]? = some c ∧ z = (c : Int) := by
      rw [natZ, ← List.map_take, List.getElem?_map] at hz
      cases e : (dl.take 4)[i]? with
      | none => rw [e] at hz; cases hz
      | some c => rw [e] at hz; exact ⟨c, rfl, (Option.some.inj hz).symm⟩
    rw [map_hc] at F'
    exact turn I i c t xs k Z o1 o2 oI h tk g E' hi4 (by rw [List.getElem?_map, hc]; rfl) h1 h2 h3 h4 h5 F' N' off G'
end
/-- where a turn of the making of the heaps ends -/
theorem heaps_end {h₀ h' : Heap} {L : Addr} {s : Shared} {I H D x d : Addr} {oI : Obj} {hsh : Int} {tk0 tk1 : Tok} {X2 Z rest : Led} {ws : List Value} {kd k : Nat} {bm : Str → Option Value} {o1 o2 o3 : Option Value} {pcs : List Pc} {ep i n : Nat} {xs : List Addr} {ns : List Nat} {R : Result → Shared → Prop} {tk : Nat} {g : Array GenState}
    (F : Fr h₀ L h' (anyAt (Str.ofString "blank") o1 (anyAt (Str.ofString "heap") o2 (anyAt (Str.ofString "count") o3 bm)))) (N : News h₀ L h' (ledPut H (listOf (xs.map Value.ref ++ [Value.ref x]).toArray (k + 1)) ((x, accO d (pcs.map Pc.ref) ep) :: (d, accD hsh tk0 tk1) :: (X2 ++ (I, oI) :: (H, listOf (xs.map Value.ref).toArray k) :: (Z ++ (D, listOf ws.toArray kd) :: rest)))))
    (off : ∀ p ∈ (H, listOf (xs.map Value.ref).toArray k) :: (Z ++ (D, listOf ws.toArray kd) :: rest), p.1 ≠ I) (hd : ∀ p ∈ (I, oI) :: (H, listOf (xs.map Value.ref).toArray k) :: (Z ++ (D, listOf ws.toArray kd) :: rest), p.1 < d) (hdx : d < x) (hG : AllBare g) (hn : ns[i]? = some n) (hl : xs.length = i) (hnd : xs.Nodup) (hps : HpsAre Z xs ns) (hxZ : ∀ y ∈ xs, ∃ o, (y, o) ∈ Z)
    (hZ : ∀ p ∈ Z, ∀ q ∈ (D, listOf ws.toArray kd) :: rest, p.1 ≠ q.1) (hZH : ∀ p ∈ Z, p.1 ≠ H) (hbH : ∀ q ∈ (D, listOf ws.toArray kd) :: rest, q.1 ≠ H) (h1 : ∀ q ∈ pcs, (q.T, tupO q.vals) ∈ X2) (h2 : pcs.map (fun q => (q.a, q.b)) = (List.range n).map (fun k => piece (k : Nat))) (h3 : ∀ p ∈ X2, p.1 ≠ x ∧ p.1 ≠ d ∧ ∀ q ∈ (I, oI) :: (H, listOf (xs.map Value.ref).toArray k) :: (Z ++ (D, listOf ws.toArray kd) :: rest), p.1 ≠ q.1) :
    TurnEnd h₀ L s I oI (SrcAt h₀ D ws.toArray) (HeapsJ H ((D, listOf ws.toArray kd) :: rest) bm ns (i + 1)) R .next { s with heap := h', toks := tk, gens := g } := by
  have hdI : d ≠ I := Nat.ne_of_gt (hd _ (.head _))
  have hxI : x ≠ I := Nat.ne_of_gt (Nat.lt_trans (hd (I, oI) (.head _)) hdx)
  have hdH : d ≠ H := Nat.ne_of_gt (hd _ (.tail _ (.head _)))
  have hxH : x ≠ H := Nat.ne_of_gt (Nat.lt_trans (hd (H, _) (.tail _ (.head _))) hdx)
  have hbd : ∀ q ∈ Z ++ (D, listOf ws.toArray kd) :: rest, q.1 < d := fun q hq => hd q (.tail _ (.tail _ hq))
  have e : (xs ++ [x]).map Value.ref = xs.map Value.ref ++ [Value.ref x] := by simp
  refine ⟨h', tk, g, _, (H, listOf ((xs ++ [x]).map Value.ref).toArray (k + 1)) :: (((x, accO d (pcs.map Pc.ref) ep) :: (d, accD hsh tk0 tk1) :: (X2 ++ Z)) ++ (D, listOf ws.toArray kd) :: rest), rfl, F, fun p hp => N p ?_, fun p hp => ?_, hG, .inr ⟨_, .tail _ (List.mem_append_right _ (.head _)), rfl, _, rfl⟩,
    xs ++ [x], k + 1, (x, accO d (pcs.map Pc.ref) ep) :: (d, accD hsh tk0 tk1) :: (X2 ++ Z), o1, o2, o3, rfl, by simp [hl], ?_, ?_, fun p hp q hq => ?_, fun p hp => ?_, rfl⟩
  · rw [e] at hp
    simp only [List.mem_cons, List.cons_append, List.mem_append] at hp
    rcases hp with rfl | rfl | rfl | rfl | (h | h) | rfl | h
    · exact mem_ledPut (.tail _ (.tail _ (List.mem_append_right _ (.head _)))) (Ne.symm (off (H, _) (.head _)))
    · exact .head _
    · exact mem_ledPut (.head _) hxH
    · exact mem_ledPut (.tail _ (.head _)) hdH
    · exact mem_ledPut (.tail _ (.tail _ (List.mem_append_left _ h))) ((h3 p h).2.2 _ (.tail _ (.head _)))
    · exact mem_ledPut (.tail _ (.tail _ (List.mem_append_right _ (.tail _ (.tail _ (List.mem_append_left _ h)))))) (hZH p h)
    · exact mem_ledPut (.tail _ (.tail _ (List.mem_append_right _ (.tail _ (.tail _ (List.mem_append_right _ (.head _))))))) (hbH _ (.head _))
    · exact mem_ledPut (.tail _ (.tail _ (List.mem_append_right _ (.tail _ (.tail _ (List.mem_append_right _ (.tail _ h))))))) (hbH _ (.tail _ h))
  · simp only [List.mem_cons, List.cons_append, List.mem_append] at hp
    rcases hp with rfl | rfl | rfl | (h | h) | rfl | h
    · exact off (H, listOf (xs.map Value.ref).toArray k) (.head _)
    · exact hxI
    · exact hdI
    · exact (h3 p h).2.2 _ (.head _)
    · exact off p (.tail _ (List.mem_append_left _ h))
    · exact off _ (.tail _ (List.mem_append_right _ (.head _)))
    · exact off p (.tail _ (List.mem_append_right _ (.tail _ h)))
  · rw [List.nodup_append]
    refine ⟨hnd, by simp, fun a ha b hb => ?_⟩
    rw [List.mem_singleton.mp hb]
    obtain ⟨o, ho⟩ := hxZ a ha
    exact Nat.ne_of_lt (Nat.lt_trans (hbd _ (List.mem_append_left _ ho)) hdx)
  · intro j y m hj hm
    by_cases hji : j < xs.length
    · rw [List.getElem?_append_left hji] at hj
      exact (hps j y m hj hm).mono fun p hp => .tail _ (.tail _ (List.mem_append_right _ hp))
    · rw [List.getElem?_append_right (by omega)] at hj
      have hj0 : j - xs.length = 0 := by
        rcases Nat.eq_zero_or_pos (j - xs.length) with h | h
        · exact h
        · rw [List.getElem?_eq_none (by simp; omega)] at hj; cases hj
      rw [hj0] at hj
      simp only [List.getElem?_cons_zero, Option.some.injEq] at hj
      subst hj
      have : j = i := by omega
      subst this
      rw [hn] at hm
      cases hm
      exact ⟨d, hsh, tk0, tk1, ep, pcs, .head _, .tail _ (.head _), fun q hq => .tail _ (.tail _ (List.mem_append_left _ (h1 q hq))), h2⟩
  · simp only [List.mem_cons, List.mem_append] at hp
    have hqd : q.1 < d := hbd q (List.mem_append_right _ hq)
    rcases hp with rfl | rfl | h | h
    · exact Nat.ne_of_gt (Nat.lt_trans hqd hdx)
    · exact Nat.ne_of_gt hqd
    · exact (h3 p h).2.2 q (.tail _ (.tail _ (List.mem_append_right _ hq)))
    · exact hZ p h q hq
  · simp only [List.mem_cons, List.mem_append] at hp
    rcases hp with rfl | rfl | h | h
    · exact hxH
    · exact hdH
    · exact (h3 p h).2.2 _ (.tail _ (.head _))
    · exact hZH p h
theorem nums_of (dl : List Nat) : ∃ number spare tabs : Nat, ((natZ dl).getD (Int.toNat 4) 0).fmod 3 + 2 = (number : Int) ∧ (((natZ dl).getD (Int.toNat 4) 0).fdiv 3).fmod 3 = (spare : Int) ∧ (((natZ dl).getD (Int.toNat 4) 0).fdiv 9).fmod 3 = (tabs : Int) ∧ 2 ≤ number ∧ number ≤ 4 ∧ spare ≤ 2 ∧ tabs ≤ 2 := by
  generalize (natZ dl).getD (Int.toNat 4) 0 = z
  have a1 := Int.fmod_nonneg_of_pos z (by decide : (0 : Int) < 3)
  have a2 := Int.fmod_lt_of_pos z (by decide : (0 : Int) < 3)
  have b1 := Int.fmod_nonneg_of_pos (z.fdiv 3) (by decide : (0 : Int) < 3)
  have b2 := Int.fmod_lt_of_pos (z.fdiv 3) (by decide : (0 : Int) < 3)
  have c1 := Int.fmod_nonneg_of_pos (z.fdiv 9) (by decide : (0 : Int) < 3)
  have c2 := Int.fmod_lt_of_pos (z.fdiv 9) (by decide : (0 : Int) < 3)
  exact ⟨(z.fmod 3 + 2).toNat, ((z.fdiv 3).fmod 3).toNat, ((z.fdiv 9).fmod 3).toNat, by omega, by omega, by omega, by omega, by omega, by omega, by omega⟩
theorem fmod8 (c : Nat) : ((c : Nat) : Int).fmod 8 = ((c % 8 : Nat) : Int) := by
  rw [Int.fmod_eq_emod_of_nonneg _ (by decide)]; rfl
theorem map_h {bm : Str → Option Value} {vh vc : Value} {o1 o2 : Option Value} : (fun y => if y = Str.ofString "heap" then some vh else anyAt (Str.ofString "blank") o1 (anyAt (Str.ofString "heap") o2 (anyAt (Str.ofString "count") (some vc) bm)) y) = anyAt (Str.ofString "blank") o1 (anyAt (Str.ofString "heap") (some vh) (anyAt (Str.ofString "count") (some vc) bm)) := by
  funext y
  by_cases a : y = Str.ofString "heap"
  · subst a
    have h1 : ¬ (Str.ofString "heap" = Str.ofString "blank") := by decide +kernel
    simp only [anyAt, if_neg h1, if_true]
  · simp only [anyAt, if_neg a]
theorem hps_in {Z : Led} {xs : List Addr} {ns : List Nat} (h : HpsAre Z xs ns) (hl : xs.length ≤ ns.length) : ∀ y ∈ xs, ∃ o, (y, o) ∈ Z := by
  intro y hy
  obtain ⟨j, hj⟩ := List.getElem?_of_mem hy
  have hlt : j < xs.length := by
    rcases Nat.lt_or_ge j xs.length with h | h
    · exact h
    · rw [List.getElem?_eq_none h] at hj; cases hj
  obtain ⟨d, hsh, tk, tk', ep, pcs, h1, _⟩ := h j y _ hj (List.getElem?_eq_getElem (by omega))
  exact ⟨_, h1⟩
theorem put_head {x : Addr} {o o' : Obj} {news : Led} : ∀ p ∈ ledPut x o news, p ∈ ledPut x o ((x, o') :: news) := by
  intro p hp
  rcases of_ledPut hp with rfl | ⟨h1, h2⟩
  · exact .head _
  · exact mem_ledPut (.tail _ h1) h2
end SR
end
section
open PySem PySem.W PyProof.Rows PySem.Calls PySem.Spec LCg
set_option Elab.async false
set_option maxRecDepth 100000
namespace SR
theorem rows_SRz_1 : True := by
  k_with_none
  k_with "execs cons" => (k_here; (fail_if_success with_reducible show wpAny _ Aq _ _ _ _); (try k_fold); refine' a_let ?_; intro Aq)
  k_with "execs cons" => (k_here; (fail_if_success with_reducible show wpAny _ _ _ _ _ ⟨_, _, _, tkq, _⟩); refine' tok_all ?_; intro tkq; dsimp only)
  k_with "execs cons" => (k_here; (fail_if_success refine' m_is (m := mq) (by with_reducible assumption) ?_); refine' m_let ?zzF ?_; (case zzF => k_asm); intro mq Fq; dsimp only at Fq)
  k_with "k_room" => (first | exact room_k (k := 0) (by assumption) (by decide) | exact room_k (k := 1) (by assumption) (by decide) | exact room_k (k := 2) (by assumption) (by decide) | exact room_k (k := 3) (by assumption) (by decide) | exact room_k (k := 4) (by assumption) (by decide) | ktr_room)
  k_with "ktr_room" => (first | exact room_k (k := 0) (by assumption) (by decide) | exact room_k (k := 1) (by assumption) (by decide) | exact room_k (k := 2) (by assumption) (by decide) | exact room_k (k := 3) (by assumption) (by decide) | exact room_k (k := 4) (by assumption) (by decide))
  k_with "k_units" => (first | exact unit_k (k := 3) (by assumption) rfl (by decide) | exact unit_k (k := 0) (by assumption) rfl (by decide) | exact unit_k (k := 6) (by assumption) rfl (by decide) | exact unit_k (k := 4) (by assumption) rfl (by decide) | exact unit_k (k := 7) (by assumption) rfl (by decide) | exact unit_k (k := 9) (by assumption) rfl (by decide) | exact unit_k (k := 1) (by assumption) rfl (by decide) | ktr_units)
  k_with "ktr_units" => (first | exact unit_k (k := 3) (by assumption) rfl (by decide) | exact unit_k (k := 0) (by assumption) rfl (by decide) | exact unit_k (k := 6) (by assumption) rfl (by decide) | exact unit_k (k := 4) (by assumption) rfl (by decide) | exact unit_k (k := 7) (by assumption) rfl (by decide) | exact unit_k (k := 9) (by assumption) rfl (by decide) | exact unit_k (k := 1) (by assumption) rfl (by decide))
  k_with "units_room" => (first | exact unit_k (k := 3) (by assumption) rfl (by decide) | exact unit_k (k := 0) (by assumption) rfl (by decide) | exact unit_k (k := 6) (by assumption) rfl (by decide) | exact unit_k (k := 4) (by assumption) rfl (by decide) | exact unit_k (k := 7) (by assumption) rfl (by decide) | exact unit_k (k := 9) (by assumption) rfl (by decide) | exact unit_k (k := 1) (by assumption) rfl (by decide))
  k_with "k_all" => (first | assumption | exact allLt_ne (by assumption) (Nat.le_refl _))
  k_with "k_mem" => (assumption)
  k_with "k_inst" => ((refine' acc_inst ?y4N ?y4h1 ?y4h2; (case y4N => k_asm); (case y4h1 => k_mem); (case y4h2 => k_mem)))
  k_with "execs cons" => (k_here; k_fold)
  k_with "exec If" => (k_here; k_fold)
  k_with "exec Assign" => (k_here; k_fold)
  k_with "exec Return" => (k_here; k_fold)
  k_with "eval ListComp" => (k_here; k_dflt (refine ListComp_O (_F₀ := by k_asm) (by with_unfolding_all rfl) (by decide) (by rfl) (by decide) (by rfl) ?_))
  k_with "exec Assign cons ListComp" => (k_here; k_dflt (refine Assign_ListComp_O (_F₀ := by k_asm) (by rfl) (by with_unfolding_all rfl) (by with_unfolding_all rfl) (by decide) (by rfl) (by decide) (by rfl) (by rfl) (by rfl) ?_))
  k_with "exec For Name Tuple cons nil" => (k_here; k_dflt (refine wpAny_For ?_))
  k_with "call builtin:str.join" => (k_here; k_dflt (refine' join_lead ?z9N ?z9m ?z9y ?z9n ?z9s ?_; (case z9N => k_asm); (case z9m => first | exact List.Mem.head _ | k_mem); (case z9y => assumption); (case z9n => assumption); (case z9s => assumption)); intro J'q t'q tk'q hJ'q hJl'q)
  k_with "binaryOp Add str str" => (k_here; k_dflt (refine' add_fit ?z9hsz ?_; (case z9hsz => (simp only [slen_app, slen_blanks, slen_tab, slen_x]; omega))); intro t'q tk'q)
  k_with "call ref" => (k_here; k_dflt ((show wpAny _ _ (call (Value.ref 83) _) _ _ _); refine' tell_use (tell_lead _ _ _ _ _ _ _ ?z9ht ?z9hs ?z9hn ?z9h1 ?z9h2) ?z9k1 ?z9k2 ?z9k3 ?z9k4 ?z9k5 ?z9kK ?z9kG ?z9kd ?z9ku ?_; (case z9k1 => k_asm); (case z9k2 => k_asm); (case z9k3 => k_asm); (case z9k4 => k_asm); (case z9k5 => k_asm); (case z9kK => exact rfl); (case z9kG => first | assumption | (dsimp only; assumption)); (case z9ht => exact typed_text (by assumption) (by assumption) (by assumption)); (case z9hs => assumption); (case z9hn => assumption); (case z9h1 => assumption); (case z9h2 => assumption); (case z9kd => ktr_room); (case z9ku => ktr_units)); intro r9q news9q h9q tk9q g9q F9q N9q G9q P9q; k_dflt (obtain ⟨σ9q, L9q, X9q, dX9q, D19q, D29q, vs9q, u1q, u2q, u3q, u4q, u5q, tx9q, txt9q, tn9q, tnt9q, tb9q, bs9q, e9q, e8q, hv9q⟩ := P9q); subst e9q; subst e8q; (try dsimp only))
  k_with "getMethod ref" => (k_here; k_dflt (refine' method_anyK ?z10k1 ?z10k2 ?z10k3 ?z10k4 ?z10k5 ?z10k6 ?z10k7 ?z10k8 ?z10k9 ?_; (case z10k1 => k_asm); (case z10k2 => k_asm); (case z10k3 => k_inst); (case z10k4 => k_is); (case z10k5 => exact PySem.canon_list_getattribute); (case z10k6 => k_is); (case z10k7 => k_is); (case z10k8 => first | exact .inl (by k_is) | exact .inr (.inl (by k_is)) | exact .inr (.inr (by k_is))); (case z10k9 => k_get); k_whole))
  k_with "call ref" => (k_here; k_dflt ((show wpAny _ _ (call (Value.ref 177) _) _ _ _); refine' tell_use (tell_countH _ _ _ _ ?z10H) ?z10k1 ?z10k2 ?z10k3 ?z10k4 ?z10k5 ?z10kK ?z10kG ?z10kd ?z10ku ?_; (case z10k1 => k_asm); (case z10k2 => k_asm); (case z10k3 => k_asm); (case z10k4 => k_asm); (case z10k5 => k_asm); (case z10kK => exact rfl); (case z10kG => first | assumption | (dsimp only; assumption)); (case z10H => assumption); (case z10kd => ktr_room); (case z10ku => ktr_units)); intro r9q news9q h9q tk9q g9q F9q N9q G9q P9q; obtain ⟨⟨t9q, e9q⟩, e8q⟩ := P9q; replace e8q := e8q.symm; subst e9q; subst e8q; (try dsimp only))
  k_with "call ref" => (k_here; k_dflt ((show wpAny _ _ (call (Value.ref 52) _) _ _ _); refine' tell_use (tell_indentL _ _ _ _ _ _ _ _ _ _ _ _ _ _ _ _ _ _ _ ?z10hv _ _ _ ?z10Lσ ?z10a3 ?z10a4 _ _ ?z10s1 ?z10s2 ?z10h1 ?z10h2 ?z10h3 ?z10h4) ?z10k1 ?z10k2 ?z10k3 ?z10k4 ?z10k5 ?z10kK ?z10kG ?z10kd ?z10ku ?_; (case z10k1 => k_asm); (case z10k2 => k_asm); (case z10k3 => k_asm); (case z10k4 => k_asm); (case z10k5 => k_asm); (case z10kK => exact rfl); (case z10kG => first | assumption | (dsimp only; assumption)); (case z10h1 => (repeat (first | exact List.Mem.head _ | apply List.Mem.tail))); (case z10h2 => (repeat (first | exact List.Mem.head _ | apply List.Mem.tail))); (case z10h3 => (repeat (first | exact List.Mem.head _ | apply List.Mem.tail))); (case z10h4 => (repeat (first | exact List.Mem.head _ | apply List.Mem.tail))); (case z10hv => assumption); (case z10Lσ => assumption); (case z10a3 => assumption); (case z10a4 => assumption); (case z10s1 => assumption); (case z10s2 => assumption); (case z10kd => ktr_room); (case z10ku => ktr_units)); intro r9q news9q h9q tk9q g9q F9q N9q G9q P9q; obtain ⟨⟨t9q, e9q⟩, e8q⟩ := P9q; replace e8q := e8q.symm; subst e9q; subst e8q; (try dsimp only))
  k_with "call builtin:len" => (k_here; k_dflt (refine' len_heaps ?z10N ?z10m ?z10x ?_; (case z10N => k_asm); (case z10m => (repeat (first | with_reducible assumption | apply List.mem_cons_of_mem))); (case z10x => assumption)); intro t'q tk'q)
  k_with "call builtin:list.append" => (k_here; k_dflt (refine' append_led ?z10F ?z10N ?z10m ?z10z ?_; (case z10F => k_asm); (case z10N => k_asm); (case z10m => ((repeat (first | exact List.Mem.head _ | apply List.Mem.tail)); done)); (case z10z => assumption)); intro h'q F'q N'q)
  trivial
set_option maxHeartbeats 8000000 in
theorem tell_told (w : World) (rest : Led) (hr : ∀ p ∈ rest, p.1 ≠ 149) (o : Obj) (ps : Array Value) (ho : IsTab o ps) (htr : TriplesOk ps.toList) (H : Addr) (xs : List Addr) (ns : List Nat) (k : Nat) (hH : (H, listOf (xs.map Value.ref).toArray k) ∈ rest) (hx : xs.length = 4) (hn : ns.length = 4) (hp : ∀ (i : Nat) (x : Addr) (n : Nat), xs[i]? = some x → ns[i]? = some n → Hp rest x n) (hs : ∀ n ∈ ns, n ≤ 7) (number tabs spare : Nat) (a1 : 2 ≤ number) (a2 : number ≤ 4) (a3 : tabs ≤ 2) (a4 : spare ≤ 2) (lost : Bool) (tnu tta tsp : Tok) :
    Tell w 189 [.ref H, .int number tnu, .int tabs tta, .int spare tsp, .bool lost] 100 400 ((149, o) :: rest) (fun r news' => r = .bool (decide ([1, 2, 4].map (colZ ns number) = [0, 0, 0]) == lost) ∧ ∃ o' ps', news' = (149, o') :: rest ∧ IsTab o' ps' ∧ TriplesOk ps'.toList) := by
  unfold Tell
  k_fill
  intro p loose mean mg mb dp un gd cn cs a ccd cl outer A₀ base h₀ L m s Q E B F X N T hk hG hd hu hret
  obtain ⟨_, _, _, _, _⟩ := cs
  cases hk
  refine wpAny_call ?_
  k_dflt k_enter
  k_steps
  rename (149 < _ ∧ AllLt _ rest) => l149
  obtain ⟨l149a, l149b⟩ := l149
  refine strs_src (by rfl) (by k_asm) (by k_asm) hG ho htr hH hx hn ?turn ?done
  case turn =>
    intro I9 C9 D9 i9 x9 n9 ys9 o9 ps9 oI9 oC9 m9 h9 tk9 g9 E9 hx9 hn9 hys9 ho9 htr9 hoC9 hm9 F9 N9 off9 ne9 hG9
    refine wpAny_tests_nil ?_
    simp only [if_true]
    have H9 := hp i9 x9 n9 hx9 hn9
    k_steps
    have hn7 : n9 ≤ 7 := hs n9 (List.mem_of_getElem? hn9)
    refine str_call (by k_asm) F9 (by k_asm) N9 (by k_asm) rfl hG9 (by k_room) (by k_units) ho9 htr9 ?hr H9 (by omega) ?_
    case hr =>
      intro p hp
      have o1 := off9 (149, o9) (.tail _ (.head _))
      rcases List.mem_cons.mp hp with rfl | hp
      · exact Ne.symm o1.1
      rcases List.mem_cons.mp hp with rfl | hp
      · exact Ne.symm o1.2.1
      rcases List.mem_cons.mp hp with rfl | hp
      · exact Ne.symm o1.2.2
      rcases List.mem_cons.mp hp with rfl | hp
      · exact Nat.ne_of_gt (by omega)
      · exact hr p hp
    intro t8 o8 ps8 h8 tk8 g8 F8 N8 G8 ho8 htr8
    k_steps
    exact strs_end (by k_asm) (by k_asm) (fun p hp => by
      rcases List.mem_cons.mp hp with rfl | hp
      · exact off9 _ (.head _)
      · rcases List.mem_cons.mp hp with rfl | hp
        · exact off9 (149, o9) (.tail _ (.head _))
        · exact off9 p (.tail _ (.tail _ hp))) G8 ho8 htr8 hH hn9 hys9
  case done =>
    intro D9 ys9 o9 ps9 h9 tk9 g9 hys9 ho9 htr9 F9 N9 off9 hG9
    have hT := mul_tab tabs a3
    have hS := mul_blank spare a4
    have hTl := slen_of hT
    have hSl := slen_of hS
    rw [List.length_replicate] at hTl hSl
    k_steps
    rename Lead _ _ _ _ => Lσ
    refine counts_src (by rfl) (by k_asm) (by k_asm) (by first | assumption | (dsimp only; assumption)) (H := H) (xs := xs) (ns := ns) (k := k) (by repeat (first | exact hH | apply List.mem_cons_of_mem)) hx hn ?turn ?done
    case turn =>
      intro I9 C9 D9 i9 x9 n9 ys9 oI9 oC9 m9 h9 tk9 g9 E9 hx9 hn9 hys9 hoC9 hm9 F9 N9 off9 ne9 hG9
      refine wpAny_tests_nil ?_
      simp only [if_true]
      have H9 := Hp.in N9 (hp i9 x9 n9 hx9 hn9) (fun p h => by repeat (first | exact h | apply List.mem_cons_of_mem))
      obtain ⟨d9, hsh9, tk09, tk19, ep9, pcs9, h19, h29, h39, h49⟩ := id H9
      k_steps
      exact counts_end (by k_asm) (by k_asm) off9 (by assumption) (by repeat (first | exact hH | apply List.mem_cons_of_mem)) hn9 hys9
    case done =>
      intro D8 ys8 h8 tk8 g8 hys8 F8 N8 off8 hG8
      dsimp only
      k_steps
      rename IntsAre _ (Ws.cnt _) => hσ9
      rename Obj.data _ = Data.cell _ => dc
      rename News _ _ _ ((_, _) :: (D8, _) :: _) => Nt
      refine cell_loop (Str.ofString "stops") (zs := [3, 5, 6, 7]) (by rfl) (by rfl) (by rfl) (by rfl) (by k_asm) (by k_asm) dc ?ne2 ?hv2 (by rfl) (by assumption) ?turn2 ?done2
      case hv2 => repeat constructor
      case ne2 =>
        intro p hp
        simp only [List.mem_cons] at hp
        rcases hp with rfl | rfl | rfl | rfl | rfl | rfl | rfl | rfl | hp
        all_goals first
          | exact Nat.ne_of_lt (Nat.lt_succ_of_lt (of_allLt l149b p hp))
          | exact ne_cell Nt (by ((repeat (first | exact List.Mem.head _ | apply List.Mem.tail)); done)) dc (by ((repeat (first | exact List.Mem.head _ | apply List.Mem.tail)); done)) (by intro c e; first | cases e | (rw [ho9.data] at e; cases e))
      case turn2 =>
        intro I7 i7 z7 t7 oc7 o7 oI7 h7 tk7 g7 E7 hz7 hc7 F7 N7 off7 hIc7 G7
        obtain ⟨j, rfl, j1, j2⟩ := sizes_nat (by decide) hz7
        k_steps
        refine ints_src (fun z => z.fdiv j + 1) (by rfl) (by k_asm) (by k_asm) (by assumption) (H := D8) (by repeat (first | exact List.Mem.head _ | apply List.Mem.tail)) hys8 (by rw [List.length_map, hn]; decide) ?turn3 ?done3
        case turn3 =>
          intro I6 C6 D6 i6 z6 t6 ys6 oI6 oC6 m6 h6 tk6 g6 E6 hz6 hys6 hoC6 hm6 F6 N6 off6 ne6 G6
          refine wpAny_tests_nil ?_
          simp only [if_true]
          k_steps
          exact ints_end (by k_asm) (by k_asm) off6 (by assumption) (by repeat (first | exact List.Mem.head _ | apply List.Mem.tail)) hz6 hys6 rfl
        case done3 =>
          intro D6 ys6 h6 tk6 g6 hys6 F6 N6 off6 G6
          k_steps
          · exact absurd (stops_eq hn j spare tabs) (by assumption)
          · exact TurnEndC.intro (by k_asm) (by k_asm) _ (fun p hp => .tail _ hp) hc7 off7 (by assumption) ⟨_, .head _, rfl, _, rfl⟩ ⟨rfl, _, anyAt_set⟩
      case done2 =>
        intro oc7 c7 o7 h7 tk7 g7 hc7 F7 N7 ne7 G7
        dsimp only
        k_steps
        rename News _ _ _ ((_, _) :: (_, _) :: (_, oc7) :: _) => Nt7
        refine cell_loopL (Str.ofString "column") (colZ ns number) (zs := [1, 2, 4]) (by rfl) (by rfl) (by rfl) (by rfl) (by k_asm) Nt7 hc7 ?ne4 ?neR4 ?hv4 (by rfl) (by assumption) ?turn4 ?done4
        case hv4 => repeat constructor
        case ne4 =>
          intro p hp
          rcases List.mem_cons.mp hp with rfl | hp
          · exact ne_cell Nt7 (by repeat (first | exact List.Mem.head _ | apply List.Mem.tail)) hc7 (by repeat (first | exact List.Mem.head _ | apply List.Mem.tail)) (by intro c e; cases e)
          · rcases List.mem_cons.mp hp with rfl | hp
            · exact ne_cell Nt7 (by repeat (first | exact List.Mem.head _ | apply List.Mem.tail)) hc7 (by repeat (first | exact List.Mem.head _ | apply List.Mem.tail)) (by intro c e; cases e)
            · exact ne7 p hp
        case neR4 => exact neR_of (by assumption) (by assumption)
        case turn4 =>
          intro I6 i6 z6 t6 oc6 o6 vs6 k6 oI6 h6 tk6 g6 E6 hz6 hc6 hvs6 F6 N6 off6 neR6 G6
          obtain ⟨j, rfl, j1, j2⟩ := sizes_nat (by decide) hz6
          have hlen6 : vs6.length ≤ 1000 := by rw [hvs6.length, List.length_map, List.length_take]; exact Nat.le_trans (Nat.min_le_right _ _) (by decide)
          k_steps
          · exact absurd (by assumption : (j : Int) * (number : Int) = 0) (Int.mul_ne_zero (by omega) (by omega))
          · exact cell_endL (by k_asm) (by k_asm) hc6 (by assumption) off6 neR6 hvs6 hz6 col_eq anyAt_set
        case done4 =>
          intro oc6 c6 o6 vs6 k6 h6 tk6 g6 hc6 hvs6 F6 N6 G6
          dsimp only
          k_steps
          exact hret _ _ _ _ _ (by k_asm) (cb_drop (by k_asm) (fun p hp => by repeat (first | exact hp | apply List.mem_cons_of_mem))) (by assumption) ⟨rfl, o9, ps9, rfl, ho9, htr9⟩
end SR
end
section
open PySem PySem.W PyProof.Rows PySem.Calls PySem.Spec LCg
set_option Elab.async false
set_option maxRecDepth 100000
namespace SR
theorem rows_SRab_1 : True := by
  k_with_none
  k_with "execs cons" => (k_here; (fail_if_success with_reducible show wpAny _ Aq _ _ _ _); (try k_fold); refine' a_let ?_; intro Aq)
  k_with "execs cons" => (k_here; (fail_if_success with_reducible show wpAny _ _ _ _ _ ⟨_, _, _, tkq, _⟩); refine' tok_all ?_; intro tkq; dsimp only)
  k_with "execs cons" => (k_here; (fail_if_success refine' m_is (m := mq) (by with_reducible assumption) ?_); refine' m_let ?zzF ?_; (case zzF => k_asm); intro mq Fq; dsimp only at Fq)
  k_with "k_room" => (first | exact room_k (k := 0) (by assumption) (by decide) | exact room_k (k := 1) (by assumption) (by decide) | exact room_k (k := 2) (by assumption) (by decide) | exact room_k (k := 3) (by assumption) (by decide) | exact room_k (k := 4) (by assumption) (by decide) | ktr_room)
  k_with "ktr_room" => (first | exact room_k (k := 0) (by assumption) (by decide) | exact room_k (k := 1) (by assumption) (by decide) | exact room_k (k := 2) (by assumption) (by decide) | exact room_k (k := 3) (by assumption) (by decide) | exact room_k (k := 4) (by assumption) (by decide))
  k_with "k_units" => (first | exact unit_k (k := 3) (by assumption) rfl (by decide) | exact unit_k (k := 0) (by assumption) rfl (by decide) | exact unit_k (k := 6) (by assumption) rfl (by decide) | exact unit_k (k := 4) (by assumption) rfl (by decide) | exact unit_k (k := 7) (by assumption) rfl (by decide) | exact unit_k (k := 9) (by assumption) rfl (by decide) | exact unit_k (k := 1) (by assumption) rfl (by decide) | ktr_units)
  k_with "ktr_units" => (first | exact unit_k (k := 3) (by assumption) rfl (by decide) | exact unit_k (k := 0) (by assumption) rfl (by decide) | exact unit_k (k := 6) (by assumption) rfl (by decide) | exact unit_k (k := 4) (by assumption) rfl (by decide) | exact unit_k (k := 7) (by assumption) rfl (by decide) | exact unit_k (k := 9) (by assumption) rfl (by decide) | exact unit_k (k := 1) (by assumption) rfl (by decide))
  k_with "units_room" => (first | exact unit_k (k := 3) (by assumption) rfl (by decide) | exact unit_k (k := 0) (by assumption) rfl (by decide) | exact unit_k (k := 6) (by assumption) rfl (by decide) | exact unit_k (k := 4) (by assumption) rfl (by decide) | exact unit_k (k := 7) (by assumption) rfl (by decide) | exact unit_k (k := 9) (by assumption) rfl (by decide) | exact unit_k (k := 1) (by assumption) rfl (by decide))
  k_with "k_all" => (first | assumption | exact allLt_ne (by assumption) (Nat.le_refl _))
  k_with "k_mem" => (assumption)
  k_with "k_inst" => ((refine' acc_inst ?y4N ?y4h1 ?y4h2; (case y4N => k_asm); (case y4h1 => k_mem); (case y4h2 => k_mem)))
  k_with "execs cons" => (k_here; k_fold)
  k_with "exec If" => (k_here; k_fold)
  k_with "exec Assign" => (k_here; k_fold)
  k_with "exec Return" => (k_here; k_fold)
  k_with "eval ListComp" => (k_here; k_dflt (refine ListComp_O (_F₀ := by k_asm) (by with_unfolding_all rfl) (by decide) (by rfl) (by decide) (by rfl) ?_))
  k_with "exec Assign cons ListComp" => (k_here; k_dflt (refine Assign_ListComp_O (_F₀ := by k_asm) (by rfl) (by with_unfolding_all rfl) (by with_unfolding_all rfl) (by decide) (by rfl) (by decide) (by rfl) (by rfl) (by rfl) ?_))
  k_with "exec For Name Tuple cons nil" => (k_here; k_dflt (refine wpAny_For ?_))
  k_with "call builtin:str.join" => (k_here; k_dflt (refine' join_lead ?z9N ?z9m ?z9y ?z9n ?z9s ?_; (case z9N => k_asm); (case z9m => first | exact List.Mem.head _ | k_mem); (case z9y => assumption); (case z9n => assumption); (case z9s => assumption)); intro J'q t'q tk'q hJ'q hJl'q)
  k_with "getMethod ref" => (k_here; k_dflt (refine' method_anyK ?z10k1 ?z10k2 ?z10k3 ?z10k4 ?z10k5 ?z10k6 ?z10k7 ?z10k8 ?z10k9 ?_; (case z10k1 => k_asm); (case z10k2 => k_asm); (case z10k3 => k_inst); (case z10k4 => k_is); (case z10k5 => exact PySem.canon_list_getattribute); (case z10k6 => k_is); (case z10k7 => k_is); (case z10k8 => first | exact .inl (by k_is) | exact .inr (.inl (by k_is)) | exact .inr (.inr (by k_is))); (case z10k9 => k_get); k_whole))
  k_with "call ref" => (k_here; k_dflt ((show wpAny _ _ (call (Value.ref 177) _) _ _ _); refine' tell_use (tell_countH _ _ _ _ ?z10H) ?z10k1 ?z10k2 ?z10k3 ?z10k4 ?z10k5 ?z10kK ?z10kG ?z10kd ?z10ku ?_; (case z10k1 => k_asm); (case z10k2 => k_asm); (case z10k3 => k_asm); (case z10k4 => k_asm); (case z10k5 => k_asm); (case z10kK => exact rfl); (case z10kG => first | assumption | (dsimp only; assumption)); (case z10H => assumption); (case z10kd => ktr_room); (case z10ku => ktr_units)); intro r9q news9q h9q tk9q g9q F9q N9q G9q P9q; obtain ⟨⟨t9q, e9q⟩, e8q⟩ := P9q; replace e8q := e8q.symm; subst e9q; subst e8q; (try dsimp only))
  k_with "call ref" => (k_here; k_dflt ((show wpAny _ _ (call (Value.ref 94) _) _ _ _); refine' i2d_call ?z10k1 ?z10k2 ?z10k3 ?z10k4 ?z10k5 ?z10kK ?z10kG ?z10kd ?z10ku ?z10hps ?z10hr ?z10v1 ?_; (case z10k1 => k_asm); (case z10k2 => k_asm); (case z10k3 => k_asm); (case z10k4 => k_asm); (case z10k5 => k_asm); (case z10kK => exact rfl); (case z10kG => first | assumption | (dsimp only; assumption)); (case z10hps => assumption); (case z10hr => assumption); (case z10v1 => assumption); (case z10kd => ktr_room); (case z10ku => ktr_units)); intro D8 c8 oc8 ps8 vs8 zs8 k8 h8 tk8 g8 F8 N8 G8 q1 q2 q3 q4 q5 q6 q7 q8 q9; (try dsimp only))
  k_with "subscriptTail" => (k_here; k_dflt (first
  | (refine' sub_ref ?z10N ?z10m ?z10i ?z10l ?_; (case z10N => k_asm); (case z10m => ((repeat (first | exact List.Mem.head _ | apply List.Mem.tail)); done)); (case z10i => assumption); (case z10l => assumption))
  | (refine' row_get ?z10N ?z10R ?z10j ?z10p ?_; (case z10N => k_asm); (case z10R => assumption); (case z10j => assumption); (case z10p => assumption); intro t'q)))
  k_with "call builtin:len" => (k_here; k_dflt (refine' len_nats ?z10N ?z10m ?z10v ?z10l ?_; (case z10N => k_asm); (case z10m => ((repeat (first | exact List.Mem.head _ | apply List.Mem.tail)); done)); (case z10v => assumption); (case z10l => assumption)); intro t'q tk'q)
  k_with "exec For Name Call cons nil" => (k_here; k_dflt (refine wpAny_For ?_))
  k_with "subscriptTail Name Name ref int" => (k_here; k_dflt ((refine' nat_get ?z10N ?z10m ?z10v ?z10i ?z10l ?_; (case z10N => k_asm); (case z10m => ((repeat (first | exact List.Mem.head _ | apply List.Mem.tail)); done)); (case z10v => assumption); (case z10i => assumption); (case z10l => assumption); intro t'q)))
  k_with "setItem ref int" => (k_here; k_dflt (refine' set_row ?z10F ?z10N ?z10R ?z10j ?z10p ?_; (case z10F => k_asm); (case z10N => k_asm); (case z10R => assumption); (case z10j => assumption); (case z10p => assumption)); intro h'q o'q F'q N'q e'q)
  k_with "call ref" => (k_here; k_dflt ((show wpAny _ _ (call (Value.ref 101) _) _ _ _); refine' d2i_call ?z10k1 ?z10k2 ?z10k3 ?z10k4 ?z10k5 ?z10kK ?z10kG ?z10kd ?z10ku ?z10hps ?z10hr ?z10hR ?z10hj ?z10bit ?_; (case z10k1 => k_asm); (case z10k2 => k_asm); (case z10k3 => k_asm); (case z10k4 => k_asm); (case z10k5 => k_asm); (case z10kK => exact rfl); (case z10kG => first | assumption | (dsimp only; assumption)); (case z10hps => assumption); (case z10hr => assumption); (case z10hR => assumption); (case z10hj => assumption); (case z10bit => assumption); (case z10kd => ktr_room); (case z10ku => ktr_units)); intro t8' c8 oc8 ps7 h8 tk8 g8 F8 N8' G8' q1 q2 q3 q4; (try dsimp only))
  trivial
set_option maxHeartbeats 8000000 in
theorem tell_answer (w : World) (rest : Led) (hr89 : ∀ p ∈ rest, p.1 ≠ 89) (hr96 : ∀ p ∈ rest, p.1 ≠ 96) (ps p96 : Array Value) (hps : TabSt 56 4 qI2D rest ps) (h96 : TabSt 71 4 qD2I rest p96) (H : Addr) (xs : List Addr) (ns : List Nat) (k : Nat) (hH : (H, listOf (xs.map Value.ref).toArray k) ∈ rest) (hx : xs.length = 4) (hn : ns.length = 4) (hp : ∀ (i : Nat) (x : Addr) (n : Nat), xs[i]? = some x → ns[i]? = some n → Hp rest x n) (hs : ∀ n ∈ ns, n ≤ 7) (number : Nat) (a1 : 2 ≤ number) (a2 : number ≤ 4) (tnu : Tok) :
    Tell w 194 [.ref H, .int number tnu] 100 400 ((89, tabObj ps) :: (96, tabObj p96) :: rest) (AnsPost ps p96 rest (pairsOf (ansAt number (bitM ns) [2, 1, 0]))) := by
  unfold Tell
  k_fill
  intro p loose mean mg mb dp un gd cn cs a ccd cl outer A₀ base h₀ L m s Q E B F X N T hk hG hd hu hret
  obtain ⟨_, _, _, _, _⟩ := cs
  cases hk
  refine wpAny_call ?_
  k_dflt k_enter
  k_steps
  rename (89 < _ ∧ 96 < _ ∧ AllLt _ rest) => l89
  obtain ⟨l89a, l96a, lr⟩ := l89
  refine rows_src (by rfl) (by k_asm) (by k_asm) hG hps hH hx hn ?turn ?done
  case turn =>
    intro I9 C9 D9 i9 x9 n9 ps9 X9 rs9 oI9 oC9 m9 h9 tk9 g9 E9 hx9 hn9 hl9 ht9 hnd9 hra9 hrX9 hX9 hoC9 hm9 F9 N9 off9 ne9 G9
    refine wpAny_tests_nil ?_
    simp only [if_true]
    have H9 := Hp.in N9 (hp i9 x9 n9 hx9 hn9) (fun p h => .tail _ (.tail _ (.tail _ (.tail _ (List.mem_append_right _ (.tail _ (.tail _ (.tail _ (.tail _ h)))))))))
    obtain ⟨d9, hsh9, tk09, tk19, ep9, pcs9, h19, h29, h39, h49⟩ := id H9
    have hn7 : n9 ≤ 7 := hs n9 (List.mem_of_getElem? hn9)
    have hr9 := rows_off (oI := oI9) (oC := oC9) (oD := lst (rs9.map Value.ref)) off9 hX9 (rows_base l89a hr89)
    k_steps
    rename (_ < _ ∧ _ ∧ 89 < _ ∧ _) => lR
    rename IntsAre _ (List.take 3 _) => hI9
    rw [q5] at hI9
    exact rows_end (kr := 0) (by k_asm) (by k_asm) rows_sub off9 (by assumption) (.tail _ (.tail _ (.tail _ (.tail _ hH)))) hn9 hl9 ht9 hnd9 hra9 hrX9 hX9 (rows_lt lR).1 lR.2.2.1 q7 q1 q8 q9 hI9
  case done =>
    intro D9 ps9 X9 rs9 h9 tk9 g9 hl9 ht9 hnd9 hra9 hrX9 hX9 F9 N9 off9 G9
    obtain ⟨⟨f1, f2, f3⟩, e1, e2, e3, e4⟩ := ans_facts hX9 lr l89a l96a off9
    have hcl := tab_clean N9 (fun p hp => .tail _ (.tail _ hp)) ht9 (by assumption) (by assumption) (by assumption) h96 (rowsM_of hra9 hl9 hn fun p hp => hp)
    have z89 : ∀ r ∈ rs9, r ≠ 89 := off_rs hrX9 fun p hp => hX9 p hp (89, tabObj ps) (.head _)
    have z96 : ∀ r ∈ rs9, r ≠ 96 := off_rs hrX9 fun p hp => hX9 p hp (96, tabObj p96) (.tail _ (.tail _ (.tail _ (.tail _ (.head _)))))
    have zrr : ∀ r ∈ rs9, ∀ q ∈ rest, r ≠ q.1 := fun r hr q hq => off_rs hrX9 (fun p hp => hX9 p hp q (.tail _ (.tail _ (.tail _ (.tail _ (.tail _ hq)))))) r hr
    have zD : (96 : Addr) ≠ D9 := off9 (96, tabObj p96) (.tail _ (List.mem_append_right _ (.tail _ (.tail _ (.tail _ (.head _))))))
    replace N9 := cb_drop N9 ans_sub
    have hRM := rowsM_of hra9 hl9 hn (TL := (89, tabObj ps9) :: (X9 ++ (96, tabObj p96) :: rest)) fun p hp => .tail _ (List.mem_append_left _ hp)
    generalize hTL : (89, tabObj ps9) :: (X9 ++ (96, tabObj p96) :: rest) = TL at N9 e1 e2 e3 e4 hRM
    have hrsT : ∀ r ∈ rs9, ∃ o, (r, o) ∈ TL := by
      intro r hr
      obtain ⟨o, ho⟩ := hrX9 r hr
      exact ⟨o, hTL ▸ .tail _ (List.mem_append_left _ ho)⟩
    have hr1 := off_rs hrsT e1
    have hr2 := off_rs hrsT e2
    have hr3 := off_rs hrsT e3
    have hrD := off_rs hrsT e4
    k_steps
    have hrt := rs_ne5 (by assumption) hrsT
    refine ans_loop number [2, 1, 0] (bitM ns) rs9 (by omega) (bitM_bit ns) (by rfl) (by rfl) (by rfl) (by rfl) (by k_asm) (by k_asm) (by assumption) (by assumption) ?hv (by decide) ⟨by k_ne, by k_ne, by k_ne, by k_ne, by k_ne⟩ (by assumption) (by k_ne) (by assumption) ?hrs hRM (by rfl) (by rfl) (by rfl) (by assumption) ?turn2 ?done2
    case hv => repeat constructor
    case hrs => exact rs_ne (by assumption) hrsT
    case turn2 =>
      intro I7 p7 t7 S7 oc37 oc27 Dc7 vsc7 kc7 tl7 o17 o27 o37 oI7 h7 tk7 g7 E7 hp7 ok7 hd37 hd27 hvs7 hR7 hTL7 hrs7 ne27 neD7 F7 N7 off7 hI7 G7
      k_steps
      refine filt_src (onesOf S7.1 S7.2 p7) (n := 4) (by rfl) (by k_asm) (by k_asm) (by assumption) (by assumption) (by rfl) (by decide) ?turn3 ?done3
      case turn3 =>
        intro I6 C6 D6 i6 t6 ys6 oI6 oC6 m6 h6 tk6 g6 E6 hi6 hys6 hoC6 hm6 F6 N6 off6 ne6 G6
        obtain ⟨r6, hr6⟩ : ∃ r, rs9[i6]? = some r := ⟨rs9[i6], List.getElem?_eq_getElem (by omega)⟩
        have hR6 := RowsM.in N6 hR7 (fun p h => by repeat (first | exact h | apply List.mem_cons_of_mem))
        k_steps
        · exact filt_end (by k_asm) (by k_asm) off6 (by assumption) ⟨rfl, filt_no hys6 (onesOf_in (S := S7) (p := p7) (i := i6) (by assumption))⟩
        · exact filt_end (by k_asm) (by k_asm) off6 (by assumption) ⟨rfl, filt_yes hys6 (by rw [onesOf_out (S := S7) (p := p7) (i := i6) (by assumption)]; exact decide_eq_true (by assumption))⟩
        · exact filt_end (by k_asm) (by k_asm) off6 (by assumption) ⟨rfl, filt_no hys6 (by rw [onesOf_out (S := S7) (p := p7) (i := i6) (by assumption)]; exact decide_eq_false (by assumption))⟩
      case done3 =>
        intro D6 ys6 h6 tk6 g6 hys6 F6 N6 off6 G6
        have hl6 := onesL_len S7 p7
        have hlc : S7.2.length ≤ 1000 := by have := ok7.len; omega
        replace hys6 : IntsAre ys6 (natZ (onesL S7 p7)) := hys6
        have hD6 := ne_nat <| Ne.symm (off6 (_, oc27) (.tail _ (.tail _ (.tail _ (.head _)))))
        obtain ⟨hw1, hw2⟩ := wantOf_bounds (number := number) (by omega) S7 p7
        unfold wantOf at hw1 hw2
        k_steps
        · rename IntsAre _ (natZ _ ++ _) => hI5
          rename (_ : Int) < _ => hlt5
          rw [natZ_ch hlt5] at hI5
          obtain ⟨hch5, hwa5⟩ := chAfter_pos hlt5
          obtain ⟨hlt4, hlen4⟩ := chAfter_ok (number := number) (by omega) ok7 p7
          rename Obj.data _ = Data.cell (some (Value.ref _)) => d5
          rename Obj.data _ = Data.cell (some (Value.ref D9)) => d19
          have hlc4 : (chAfter number S7 p7).length ≤ 1000 := by omega
          rename News _ _ _ _ => N5
          rename AllBare _ => G5
          have oo5 := lt_9 (by assumption)
          have hrC5 := off_rs (rs_in hR7) (lt_tail (by assumption))
          have hR5 := RowsM.in N5 hR7 (fun p h => by repeat (first | exact h | apply List.mem_cons_of_mem))
          refine k_loop' S7.1 (chAfter number S7 p7) (wantAfter number S7 p7) p7 rs9 (by rfl) hd37 d5 d19 hI5 (by assumption) ?hb ?hl (by rfl) (by rfl) (by k_asm) (by exact map_ww') N5 G5 (by (repeat (first | exact List.Mem.head _ | apply List.Mem.tail)); done) (by (repeat (first | exact List.Mem.head _ | apply List.Mem.tail)); done) (by (repeat (first | exact List.Mem.head _ | apply List.Mem.tail)); done) (by (repeat (first | exact List.Mem.head _ | apply List.Mem.tail)); done) (by (repeat (first | exact List.Mem.head _ | apply List.Mem.tail)); done) hR5 ?turn4 ?done4
          case hb => rw [← List.length_append, natZ_ch hlt5, natZ, List.length_map]
          case hl => omega
          case turn4 =>
            intro Ik8 i8 u8 tl8 oIk8 h8 tk8 g8 E8 hi8 hR8 hall8 F8 N8 off8 G8
            have ha8 := hlt4 _ (getD_mem hi8)
            obtain ⟨r8, hr8⟩ : ∃ r, rs9[(chAfter number S7 p7).getD i8 0]? = some r := ⟨_, List.getElem?_eq_getElem (by omega)⟩
            have hRk := RowsM.in N8 hR8 (fun p h => by repeat (first | exact h | apply List.mem_cons_of_mem))
            k_steps
            exact k_end (by k_asm) (by k_asm) off8 (by assumption) hR8 hall8 hr8 hnd9 (ne_five hr3 hr2 hr1 hrD hrC5) (by assumption) (by rw [hwa5]; simp only [decide_eq_true_eq])
          case done4 =>
            intro tl8 o18 h8 tk8 g8 hR8 hall8 F8 N8 G8
            dsimp only
            k_steps
            exact ans_end (by k_asm) (by k_asm) hd37 d5 hI5 hR8 hall8 (by (repeat (first | exact List.Mem.head _ | apply List.Mem.tail)); done) (by (repeat (first | exact List.Mem.head _ | apply List.Mem.tail)); done) (off_rs (rs_in hR7) fun p hp => (off7 p (.tail _ (.tail _ (.tail _ (.tail _ (.tail _ hp)))))).1) hrt hr2 hr3 (fun p hp hn => ⟨by have h := hTL7 p hp hn; repeat (first | exact h | apply List.mem_cons_of_mem), (off7 p (.tail _ (.tail _ (.tail _ (.tail _ (.tail _ (hTL7 p hp hn))))))).1⟩) e2 e3
              (off7 _ (.head _)) (off7 _ (.tail _ (.head _))) (off7 _ (.tail _ (.tail _ (.head _)))) (off7 _ (.tail _ (.tail _ (.tail _ (.head _))))) oo5.1 oo5.2 hrC5 G8
        · rename ¬ ((_ : Int) < _) => hlt5
          obtain ⟨hch5, hwa5⟩ := chAfter_neg hlt5
          have hI5 : IntsAre vsc7 (natZ (chAfter number S7 p7)) := by rw [hch5]; assumption
          obtain ⟨hlt4, hlen4⟩ := chAfter_ok (number := number) (by omega) ok7 p7
          have d5 := hd27
          rename Obj.data _ = Data.cell (some (Value.ref D9)) => d19
          have hlc4 : (chAfter number S7 p7).length ≤ 1000 := by omega
          rename News _ _ _ _ => N5
          rename AllBare _ => G5
          have oo5 := And.intro (off7 (Dc7, listOf vsc7.toArray kc7) (.tail _ (.tail _ (.tail _ (.tail _ (.head _)))))) neD7
          have hrC5 := hrs7
          have hR5 := RowsM.in N5 hR7 (fun p h => by repeat (first | exact h | apply List.mem_cons_of_mem))
          refine k_loop' S7.1 (chAfter number S7 p7) (wantAfter number S7 p7) p7 rs9 (by rfl) hd37 d5 d19 hI5 (by assumption) ?hbb ?hlb (by rfl) (by rfl) (by k_asm) (by exact map_w') N5 G5 (by (repeat (first | exact List.Mem.head _ | apply List.Mem.tail)); done) (by (repeat (first | exact List.Mem.head _ | apply List.Mem.tail)); done) (by (repeat (first | exact List.Mem.head _ | apply List.Mem.tail)); done) (by (repeat (first | exact List.Mem.head _ | apply List.Mem.tail)); done) (by (repeat (first | exact List.Mem.head _ | apply List.Mem.tail)); done) hR5 ?turn4b ?done4b
          case hbb => rw [hch5]
          case hlb => omega
          case turn4b =>
            intro Ik8 i8 u8 tl8 oIk8 h8 tk8 g8 E8 hi8 hR8 hall8 F8 N8 off8 G8
            have ha8 := hlt4 _ (getD_mem hi8)
            obtain ⟨r8, hr8⟩ : ∃ r, rs9[(chAfter number S7 p7).getD i8 0]? = some r := ⟨_, List.getElem?_eq_getElem (by omega)⟩
            have hRk := RowsM.in N8 hR8 (fun p h => by repeat (first | exact h | apply List.mem_cons_of_mem))
            k_steps
            exact k_end (by k_asm) (by k_asm) off8 (by assumption) hR8 hall8 hr8 hnd9 (ne_five hr3 hr2 hr1 hrD hrC5) (by assumption) (by rw [hwa5]; simp only [decide_eq_true_eq])
          case done4b =>
            intro tl8 o18 h8 tk8 g8 hR8 hall8 F8 N8 G8
            dsimp only
            k_steps
            exact ans_end (by k_asm) (by k_asm) hd37 d5 hI5 hR8 hall8 (by (repeat (first | exact List.Mem.head _ | apply List.Mem.tail)); done) (by (repeat (first | exact List.Mem.head _ | apply List.Mem.tail)); done) (off_rs (rs_in hR7) fun p hp => (off7 p (.tail _ (.tail _ (.tail _ (.tail _ (.tail _ hp)))))).1) hrt hr2 hr3 (fun p hp hn => ⟨by have h := hTL7 p hp hn; repeat (first | exact h | apply List.mem_cons_of_mem), (off7 p (.tail _ (.tail _ (.tail _ (.tail _ (.tail _ (hTL7 p hp hn))))))).1⟩) e2 e3
              (off7 _ (.head _)) (off7 _ (.tail _ (.head _))) (off7 _ (.tail _ (.tail _ (.head _)))) (off7 _ (.tail _ (.tail _ (.tail _ (.head _))))) oo5.1 oo5.2 hrC5 G8
    case done2 =>
      intro oc37 oc27 Dc7 vsc7 kc7 tl7 o17 o27 o37 h7 tk7 g7 hvs7 hd27 hR7 hTL7 hrs7 F7 N7 G7
      have ok7 := ansAt_ok (number := number) (by omega) (bitM_bit ns) [2, 1, 0]
      have m96 : (96, tabObj p96) ∈ tl7 := hTL7 _ (hTL ▸ .tail _ (List.mem_append_right _ (.head _))) fun h => z96 _ h rfl
      have nC : Dc7 ≠ 96 := ne_of_obj N7 (.tail _ (.tail _ (.tail _ (.tail _ (.tail _ (.head _)))))) (.tail _ (.tail _ (.tail _ (.tail _ (.tail _ (.tail _ m96)))))) (by intro e; have := congrArg Obj.data e; cases this)
      have iB := inB_of N7 (fun p hp => by repeat (first | exact hp | apply List.mem_cons_of_mem)) hTL7
      have iR := fun p (hp : p ∈ rest) => iB p (hTL ▸ .tail _ (List.mem_append_right _ (.tail _ hp))) (fun h => zrr _ h p hp rfl) (hr96 p hp)
      have mCB := in_filter N7 (show (Dc7, listOf vsc7.toArray kc7) ∈ _ from by (repeat (first | exact List.Mem.head _ | apply List.Mem.tail)); done) nC
      dsimp only
      k_steps
      rename Obj.data _ = Data.cell (some (Value.ref D9)) => d19
      refine pairs_src' (rs := rs9) (pairsOf (ansAt number (bitM ns) [2, 1, 0])) d19 (by rfl) (by k_asm) N7 (by assumption) (by repeat (first | exact m96 | apply List.mem_cons_of_mem)) (by (repeat (first | exact List.Mem.head _ | apply List.Mem.tail)); done) (by (repeat (first | exact List.Mem.head _ | apply List.Mem.tail)); done) (by (repeat (first | exact List.Mem.head _ | apply List.Mem.tail)); done) nC h96 hvs7 (by have := ok7.len; omega) ?turn6 ?done6
      case turn6 =>
        intro I8 C8 D8 i8 a8 t8 ps8 X8 Ts8 oI8 oC8 m8 h8 tk8 g8 E8 ha8 hl8 ht8 hpa8 hX8 hoC8 hm8 F8 N8 off8 ne8 G8
        refine wpAny_tests_nil ?_
        simp only [if_true]
        have ha4 : a8 < 4 := ok7.lt a8 (List.mem_of_getElem? ha8)
        obtain ⟨r8, hr8⟩ : ∃ r, rs9[a8]? = some r := ⟨rs9[a8], List.getElem?_eq_getElem (by omega)⟩
        have hbit8 := ok7.bit
        have hoff8 := pair_off (oI := oI8) (oC := oC8) (oD := lst (Ts8.map Value.ref)) off8 hX8 (Nat.ne_of_gt (Nat.lt_of_lt_of_le l96a (Nat.le_add_right _ 1))) (Ne.symm zD)
        have hRB := pair_rows N8 hR7 (fun p hp => by repeat (first | exact hp | apply List.mem_cons_of_mem)) z96
        have hTB := pair_tab N8 ht8 iR
        k_steps
        rename (96 < _ ∧ _ ∧ _) => lT
        exact pairs_end (by k_asm) (by k_asm) pair_sub off8 (by assumption) mCB (pairsOf_get ha8) hl8 ht8 hpa8 hX8 (pair_lt lT) lT.1 q2 q1 q3 q4
      case done6 =>
        intro D8 ps8 X8 Ts8 h8 tk8 g8 hl8 ht8 hpa8 hX8 F8 N8 off8 G8
        k_steps
        obtain ⟨news9, N9', P9'⟩ := ans_post (by k_asm) hTL iB off8 hX8 hX9 z89 zrr hr96 hr89 hcl ht8 (by rw [hl8, pairsOf, List.length_map]) hpa8
        exact hret _ _ _ _ _ (by k_asm) N9' (by assumption) P9'
end SR
end
section
open PySem PySem.W PyProof.Rows PySem.Calls PySem.Spec LCg
set_option Elab.async false
set_option maxRecDepth 100000
namespace SR
/-- what the law's own part of the ledger holds -/
structure ZOk (bad : List Addr) (p89 p96 : Array Value) (Z : Led) (xs : List Addr) (ns : List Nat) : Prop where
  off : ∀ p ∈ Z, p.1 ∉ bad
  t89 : TabSt 56 4 qI2D Z p89
  t96 : TabSt 71 4 qD2I Z p96
  hps : HpsAre Z xs ns
theorem no_str {vs : List Value} {q : Str} {t : Tok} (h : TriplesOk vs) : ¬ vs[1]? = some (.str q t) := by
  intro e
  unfold TriplesOk at h
  split at h
  · cases e
  · cases e
  · exact h
theorem tab_core {line col : Nat} {q : Str} {X Z : Led} {ps pz : Array Value} {a149 cW cS H Dd : Addr} {o oW oS : Obj} {vW vS : Option Value} {sH sD : Array Value} {kH kD : Nat} (h : TabSt line col q (X ++ (a149, o) :: (cW, oW) :: (cS, oS) :: (H, listOf sH kH) :: (Dd, listOf sD kD) :: Z) ps) (ho : o.data = .fields pz) (htr : TriplesOk pz.toList) (hW : oW.data = .cell vW) (hS : oS.data = .cell vS) : TabSt line col q (X ++ Z) ps := by
  rcases h with h | ⟨c', oc, vs, t, h1, h2, h3, h4⟩
  · exact .inl h
  refine .inr ⟨c', oc, vs, t, h1, ?_, h3, h4⟩
  rcases List.mem_append.mp h2 with h | h
  · exact List.mem_append_left _ h
  simp only [List.mem_cons] at h
  rcases h with h | h | h | h | h | h
  · exfalso
    cases h
    rw [ho] at h3
    cases h3
    have h5 : pz.toList[1]? = some (.str q t) := by simpa using h4
    exact absurd h5 (no_str htr)
  · cases h; rw [hW] at h3; cases h3
  · cases h; rw [hS] at h3; cases h3
  · cases h; cases h3
  · cases h; cases h3
  · exact List.mem_append_right _ h
section
variable {w : World} {p : Program} {loose : List Str} {mean : ExcName → Option Value} {mg mb : Str → Option Value} {dp un : Nat} {gd : Option (List Code)} {cn : Str} {cs : Scope} {a : Addr} {ccd : Value} {cl : List (Str × Addr)} {outer : List Env} {A₀ : Around} {base h₀ : Heap} {L : Addr} {m : Str → Option Value} {s : Shared} {Q E : Value → Shared → Prop}
  {p89 p96 : Array Value} {o : Obj} {ps : Array Value} {cW cS H Dd : Addr} {oW oS : Obj} {vW vS : Option Value} {sD : Array Value} {kD k : Nat} {xs : List Addr} {ns : List Nat} {Z : Led} {number : Nat} {tnu : Tok}
theorem answer_call (B : Below A₀ base outer h₀) (F : Fr h₀ L s.heap m) (X : (SR.hm.heap_1 w.params).In h₀) (N : News h₀ L s.heap ((89, tabObj p89) :: (96, tabObj p96) :: (149, o) :: (cW, oW) :: (cS, oS) :: (H, listOf (xs.map Value.ref).toArray k) :: (Dd, listOf sD kD) :: Z)) (T : Top p loose mean mg mb h₀) (hk : cs.kind = .function) (hG : AllBare s.gens) (hd : dp + 100 < recursionLimit) (hu : un + 400 < cLine)
    (ho : IsTab o ps) (htr : TriplesOk ps.toList) (hW : oW.data = .cell vW) (hS : oS.data = .cell vS) (nd : ∀ q ∈ [cW, cS, H, Dd], q ≠ 89 ∧ q ≠ 96 ∧ q ≠ 149) (Zk : ZOk [89, 96, 149, cW, cS, H, Dd] p89 p96 Z xs ns) (hx : xs.length = 4) (hn : ns.length = 4) (hs : ∀ n ∈ ns, n ≤ 7) (a1 : 2 ≤ number) (a2 : number ≤ 4)
    (ret : ∀ D Ts p89' p96' X' h' tk g, Fr h₀ L h' m → News h₀ L h' ((89, tabObj p89') :: (96, tabObj p96') :: (149, o) :: (cW, oW) :: (cS, oS) :: (H, listOf (xs.map Value.ref).toArray k) :: (Dd, listOf sD kD) :: (X' ++ Z)) → AllBare g → ZOk [89, 96, 149, cW, cS, H, Dd] p89' p96' (X' ++ Z) xs ns → (D, lst (Ts.map Value.ref)) ∈ X' → Ts.length = (pairsOf (ansAt number (bitM ns) [2, 1, 0])).length → PairsAre X' Ts (pairsOf (ansAt number (bitM ns) [2, 1, 0])) → Q (.ref D) { s with heap := h', toks := tk, gens := g }) :
    wpAny (model PySem.Challenge.rw_sr0056_01.row.prog w) (ktrTop dp un gd cn cs L a ccd cl outer) (call (.ref 194) [.ref H, .int (number : Nat) tnu]) Q E s := by
  have off' : ∀ b : Addr, b ∈ [89, 96, 149, cW, cS, H, Dd] → ∀ q ∈ Z, q.1 ≠ b := fun b hb q hq e => Zk.off q hq (e ▸ hb)
  have z89 := off' 89 (.head _)
  have z96 := off' 96 (.tail _ (.head _))
  have nW := nd cW (.head _)
  have nS := nd cS (.tail _ (.head _))
  have nH := nd H (.tail _ (.tail _ (.head _)))
  have nD := nd Dd (.tail _ (.tail _ (.tail _ (.head _))))
  have r89 : ∀ q ∈ (149, o) :: (cW, oW) :: (cS, oS) :: (H, listOf (xs.map Value.ref).toArray k) :: (Dd, listOf sD kD) :: Z, q.1 ≠ 89 := fc (by decide : (149 : Nat) ≠ 89) (fc nW.1 (fc nS.1 (fc nH.1 (fc nD.1 z89))))
  have r96 : ∀ q ∈ (149, o) :: (cW, oW) :: (cS, oS) :: (H, listOf (xs.map Value.ref).toArray k) :: (Dd, listOf sD kD) :: Z, q.1 ≠ 96 := fc (by decide : (149 : Nat) ≠ 96) (fc nW.2.1 (fc nS.2.1 (fc nH.2.1 (fc nD.2.1 z96))))
  have up : ∀ q ∈ Z, q ∈ (149, o) :: (cW, oW) :: (cS, oS) :: (H, listOf (xs.map Value.ref).toArray k) :: (Dd, listOf sD kD) :: Z := fun q hq => .tail _ (.tail _ (.tail _ (.tail _ (.tail _ hq))))
  refine tell_use (tell_answer w ((149, o) :: (cW, oW) :: (cS, oS) :: (H, listOf (xs.map Value.ref).toArray k) :: (Dd, listOf sD kD) :: Z) r89 r96 p89 p96 (tabSt_more Zk.t89 up) (tabSt_more Zk.t96 up) H xs ns k (.tail _ (.tail _ (.tail _ (.head _)))) hx hn (fun i x n h1 h2 => (Zk.hps i x n h1 h2).mono up) hs number a1 a2 tnu) B F X N T hk hG hd hu ?_
  rintro r news' h' tk' g' F' N' G' ⟨D, Ts, ps', p96', X', rfl, rfl, t1, t2, hX, hD, hl, hP⟩
  have offX : ∀ p ∈ X', p.1 ∉ [89, 96, 149, cW, cS, H, Dd] := fun p hp => nin7 (Ne.symm (hX p hp (89, tabObj p89) (.head _))) (Ne.symm (hX p hp (96, tabObj p96) (.tail _ (.head _)))) (Ne.symm (hX p hp (149, o) (.tail _ (.tail _ (.head _))))) (Ne.symm (hX p hp (cW, oW) (.tail _ (.tail _ (.tail _ (.head _)))))) (Ne.symm (hX p hp (cS, oS) (.tail _ (.tail _ (.tail _ (.tail _ (.head _))))))) (Ne.symm (hX p hp (H, _) (.tail _ (.tail _ (.tail _ (.tail _ (.tail _ (.head _)))))))) (Ne.symm (hX p hp (Dd, _) (.tail _ (.tail _ (.tail _ (.tail _ (.tail _ (.tail _ (.head _)))))))))
  exact ret D Ts ps' p96' X' h' tk' g' F' (cb_drop N' pm6) G' ⟨fun q hq => (List.mem_append.mp hq).elim (offX q) (Zk.off q), tab_core t1 ho.data htr hW hS, tab_core t2 ho.data htr hW hS, fun i x n h1 h2 => (Zk.hps i x n h1 h2).mono fun q hq => List.mem_append_right _ hq⟩ hD hl hP
theorem told_call {tabs spare : Nat} {lost : Bool} {tta tsp : Tok} (B : Below A₀ base outer h₀) (F : Fr h₀ L s.heap m) (X : (SR.hm.heap_1 w.params).In h₀) (N : News h₀ L s.heap ((89, tabObj p89) :: (96, tabObj p96) :: (149, o) :: (cW, oW) :: (cS, oS) :: (H, listOf (xs.map Value.ref).toArray k) :: (Dd, listOf sD kD) :: Z)) (T : Top p loose mean mg mb h₀) (hk : cs.kind = .function) (hG : AllBare s.gens) (hd : dp + 100 < recursionLimit) (hu : un + 400 < cLine)
    (ho : IsTab o ps) (htr : TriplesOk ps.toList) (nd : ∀ q ∈ [cW, cS, H, Dd], q ≠ 89 ∧ q ≠ 96 ∧ q ≠ 149) (Zk : ZOk [89, 96, 149, cW, cS, H, Dd] p89 p96 Z xs ns) (hx : xs.length = 4) (hn : ns.length = 4) (hs : ∀ n ∈ ns, n ≤ 7) (a1 : 2 ≤ number) (a2 : number ≤ 4) (a3 : tabs ≤ 2) (a4 : spare ≤ 2)
    (ret : ∀ o' ps' h' tk g, Fr h₀ L h' m → News h₀ L h' ((89, tabObj p89) :: (96, tabObj p96) :: (149, o') :: (cW, oW) :: (cS, oS) :: (H, listOf (xs.map Value.ref).toArray k) :: (Dd, listOf sD kD) :: Z) → AllBare g → IsTab o' ps' → TriplesOk ps'.toList → Q (.bool (decide ([1, 2, 4].map (colZ ns number) = [0, 0, 0]) == lost)) { s with heap := h', toks := tk, gens := g }) :
    wpAny (model PySem.Challenge.rw_sr0056_01.row.prog w) (ktrTop dp un gd cn cs L a ccd cl outer) (call (.ref 189) [.ref H, .int (number : Nat) tnu, .int (tabs : Nat) tta, .int (spare : Nat) tsp, .bool lost]) Q E s := by
  have off' : ∀ b : Addr, b ∈ [89, 96, 149, cW, cS, H, Dd] → ∀ q ∈ Z, q.1 ≠ b := fun b hb q hq e => Zk.off q hq (e ▸ hb)
  have z149 := off' 149 (.tail _ (.tail _ (.head _)))
  have nW := nd cW (.head _)
  have nS := nd cS (.tail _ (.head _))
  have nH := nd H (.tail _ (.tail _ (.head _)))
  have nD := nd Dd (.tail _ (.tail _ (.tail _ (.head _))))
  have r149 : ∀ q ∈ (89, tabObj p89) :: (96, tabObj p96) :: (cW, oW) :: (cS, oS) :: (H, listOf (xs.map Value.ref).toArray k) :: (Dd, listOf sD kD) :: Z, q.1 ≠ 149 := fc (by decide : (89 : Nat) ≠ 149) (fc (by decide : (96 : Nat) ≠ 149) (fc nW.2.2 (fc nS.2.2 (fc nH.2.2 (fc nD.2.2 z149)))))
  have N' : News h₀ L s.heap ((149, o) :: (89, tabObj p89) :: (96, tabObj p96) :: (cW, oW) :: (cS, oS) :: (H, listOf (xs.map Value.ref).toArray k) :: (Dd, listOf sD kD) :: Z) := cb_drop N pm4
  refine tell_use (tell_told w ((89, tabObj p89) :: (96, tabObj p96) :: (cW, oW) :: (cS, oS) :: (H, listOf (xs.map Value.ref).toArray k) :: (Dd, listOf sD kD) :: Z) r149 o ps ho htr H xs ns k (.tail _ (.tail _ (.tail _ (.tail _ (.head _))))) hx hn (fun i x n h1 h2 => (Zk.hps i x n h1 h2).mono fun q hq => .tail _ (.tail _ (.tail _ (.tail _ (.tail _ (.tail _ hq)))))) hs number tabs spare a1 a2 a3 a4 lost tnu tta tsp) B F X N' T hk hG hd hu ?_
  rintro r news' h' tk' g' F' N'' G' ⟨rfl, o', ps', rfl, ho', htr'⟩
  exact ret o' ps' h' tk' g' F' (cb_drop N'' pm5) G' ho' htr'
theorem take_call {x : Addr} {j n left : Nat} {t : Tok} (B : Below A₀ base outer h₀) (F : Fr h₀ L s.heap m) (X : (SR.hm.heap_1 w.params).In h₀) (N : News h₀ L s.heap ((89, tabObj p89) :: (96, tabObj p96) :: (149, o) :: (cW, oW) :: (cS, oS) :: (H, listOf (xs.map Value.ref).toArray k) :: (Dd, listOf sD kD) :: Z)) (T : Top p loose mean mg mb h₀) (hk : cs.kind = .function) (hG : AllBare s.gens) (hd : dp + 40 < recursionLimit) (hu : un + 200 < cLine)
    (ho : IsTab o ps) (hW : oW.data = .cell vW) (hS : oS.data = .cell vS) (Zk : ZOk [89, 96, 149, cW, cS, H, Dd] p89 p96 Z xs ns) (hnd : xs.Nodup) (hxj : xs[j]? = some x) (hnj : ns[j]? = some n) (hn7 : n ≤ 1000) (hleft : left ≤ n)
    (ret : ∀ Z' h' tk g, Fr h₀ L h' m → News h₀ L h' ((89, tabObj p89) :: (96, tabObj p96) :: (149, o) :: (cW, oW) :: (cS, oS) :: (H, listOf (xs.map Value.ref).toArray k) :: (Dd, listOf sD kD) :: Z') → AllBare g → ZOk [89, 96, 149, cW, cS, H, Dd] p89 p96 Z' xs (ns.set j left) → (∀ q ∈ Z, (q.1 ≠ x ∨ q.2.cls ≠ .ref 180) → q ∈ Z') → Q (.bool (decide (left < n))) { s with heap := h', toks := tk, gens := g }) :
    wpAny (model PySem.Challenge.rw_sr0056_01.row.prog w) (ktrTop dp un gd cn cs L a ccd cl outer) (call (.ref 199) [.ref x, .int (left : Nat) t]) Q E s := by
  have up : ∀ q ∈ Z, q ∈ (89, tabObj p89) :: (96, tabObj p96) :: (149, o) :: (cW, oW) :: (cS, oS) :: (H, listOf (xs.map Value.ref).toArray k) :: (Dd, listOf sD kD) :: Z := fun q hq => .tail _ (.tail _ (.tail _ (.tail _ (.tail _ (.tail _ (.tail _ hq))))))
  have Hx := Zk.hps j x n hxj hnj
  obtain ⟨dx, hshx, tkx, tkx', epx, pcsx, m1, m2, m3, m4⟩ := id Hx
  have hxo := up _ m1
  -- what is not an accumulator is not at x
  have apart : ∀ q, q ∈ (89, tabObj p89) :: (96, tabObj p96) :: (149, o) :: (cW, oW) :: (cS, oS) :: (H, listOf (xs.map Value.ref).toArray k) :: (Dd, listOf sD kD) :: Z → q.2 ≠ accO dx (pcsx.map Pc.ref) epx → q.1 ≠ x := fun q hq hne => ne_of_obj N (a := q.1) (b := x) (o := q.2) hq hxo hne
  have cne : ∀ q : Addr × Obj, q.2.cls ≠ .ref 180 → q.2 ≠ accO dx (pcsx.map Pc.ref) epx := fun q h e => h (by rw [e])
  refine tell_use (tell_take w x _ n (Hx.mono up) hn7 left hleft t) B F X N T hk hG hd hu ?_
  rintro r news' h' tk' g' F' N' G' ⟨rfl, Hx', keep⟩
  have k89 := keep (89, tabObj p89) (.head _) (apart _ (.head _) (by intro e; cases congrArg Obj.data e))
  have k96 := keep (96, tabObj p96) (.tail _ (.head _)) (apart _ (.tail _ (.head _)) (by intro e; cases congrArg Obj.data e))
  have k149 := keep (149, o) (.tail _ (.tail _ (.head _))) (apart _ (.tail _ (.tail _ (.head _))) (by intro e; have := congrArg Obj.data e; rw [ho.data] at this; cases this))
  have kW := keep (cW, oW) (.tail _ (.tail _ (.tail _ (.head _)))) (apart _ (.tail _ (.tail _ (.tail _ (.head _)))) (by intro e; have := congrArg Obj.data e; rw [hW] at this; cases this))
  have kS := keep (cS, oS) (.tail _ (.tail _ (.tail _ (.tail _ (.head _))))) (apart _ (.tail _ (.tail _ (.tail _ (.tail _ (.head _))))) (by intro e; have := congrArg Obj.data e; rw [hS] at this; cases this))
  have kH := keep (H, _) (.tail _ (.tail _ (.tail _ (.tail _ (.tail _ (.head _)))))) (apart _ (.tail _ (.tail _ (.tail _ (.tail _ (.tail _ (.head _)))))) (cne _ (by intro e; cases e)))
  have kD' := keep (Dd, _) (.tail _ (.tail _ (.tail _ (.tail _ (.tail _ (.tail _ (.head _))))))) (apart _ (.tail _ (.tail _ (.tail _ (.tail _ (.tail _ (.tail _ (.head _))))))) (cne _ (by intro e; cases e)))
  -- an entry whose object is of none of these kinds
  have clean : ∀ q ∈ news', (∀ fs, q.2.data ≠ .fields fs) → (∀ c, q.2.data ≠ .cell c) → q.2.cls ≠ .type "list" → q ∈ news'.filter (fun q => decide (q.1 ∉ [89, 96, 149, cW, cS, H, Dd])) := by
    intro q hq hf hc hl
    refine List.mem_filter.mpr ⟨hq, decide_eq_true fun hb => ?_⟩
    have ne : ∀ {b ob}, (b, ob) ∈ news' → q.2 ≠ ob → q.1 ≠ b := fun hb hne => ne_of_obj N' (a := q.1) (o := q.2) hq hb hne
    simp only [List.mem_cons, List.not_mem_nil, or_false] at hb
    rcases hb with e | e | e | e | e | e | e
    · exact ne k89 (fun e => hf _ (by rw [e])) e
    · exact ne k96 (fun e => hf _ (by rw [e])) e
    · exact ne k149 (fun e => hf _ (by rw [e]; exact ho.data)) e
    · exact ne kW (fun e => hc _ (by rw [e]; exact hW)) e
    · exact ne kS (fun e => hc _ (by rw [e]; exact hS)) e
    · exact ne kH (fun e => hl (by rw [e])) e
    · exact ne kD' (fun e => hl (by rw [e])) e
  have old : ∀ q ∈ Z, q.1 ≠ x → q ∈ news'.filter (fun q => decide (q.1 ∉ [89, 96, 149, cW, cS, H, Dd])) := fun q hq hne => List.mem_filter.mpr ⟨keep q (up q hq) hne, decide_eq_true (Zk.off q hq)⟩
  have tab : ∀ {line col : Nat} {qn : Str} {pz : Array Value}, TabSt line col qn Z pz → TabSt line col qn (news'.filter (fun q => decide (q.1 ∉ [89, 96, 149, cW, cS, H, Dd]))) pz := by
    intro line col qn pz ht
    rcases ht with ht | ⟨c', oc, vs, t', h1, h2, h3, h4⟩
    · exact .inl ht
    · exact .inr ⟨c', oc, vs, t', h1, old _ h2 (apart _ (up _ h2) (by intro e; have := congrArg Obj.data e; rw [h3] at this; cases this)), h3, h4⟩
  refine ret (news'.filter (fun q => decide (q.1 ∉ [89, 96, 149, cW, cS, H, Dd]))) h' tk' g' F' (fun q hq => N' q ?_) G' ⟨fun q hq => of_decide_eq_true (List.mem_filter.mp hq).2, tab Zk.t89, tab Zk.t96, fun i y v hy hv => ?_⟩ fun q hq hc => old q hq (hc.elim id fun hc => apart q (up q hq) (cne q hc))
  · exact fc (p := fun q => q ∈ news') k89 (fc k96 (fc k149 (fc kW (fc kS (fc kH (fc kD' fun q hq => (List.mem_filter.mp hq).1)))))) q hq
  · by_cases hij : i = j
    · subst hij
      rw [hxj] at hy
      cases hy
      have hlt : i < ns.length := by
        rcases Nat.lt_or_ge i ns.length with h | h
        · exact h
        · rw [List.getElem?_eq_none h] at hnj; cases hnj
      rw [List.getElem?_set_self hlt] at hv
      cases hv
      obtain ⟨d', hsh', tk0', tk1', ep', pcs', q1, q2, q3, q4⟩ := Hx'
      exact ⟨d', hsh', tk0', tk1', ep', pcs', clean _ q1 (fun fs e => by cases e) (fun c e => by cases e) (by intro e; cases e), clean _ q2 (fun fs e => by cases e) (fun c e => by cases e) (by intro e; simp [dictOf] at e), fun q hq => clean _ (q3 q hq) (fun fs e => by cases e) (fun c e => by cases e) (by intro e; simp at e), q4⟩
    · rw [List.getElem?_set_ne (Ne.symm hij)] at hv
      have hyx : y ≠ x := by
        intro e
        subst e
        have h1 : i < xs.length := by
          rcases Nat.lt_or_ge i xs.length with h | h
          · exact h
          · rw [List.getElem?_eq_none h] at hy; cases hy
        exact hij ((List.getElem?_inj h1 hnd).mp (hy.trans hxj.symm))
      obtain ⟨d', hsh', tk0', tk1', ep', pcs', q1, q2, q3, q4⟩ := Zk.hps i y v hy hv
      exact ⟨d', hsh', tk0', tk1', ep', pcs', old _ q1 hyx, old _ q2 (apart _ (up _ q2) (by intro e; cases congrArg Obj.data e)), fun q hq => old _ (q3 q hq) (apart _ (up _ (q3 q hq)) (cne _ (by intro e; simp at e))), q4⟩
end
end SR
end
section
open PySem PySem.W PyProof.Rows PySem.Calls PySem.Spec LCg
set_option Elab.async false
set_option maxRecDepth 100000
namespace SR
section
variable {prog : Program} {w : World} {A : Around} {E : Value → Shared → Prop} {s : Shared} {h₀ : Heap} {L D D' : Addr} {news : Led}
theorem tups_reads (N : News h₀ L s.heap news) : ∀ (Ts : List Addr) (prs : List (Nat × Int)), Ts.length = prs.length → PairsAre news Ts prs → ReadsAll s.heap (Ts.map Value.ref) (prs.map fun q => PyData.tuple [.int (q.1 : Nat), .int q.2]) []
  | [], [], _, _ => .nil
  | [], _ :: _, h, _ => by cases h
  | _ :: _, [], h, _ => by cases h
  | T :: r, q :: t, h, hP => by
    obtain ⟨a, v, s1, s2, h1, h2⟩ := hP 0 T rfl
    cases h1
    refine .cons (as := []) (reads_tuple_at (N _ h2).1 rfl rfl (.cons (as := []) (.int _ _) (.cons (as := []) (.int _ _) .nil))) (tups_reads N r t (by simpa using h) fun j T' hj => ?_)
    exact hP (j + 1) T' hj
theorem tups_shaped : ∀ (prs : List (Nat × Int)), PyData.canLayAll0 (prs.map fun q => PyData.tuple [.int (q.1 : Nat), .int q.2]) = true ∧ PyData.depthAll (prs.map fun q => PyData.tuple [.int (q.1 : Nat), .int q.2]) ≤ 1
  | [] => ⟨rfl, Nat.zero_le _⟩
  | q :: r => by
    obtain ⟨h1, h2⟩ := tups_shaped r
    refine ⟨?_, ?_⟩
    · show (PyData.canLay0 (.tuple [.int (q.1 : Nat), .int q.2]) && PyData.canLayAll0 (r.map fun q => PyData.tuple [.int (q.1 : Nat), .int q.2])) = true
      rw [h1, Bool.and_true]
      rfl
    · show max (PyData.depth (.tuple [.int (q.1 : Nat), .int q.2])) (PyData.depthAll (r.map fun q => PyData.tuple [.int (q.1 : Nat), .int q.2])) ≤ 1
      have : PyData.depth (.tuple [.int (q.1 : Nat), .int q.2]) = 1 := by simp [PyData.depth, PyData.depthAll]
      omega
/-- a list of pairs against the empty list -/
theorem eq_nil {Ts : List Addr} {prs : List (Nat × Int)} {n k : Nat} {Q : Value → Shared → Prop} (N : News h₀ L s.heap news) (ha : (D, ({ cls := .type "list", data := .seq (Ts.map Value.ref).toArray n } : Obj)) ∈ news) (hb : (D', ({ cls := .type "list", data := .seq #[] k } : Obj)) ∈ news) (hl : Ts.length = prs.length) (hP : PairsAre news Ts prs) (hu : A.units + 64 < cLine) (h : Q (.bool (decide (prs = []))) s) :
    wpAny (model prog w) A (compareOp .Eq (.ref D) (.ref D')) Q E s := by
  have sh : PySem.SeqAt.shaped (.list (prs.map fun q => PyData.tuple [.int (q.1 : Nat), .int q.2])) = true := by
    obtain ⟨h1, h2⟩ := tups_shaped prs
    refine Bool.and_eq_true_iff.mpr ⟨?_, decide_eq_true ?_⟩
    · simpa only [PyData.canLay0] using h1
    · have : PyData.depth (.list (prs.map fun q => PyData.tuple [.int (q.1 : Nat), .int q.2])) = PyData.depthAll (prs.map fun q => PyData.tuple [.int (q.1 : Nat), .int q.2]) + 1 := by simp only [PyData.depth]
      omega
  refine eq_dataH (reads_list_at (N _ ha).1 rfl rfl (by simpa using tups_reads N Ts prs hl hP)) (reads_list_at (N _ hb).1 rfl rfl .nil) sh (by rfl) hu ?_
  cases prs with
  | nil => exact h
  | cons q r => exact h
end
theorem law_led {h₀ h : Heap} {L H D Dd cW cS : Addr} {oH oD' oDd oW oS t1 t2 t3 : Obj} {Z : Led} (N : News h₀ L h ((H, oH) :: (Z ++ (D, oD') :: (Dd, oDd) :: (cS, oS) :: (cW, oW) :: (96, t1) :: (89, t2) :: (149, t3) :: []))) : News h₀ L h ((89, t2) :: (96, t1) :: (149, t3) :: (cW, oW) :: (cS, oS) :: (H, oH) :: (Dd, oDd) :: Z) := by
  intro q hq
  simp only [List.mem_cons] at hq
  rcases hq with h | h | h | h | h | h | h | h
  · exact N q (by simp [h])
  · exact N q (by simp [h])
  · exact N q (by simp [h])
  · exact N q (by simp [h])
  · exact N q (by simp [h])
  · exact N q (by simp [h])
  · exact N q (by simp [h])
  · exact N q (by simp [h])
theorem law_zok {H D Dd cW cS : Addr} {oD' oDd oW oS t1 t2 t3 : Obj} {Z : Led} {xs : List Addr} {ns : List Nat} (hZ : ∀ p ∈ Z, ∀ q ∈ (D, oD') :: (Dd, oDd) :: (cS, oS) :: (cW, oW) :: (96, t1) :: (89, t2) :: (149, t3) :: [], p.1 ≠ q.1) (hZH : ∀ p ∈ Z, p.1 ≠ H) (hps : HpsAre Z xs ns) : ZOk [89, 96, 149, cW, cS, H, Dd] #[] #[] Z xs ns := by
  refine ⟨fun p hp hb => ?_, .inl rfl, .inl rfl, hps⟩
  simp only [List.mem_cons, List.not_mem_nil, or_false] at hb
  rcases hb with e | e | e | e | e | e | e
  · exact hZ p hp (89, t2) (by simp) e
  · exact hZ p hp (96, t1) (by simp) e
  · exact hZ p hp (149, t3) (by simp) e
  · exact hZ p hp (cW, oW) (by simp) e
  · exact hZ p hp (cS, oS) (by simp) e
  · exact hZH p hp e
  · exact hZ p hp (Dd, oDd) (by simp) e
theorem nd_of {a b c d : Addr} (h : ((@Ne Nat a 89) ∧ (@Ne Nat a 96) ∧ (@Ne Nat a 149)) ∧ ((@Ne Nat b 89) ∧ (@Ne Nat b 96) ∧ (@Ne Nat b 149)) ∧ ((@Ne Nat c 89) ∧ (@Ne Nat c 96) ∧ (@Ne Nat c 149)) ∧ ((@Ne Nat d 89) ∧ (@Ne Nat d 96) ∧ (@Ne Nat d 149))) : ∀ q ∈ [a, b, c, d], q ≠ 89 ∧ q ≠ 96 ∧ q ≠ 149 := by
  intro q hq
  simp only [List.mem_cons, List.not_mem_nil, or_false] at hq
  rcases hq with rfl | rfl | rfl | rfl
  · exact h.1
  · exact h.2.1
  · exact h.2.2.1
  · exact h.2.2.2
theorem law_nd {h₀ h : Heap} {L H D Dd cW cS : Addr} {oH oD' oDd oW oS t1 t2 t3 : Obj} {Z : Led} (_N : News h₀ L h ((H, oH) :: (Z ++ (D, oD') :: (Dd, oDd) :: (cS, oS) :: (cW, oW) :: (96, t1) :: (89, t2) :: (149, t3) :: []))) (x : ((@Ne Nat cW 89) ∧ (@Ne Nat cW 96) ∧ (@Ne Nat cW 149)) ∧ ((@Ne Nat cS 89) ∧ (@Ne Nat cS 96) ∧ (@Ne Nat cS 149)) ∧ ((@Ne Nat H 89) ∧ (@Ne Nat H 96) ∧ (@Ne Nat H 149)) ∧ ((@Ne Nat Dd 89) ∧ (@Ne Nat Dd 96) ∧ (@Ne Nat Dd 149))) : ∀ q ∈ [cW, cS, H, Dd], q ≠ 89 ∧ q ≠ 96 ∧ q ≠ 149 := nd_of x
theorem news_tail {h₀ h : Heap} {L : Addr} {e : Addr × Obj} {news : Led} (N : News h₀ L h (e :: news)) : News h₀ L h news := fun p hp => N p (.tail _ hp)
end SR
end
section
open PySem PySem.W PyProof.Rows
set_option Elab.async false
set_option maxRecDepth 100000
namespace SR
noncomputable def colM (b : List Int) : Nat → Nat → Int := fun a _ => b.getD a 0
noncomputable def colOf (M : Nat → Nat → Int) (p : Nat) : List Int := [M 0 p, M 1 p, M 2 p, M 3 p]
theorem colOf_get {M : Nat → Nat → Int} {p a : Nat} (h : a < 4) : (colOf M p).getD a 0 = M a p := by
  have : a = 0 ∨ a = 1 ∨ a = 2 ∨ a = 3 := by omega
  rcases this with rfl | rfl | rfl | rfl <;> rfl
theorem onesL_col (S : St) (p : Nat) : onesL S p = onesL (colM (colOf S.1 p), S.2) 0 := by
  unfold onesL
  refine List.filter_congr fun a ha => ?_
  have := colOf_get (M := S.1) (p := p) (List.mem_range.mp ha)
  show onesOf S.1 S.2 p a = onesOf (colM (colOf S.1 p)) S.2 0 a
  unfold onesOf colM
  rw [this]
theorem wantOf_col (number : Nat) (S : St) (p : Nat) : wantOf number S p = wantOf number (colM (colOf S.1 p), S.2) 0 := by
  unfold wantOf
  rw [onesL_col]
theorem chAfter_col (number : Nat) (S : St) (p : Nat) : chAfter number S p = chAfter number (colM (colOf S.1 p), S.2) 0 := by
  unfold chAfter
  rw [wantOf_col, onesL_col]
theorem wantAfter_col (number : Nat) (S : St) (p : Nat) : wantAfter number S p = wantAfter number (colM (colOf S.1 p), S.2) 0 := by
  unfold wantAfter
  rw [wantOf_col]
theorem setRows_col {M : Nat → Nat → Int} {ch : List Nat} {w : Int} {p : Nat} : ∀ i a, a < 4 → setRows M ch w p i a p = setRows (colM (colOf M p)) ch w 0 i a 0
  | 0, a, h => by
    show M a p = colM (colOf M p) a 0
    unfold colM
    rw [colOf_get h]
  | i + 1, a, h => by
    unfold setRows setAt
    simp only [and_true]
    rw [setRows_col i a h]
theorem setRows_off {M : Nat → Nat → Int} {ch : List Nat} {w : Int} {p q : Nat} (hq : q ≠ p) : ∀ i a, setRows M ch w p i a q = M a q
  | 0, _ => rfl
  | i + 1, a => by
    unfold setRows setAt
    rw [if_neg (fun h => hq h.2)]
    exact setRows_off hq i a
theorem setRows_out {M : Nat → Nat → Int} {ch : List Nat} {w : Int} {p a : Nat} (ha : a ∉ ch) : ∀ i q, i ≤ ch.length → setRows M ch w p i a q = M a q
  | 0, _, _ => rfl
  | i + 1, q, h => by
    unfold setRows setAt
    rw [if_neg (fun e => ha (by rw [e.1]; exact getD_mem (by omega)))]
    exact setRows_out ha i q (by omega)
noncomputable def forceN (n : Nat) (k : Nat → Bool) : Bool := if n = 0 then k 0 else if n = 1 then k 1 else if n = 2 then k 2 else if n = 3 then k 3 else k n
theorem forceN_eq (n : Nat) (k : Nat → Bool) : forceN n k = k n := by
  unfold forceN
  repeat' split
  all_goals (subst_vars; rfl)
noncomputable def forceI (w : Int) (k : Int → Bool) : Bool := if w = 0 then k 0 else if w = 1 then k 1 else if w = 2 then k 2 else if w = 3 then k 3 else k w
theorem forceI_eq (w : Int) (k : Int → Bool) : forceI w k = k w := by
  unfold forceI
  repeat' split
  all_goals (subst_vars; rfl)
noncomputable def forceL : List Nat → (List Nat → Bool) → Bool
  | [], k => k []
  | x :: r, k => forceN x fun x' => forceL r fun r' => k (x' :: r')
theorem forceL_eq : ∀ (l : List Nat) (k : List Nat → Bool), forceL l k = k l
  | [], _ => rfl
  | x :: r, k => by
    show forceN x (fun x' => forceL r fun r' => k (x' :: r')) = _
    rw [forceN_eq, forceL_eq r]
noncomputable def chkCol (number : Nat) (ch : List Nat) (b : List Int) (ch' : List Nat) (c : List Int) : Bool :=
  decide (c.sum % number = 0) && (decide ch'.Nodup && (decide (ch'.take ch.length = ch) && (ch'.all (fun a => ch.contains a || (b.getD a 0 == 1 && c.getD a 0 == 0)) && (decide (ch ≠ []) || (decide (ch' = []) == decide (b.sum % number = 0))))))
noncomputable def colOk' (number : Nat) (ch : List Nat) (b : List Int) : Bool :=
  forceL (chAfter number (colM b, ch) 0) fun ch' => forceI (wantAfter number (colM b, ch) 0) fun w' =>
    forceI (setRows (colM b) ch' w' 0 ch'.length 0 0) fun c0 => forceI (setRows (colM b) ch' w' 0 ch'.length 1 0) fun c1 => forceI (setRows (colM b) ch' w' 0 ch'.length 2 0) fun c2 => forceI (setRows (colM b) ch' w' 0 ch'.length 3 0) fun c3 => chkCol number ch b ch' [c0, c1, c2, c3]
noncomputable def colOk (number : Nat) (ch : List Nat) (b : List Int) : Bool := chkCol number ch b (stepSt number 0 (colM b, ch)).2 (colOf (stepSt number 0 (colM b, ch)).1 0)
theorem colOk_eq (number : Nat) (ch : List Nat) (b : List Int) : colOk' number ch b = colOk number ch b := by
  unfold colOk'
  rw [forceL_eq, forceI_eq, forceI_eq, forceI_eq, forceI_eq, forceI_eq]
  rfl
noncomputable def bits4 : List (List Int) := [[0,0,0,0],[0,0,0,1],[0,0,1,0],[0,0,1,1],[0,1,0,0],[0,1,0,1],[0,1,1,0],[0,1,1,1],[1,0,0,0],[1,0,0,1],[1,0,1,0],[1,0,1,1],[1,1,0,0],[1,1,0,1],[1,1,1,0],[1,1,1,1]]
noncomputable def chs1 : List (List Nat) := [] :: (List.range 4).map ([·])
noncomputable def chs2 : List (List Nat) := ((List.range 4).map fun a => (List.range 4).map fun b => [a, b]).flatten
noncomputable def chs3 : List (List Nat) := ((List.range 4).map fun a => ((List.range 4).map fun b => (List.range 4).map fun c => [a, b, c]).flatten).flatten
theorem col_1 : ([2, 3, 4].all fun number => chs1.all fun ch => bits4.all fun b => colOk' number ch b) = true := by decide +kernel
theorem col_2 : ([3, 4].all fun number => chs2.all fun ch => bits4.all fun b => !(decide ch.Nodup) || colOk' number ch b) = true := by decide +kernel
theorem col_3 : (chs3.all fun ch => bits4.all fun b => !(decide ch.Nodup) || colOk' 4 ch b) = true := by decide +kernel
theorem mem_bits4 {M : Nat → Nat → Int} (h : ∀ a p, M a p = 0 ∨ M a p = 1) (p : Nat) : colOf M p ∈ bits4 := by
  unfold colOf
  rcases h 0 p with h0 | h0 <;> rcases h 1 p with h1 | h1 <;> rcases h 2 p with h2 | h2 <;> rcases h 3 p with h3 | h3 <;> rw [h0, h1, h2, h3] <;> decide
theorem colOk_of {number : Nat} (h2 : 2 ≤ number) (h4 : number ≤ 4) {S : St} (ok : StOk number S) (nd : S.2.Nodup) (p : Nat) : colOk number S.2 (colOf S.1 p) = true := by
  rw [← colOk_eq]
  have hb := mem_bits4 ok.bit p
  have hlt := ok.lt
  have hlen := ok.len
  generalize colOf S.1 p = b at hb
  revert nd hlt hlen
  generalize S.2 = ch
  intro nd hlt hlen
  have hn : number = 2 ∨ number = 3 ∨ number = 4 := by omega
  match ch, hlt, hlen, nd with
  | [], _, _, _ =>
    have := List.all_eq_true.mp (List.all_eq_true.mp (List.all_eq_true.mp col_1 number (by rcases hn with rfl | rfl | rfl <;> decide)) [] (by decide)) b hb
    exact this
  | [x], hlt, _, _ =>
    have hx := hlt x (by simp)
    have hm : [x] ∈ chs1 := .tail _ (List.mem_map.mpr ⟨x, List.mem_range.mpr hx, rfl⟩)
    exact List.all_eq_true.mp (List.all_eq_true.mp (List.all_eq_true.mp col_1 number (by rcases hn with rfl | rfl | rfl <;> decide)) [x] hm) b hb
  | [x, y], hlt, hlen, nd =>
    have hx := hlt x (by simp)
    have hy := hlt y (by simp)
    have hm : [x, y] ∈ chs2 := List.mem_flatten.mpr ⟨_, List.mem_map.mpr ⟨x, List.mem_range.mpr hx, rfl⟩, List.mem_map.mpr ⟨y, List.mem_range.mpr hy, rfl⟩⟩
    simp only [List.length_cons, List.length_nil] at hlen
    have := List.all_eq_true.mp (List.all_eq_true.mp (List.all_eq_true.mp col_2 number (by
      rcases hn with rfl | rfl | rfl
      · omega
      · decide
      · decide)) [x, y] hm) b hb
    rw [decide_eq_true nd] at this
    simpa using this
  | [x, y, z], hlt, hlen, nd =>
    have hx := hlt x (by simp)
    have hy := hlt y (by simp)
    have hz := hlt z (by simp)
    have hm : [x, y, z] ∈ chs3 := List.mem_flatten.mpr ⟨_, List.mem_map.mpr ⟨x, List.mem_range.mpr hx, rfl⟩, List.mem_flatten.mpr ⟨_, List.mem_map.mpr ⟨y, List.mem_range.mpr hy, rfl⟩, List.mem_map.mpr ⟨z, List.mem_range.mpr hz, rfl⟩⟩⟩
    simp only [List.length_cons, List.length_nil] at hlen
    have h4' : number = 4 := by omega
    subst h4'
    have := List.all_eq_true.mp (List.all_eq_true.mp col_3 [x, y, z] hm) b hb
    rw [decide_eq_true nd] at this
    simpa using this
  | _ :: _ :: _ :: _ :: _, _, hlen, _ =>
    simp only [List.length_cons] at hlen
    omega
/-- what a step does -/
structure StepOk (number p : Nat) (S S' : St) : Prop where
  col : (colOf S'.1 p).sum % number = 0
  nd : S'.2.Nodup
  pre : S'.2.take S.2.length = S.2
  new : ∀ a ∈ S'.2, a ∉ S.2 → S.1 a p = 1 ∧ S'.1 a p = 0
  out : ∀ a q, a ∉ S'.2 → S'.1 a q = S.1 a q
  off : ∀ a q, q ≠ p → S'.1 a q = S.1 a q
  nil : S.2 = [] → (S'.2 = [] ↔ (colOf S.1 p).sum % number = 0)
  ok : StOk number S'
theorem stepOk {number : Nat} (h2 : 2 ≤ number) (h4 : number ≤ 4) {S : St} (ok : StOk number S) (nd : S.2.Nodup) (p : Nat) : StepOk number p S (stepSt number p S) := by
  have hc := colOk_of h2 h4 ok nd p
  have e2 : (stepSt number p S).2 = (stepSt number 0 (colM (colOf S.1 p), S.2)).2 := chAfter_col number S p
  have e1 : ∀ a, a < 4 → (stepSt number p S).1 a p = (stepSt number 0 (colM (colOf S.1 p), S.2)).1 a 0 := by
    intro a ha
    show setRows S.1 (chAfter number S p) (wantAfter number S p) p (chAfter number S p).length a p = setRows (colM (colOf S.1 p)) (chAfter number (colM (colOf S.1 p), S.2) 0) (wantAfter number (colM (colOf S.1 p), S.2) 0) 0 (chAfter number (colM (colOf S.1 p), S.2) 0).length a 0
    rw [setRows_col _ a ha, chAfter_col, wantAfter_col]
  have ec : colOf (stepSt number p S).1 p = colOf (stepSt number 0 (colM (colOf S.1 p), S.2)).1 0 := by
    unfold colOf
    rw [e1 0 (by decide), e1 1 (by decide), e1 2 (by decide), e1 3 (by decide)]
    rfl
  have okS := stepSt_ok (by omega : 0 < number) ok p
  unfold colOk chkCol at hc
  simp only [Bool.and_eq_true, decide_eq_true_eq] at hc
  obtain ⟨c1, c2, c3, c4, c5⟩ := hc
  rw [← ec] at c1 c4
  rw [← e2] at c2 c3 c4 c5
  refine ⟨c1, c2, c3, fun a ha hn => ?_, fun a q ha => ?_, fun a q hq => ?_, fun hnil => ?_, okS⟩
  · have := List.all_eq_true.mp c4 a ha
    have h4' := okS.lt a ha
    rw [Bool.or_eq_true] at this
    rcases this with h | h
    · exact absurd (by simpa using h) hn
    · rw [Bool.and_eq_true, beq_iff_eq, beq_iff_eq, colOf_get h4', colOf_get h4'] at h
      exact h
  · exact setRows_out ha _ q (Nat.le_refl _)
  · exact setRows_off hq _ a
  · rw [Bool.or_eq_true] at c5
    rcases c5 with h | h
    · exact absurd hnil (by simpa using h)
    · have := eq_of_beq h
      exact decide_eq_decide.mp this
end SR
end
section
open PySem PySem.W PyProof.Rows
set_option Elab.async false
set_option maxRecDepth 100000
namespace SR
theorem colOf_congr {M M' : Nat → Nat → Int} {p : Nat} (h : ∀ a, M a p = M' a p) : colOf M p = colOf M' p := by
  unfold colOf
  rw [h 0, h 1, h 2, h 3]
theorem le2 {p : Nat} (h : p ≤ 2) : p = 0 ∨ p = 1 ∨ p = 2 := by omega
theorem bit_le {x : Int} (h : x = 0 ∨ x = 1) : 0 ≤ x ∧ x ≤ 1 := by rcases h with rfl | rfl <;> decide
structure AnsOk (number : Nat) (M₀ : Nat → Nat → Int) (S : St) : Prop where
  cols : ∀ p, p ≤ 2 → (colOf S.1 p).sum % number = 0
  nd : S.2.Nodup
  less : ∀ a ∈ S.2, valOf S.1 a < valOf M₀ a
  out : ∀ a q, a ∉ S.2 → S.1 a q = M₀ a q
  ok : StOk number S
  nil : S.2 = [] ↔ ∀ p, p ≤ 2 → (colOf M₀ p).sum % number = 0
theorem ansOk {number : Nat} (h2 : 2 ≤ number) (h4 : number ≤ 4) {M₀ : Nat → Nat → Int} (hM : ∀ a p, M₀ a p = 0 ∨ M₀ a p = 1) : AnsOk number M₀ (ansAt number M₀ [2, 1, 0]) := by
  have ok0 : StOk number (M₀, []) := ⟨fun a ha => (nomatch ha), by show 0 < number; omega, hM⟩
  have k1 := stepOk h2 h4 ok0 List.nodup_nil 2
  have k2 := stepOk h2 h4 k1.ok k1.nd 1
  have k3 := stepOk h2 h4 k2.ok k2.nd 0
  show AnsOk number M₀ (stepSt number 0 (stepSt number 1 (stepSt number 2 (M₀, []))))
  generalize stepSt number 2 (M₀, []) = S1 at k1 k2 k3
  generalize stepSt number 1 S1 = S2 at k2 k3
  generalize stepSt number 0 S2 = S3 at k3
  have m12 : ∀ a ∈ S1.2, a ∈ S2.2 := fun a ha => by rw [← k2.pre] at ha; exact List.mem_of_mem_take ha
  have m23 : ∀ a ∈ S2.2, a ∈ S3.2 := fun a ha => by rw [← k3.pre] at ha; exact List.mem_of_mem_take ha
  have e2 : ∀ a, S3.1 a 2 = S1.1 a 2 := fun a => (k3.off a 2 (by decide)).trans (k2.off a 2 (by decide))
  have e1 : ∀ a, S3.1 a 1 = S2.1 a 1 := fun a => k3.off a 1 (by decide)
  have f1 : ∀ a, S1.1 a 1 = M₀ a 1 := fun a => k1.off a 1 (by decide)
  have f0 : ∀ a, S2.1 a 0 = M₀ a 0 := fun a => (k2.off a 0 (by decide)).trans (k1.off a 0 (by decide))
  refine ⟨fun p hp => ?_, k3.nd, fun a ha => ?_, fun a q ha => ?_, k3.ok, ?_⟩
  · rcases le2 hp with rfl | rfl | rfl
    · exact k3.col
    · rw [colOf_congr e1]; exact k2.col
    · rw [colOf_congr e2]; exact k1.col
  · obtain ⟨_, b0⟩ := bit_le (k3.ok.bit a 0)
    obtain ⟨_, b1⟩ := bit_le (k3.ok.bit a 1)
    obtain ⟨g0, _⟩ := bit_le (hM a 0)
    obtain ⟨g1, _⟩ := bit_le (hM a 1)
    have x2 := e2 a
    have x1 := e1 a
    unfold valOf
    by_cases h1 : a ∈ S1.2
    · obtain ⟨u, v⟩ := k1.new a h1 (by simp)
      have u' : M₀ a 2 = 1 := u
      omega
    · have o1 : S1.1 a 2 = M₀ a 2 := k1.out a 2 h1
      by_cases h2 : a ∈ S2.2
      · obtain ⟨u, v⟩ := k2.new a h2 h1
        have := f1 a
        omega
      · have o2 : S2.1 a 1 = M₀ a 1 := (k2.out a 1 h2).trans (f1 a)
        obtain ⟨u, v⟩ := k3.new a ha h2
        have := f0 a
        omega
  · have n2 : a ∉ S2.2 := fun h => ha (m23 a h)
    have n1 : a ∉ S1.2 := fun h => n2 (m12 a h)
    exact ((k3.out a q ha).trans (k2.out a q n2)).trans (k1.out a q n1)
  · constructor
    · intro h3
      have h2' : S2.2 = [] := by have := k3.pre; rw [h3] at this; simpa using this.symm
      have h1' : S1.2 = [] := by have := k2.pre; rw [h2'] at this; simpa using this.symm
      intro p hp
      rcases le2 hp with rfl | rfl | rfl
      · rw [← colOf_congr f0]; exact (k3.nil h2').mp h3
      · rw [← colOf_congr f1]; exact (k2.nil h1').mp h2'
      · exact (k1.nil rfl).mp h1'
    · intro h
      have h1' : S1.2 = [] := (k1.nil rfl).mpr (h 2 (by decide))
      have h2' : S2.2 = [] := (k2.nil h1').mpr (by rw [colOf_congr f1]; exact h 1 (by decide))
      exact (k3.nil h2').mpr (by rw [colOf_congr f0]; exact h 0 (by decide))
theorem bits_tab : ∀ n ∈ List.range 8, ((n / 1 : Nat) : Int) = (n : Int) % 2 + 2 * ((n : Int) / 2 % 2) + 4 * ((n : Int) / 4 % 2) ∧ ((n / 2 : Nat) : Int) = (n : Int) / 2 % 2 + 2 * ((n : Int) / 4 % 2) ∧ ((n / 4 : Nat) : Int) = (n : Int) / 4 % 2 := by decide
theorem bits_of8 {n : Nat} (h : n ≤ 7) : ((n / 1 : Nat) : Int) = (n : Int) % 2 + 2 * ((n : Int) / 2 % 2) + 4 * ((n : Int) / 4 % 2) ∧ ((n / 2 : Nat) : Int) = (n : Int) / 2 % 2 + 2 * ((n : Int) / 4 % 2) ∧ ((n / 4 : Nat) : Int) = (n : Int) / 4 % 2 := bits_tab n (List.mem_range.mpr (Nat.lt_succ_of_le h))
theorem mul0 (k : Int) {z N : Int} (h : z % N = 0) : (k * z) % N = 0 := by rw [Int.mul_emod, h, Int.mul_zero, Int.zero_emod]
theorem mod_add {x y N : Int} (h : y % N = 0) : (x + y) % N = 0 ↔ x % N = 0 := by rw [Int.add_emod, h, Int.add_zero, Int.emod_emod]
theorem sum3 {x y z X Y Z : Int} : (x + 2 * y + 4 * z) + (X + 2 * Y + 4 * Z) = (x + X) + 2 * (y + Y) + 4 * (z + Z) := by omega
theorem sum2 {y z Y Z : Int} : (y + 2 * z) + (Y + 2 * Z) = (y + Y) + 2 * (z + Z) := by omega
theorem valOf_bitM {ns : List Nat} (hs : ∀ n ∈ ns, n ≤ 7) (a : Nat) : valOf (bitM ns) a = ((ns.getD a 0 : Nat) : Int) := by
  have h : ns.getD a 0 ≤ 7 := by
    rw [List.getD_eq_getElem?_getD]
    cases e : ns[a]? with
    | none => simp
    | some n => exact hs n (List.mem_of_getElem? e)
  unfold valOf bitM bits
  simp only [List.getD_cons_zero, List.getD_cons_succ]
  generalize ns.getD a 0 = n at h
  exact (bits_of8 h).1.symm.trans (by rw [Nat.div_one])
theorem colZ_zero {ns : List Nat} {number z : Nat} (hz : 0 < z) : colZ ns number (z : Nat) = 0 ↔ (ns.map fun n => ((n / z : Nat) : Int)).sum % number = 0 := by
  unfold colZ
  rw [Int.toNat_natCast, Int.fmod_eq_emod_of_nonneg _ (Int.mul_nonneg (by omega) (by omega)), Int.mul_emod_mul_of_pos _ _ (by omega : (0 : Int) < z)]
  constructor
  · intro h
    rcases Int.mul_eq_zero.mp h with h | h
    · omega
    · exact h
  · intro h
    rw [h]; simp
theorem bit_split {n : Nat} (h : n ≤ 7) : ∃ x y z : Int, bits ((n : Nat) : Int) = [x, y, z] ∧ ((n / 1 : Nat) : Int) = x + 2 * y + 4 * z ∧ ((n / 2 : Nat) : Int) = y + 2 * z ∧ ((n / 4 : Nat) : Int) = z := by
  refine ⟨(n : Int) % 2, (n : Int) / 2 % 2, (n : Int) / 4 % 2, rfl, bits_of8 h⟩
theorem mod_all {x y z : Int} {number : Nat} (h2 : 2 ≤ number) (h4 : number ≤ 4) : ((x + 2 * y + 4 * z) % number = 0 ∧ (y + 2 * z) % number = 0 ∧ z % number = 0) ↔ (x % number = 0 ∧ y % number = 0 ∧ z % number = 0) := by
  constructor
  · rintro ⟨h1, h2, h3⟩
    have y0 := (mod_add (mul0 2 h3)).mp h2
    exact ⟨(mod_add (mul0 2 y0)).mp ((mod_add (mul0 4 h3)).mp h1), y0, h3⟩
  · rintro ⟨a, b, c⟩
    exact ⟨(mod_add (mul0 4 c)).mpr ((mod_add (mul0 2 b)).mpr a), (mod_add (mul0 2 c)).mpr b, c⟩
theorem told_iff {ns : List Nat} {number : Nat} (hn : ns.length = 4) (hs : ∀ n ∈ ns, n ≤ 7) (h2 : 2 ≤ number) (h4 : number ≤ 4) : [1, 2, 4].map (colZ ns number) = [0, 0, 0] ↔ ∀ p, p ≤ 2 → (colOf (bitM ns) p).sum % number = 0 := by
  have z1 : colZ ns number 1 = 0 ↔ _ := colZ_zero (ns := ns) (number := number) (z := 1) (by decide)
  have z2 : colZ ns number 2 = 0 ↔ _ := colZ_zero (ns := ns) (number := number) (z := 2) (by decide)
  have z4 : colZ ns number 4 = 0 ↔ _ := colZ_zero (ns := ns) (number := number) (z := 4) (by decide)
  simp only [List.map_cons, List.map_nil, List.cons.injEq, and_true]
  rw [z1, z2, z4]
  obtain ⟨a, b, c, d, rfl⟩ := four_of hn
  obtain ⟨xa, ya, za, ea, a1, a2, a4⟩ := bit_split (hs a (by simp))
  obtain ⟨xb, yb, zb, eb, b1, b2, b4⟩ := bit_split (hs b (by simp))
  obtain ⟨xc, yc, zc, ec, c1, c2, c4⟩ := bit_split (hs c (by simp))
  obtain ⟨xd, yd, zd, ed, d1, d2, d4⟩ := bit_split (hs d (by simp))
  have s0 : (colOf (bitM [a, b, c, d]) 0).sum = xa + (xb + (xc + (xd + 0))) := by
    show (bits (a : Int)).getD 0 0 + ((bits (b : Int)).getD 0 0 + ((bits (c : Int)).getD 0 0 + ((bits (d : Int)).getD 0 0 + 0))) = _
    rw [ea, eb, ec, ed]; rfl
  have s1 : (colOf (bitM [a, b, c, d]) 1).sum = ya + (yb + (yc + (yd + 0))) := by
    show (bits (a : Int)).getD 1 0 + ((bits (b : Int)).getD 1 0 + ((bits (c : Int)).getD 1 0 + ((bits (d : Int)).getD 1 0 + 0))) = _
    rw [ea, eb, ec, ed]; rfl
  have s2 : (colOf (bitM [a, b, c, d]) 2).sum = za + (zb + (zc + (zd + 0))) := by
    show (bits (a : Int)).getD 2 0 + ((bits (b : Int)).getD 2 0 + ((bits (c : Int)).getD 2 0 + ((bits (d : Int)).getD 2 0 + 0))) = _
    rw [ea, eb, ec, ed]; rfl
  simp only [List.map_cons, List.map_nil, List.sum_cons, List.sum_nil]
  rw [a1, b1, c1, d1, a2, b2, c2, d2, a4, b4, c4, d4]
  have key := mod_all (x := xa + (xb + (xc + (xd + 0)))) (y := ya + (yb + (yc + (yd + 0)))) (z := za + (zb + (zc + (zd + 0)))) h2 h4
  have e1 : (xa + 2 * ya + 4 * za + (xb + 2 * yb + 4 * zb + (xc + 2 * yc + 4 * zc + (xd + 2 * yd + 4 * zd + 0)))) = (xa + (xb + (xc + (xd + 0)))) + 2 * (ya + (yb + (yc + (yd + 0)))) + 4 * (za + (zb + (zc + (zd + 0)))) := by
    rw [← sum3, ← sum3, ← sum3]; simp only [Int.add_zero]
  have e2 : (ya + 2 * za + (yb + 2 * zb + (yc + 2 * zc + (yd + 2 * zd + 0)))) = (ya + (yb + (yc + (yd + 0)))) + 2 * (za + (zb + (zc + (zd + 0)))) := by
    rw [← sum2, ← sum2, ← sum2]; simp only [Int.add_zero]
  rw [e1, e2, key, ← s0, ← s1, ← s2]
  constructor
  · rintro ⟨h0, h1, h2⟩ p hp
    rcases le2 hp with rfl | rfl | rfl
    · exact h0
    · exact h1
    · exact h2
  · intro h
    exact ⟨h 0 (by decide), h 1 (by decide), h 2 (by decide)⟩
/-- the nanny finds a position lost just if the figures ask for no move -/
theorem law_P1 {ns : List Nat} {number : Nat} (hn : ns.length = 4) (hs : ∀ n ∈ ns, n ≤ 7) (h2 : 2 ≤ number) (h4 : number ≤ 4) : decide ([1, 2, 4].map (colZ ns number) = [0, 0, 0]) = decide (pairsOf (ansAt number (bitM ns) [2, 1, 0]) = []) := by
  refine decide_eq_decide.mpr ?_
  rw [told_iff hn hs h2 h4, ← (ansOk h2 h4 (bitM_bit ns)).nil]
  unfold pairsOf
  simp
end SR
end
section
open PySem PySem.W PyProof.Rows
set_option Elab.async false
set_option maxRecDepth 100000
namespace SR
/-- the heaps after takes that leave so many -/
noncomputable def setAll (ns : List Nat) (prs : List (Nat × Int)) : List Nat := prs.foldl (fun l q => l.set q.1 q.2.toNat) ns
theorem setAll_len (prs : List (Nat × Int)) : ∀ ns, (setAll ns prs).length = ns.length := by
  induction prs with
  | nil => exact fun _ => rfl
  | cons q r ih => exact fun ns => (ih (ns.set q.1 q.2.toNat)).trans (by simp)
theorem setAll_out {a : Nat} (prs : List (Nat × Int)) : ∀ ns, a ∉ prs.map (·.1) → (setAll ns prs)[a]? = ns[a]? := by
  induction prs with
  | nil => exact fun _ _ => rfl
  | cons q r ih =>
    intro ns h
    rw [List.map_cons, List.mem_cons, not_or] at h
    exact (ih (ns.set q.1 q.2.toNat) h.2).trans (List.getElem?_set_ne (Ne.symm h.1))
theorem setAll_in {a : Nat} {v : Int} (prs : List (Nat × Int)) : ∀ ns, (prs.map (·.1)).Nodup → (a, v) ∈ prs → a < ns.length → (setAll ns prs)[a]? = some v.toNat := by
  induction prs with
  | nil => exact fun _ _ h => nomatch h
  | cons q r ih =>
    intro ns hnd hm hl
    rw [List.map_cons, List.nodup_cons] at hnd
    rcases List.mem_cons.mp hm with e | hm
    · subst e
      exact (setAll_out r _ hnd.1).trans (List.getElem?_set_self hl)
    · exact ih (ns.set q.1 q.2.toNat) hnd.2 hm (by simpa using hl)
theorem bits_of {x y z : Int} (hx : x = 0 ∨ x = 1) (hy : y = 0 ∨ y = 1) (hz : z = 0 ∨ z = 1) : bits (x + 2 * y + 4 * z) = [x, y, z] := by
  rcases hx with rfl | rfl <;> rcases hy with rfl | rfl <;> rcases hz with rfl | rfl <;> decide
theorem pairs_keys (S : St) : (pairsOf S).map (·.1) = S.2 := by
  unfold pairsOf
  rw [List.map_map]
  exact List.map_id _
theorem pairs_mem {S : St} {a : Nat} (h : a ∈ S.2) : (a, valOf S.1 a) ∈ pairsOf S := List.mem_map.mpr ⟨a, h, rfl⟩
theorem getD_le7 {ns : List Nat} (hs : ∀ n ∈ ns, n ≤ 7) (a : Nat) : ns.getD a 0 ≤ 7 := by
  rw [List.getD_eq_getElem?_getD]
  cases e : ns[a]? with
  | none => simp
  | some n => exact hs n (List.mem_of_getElem? e)
section
variable {ns : List Nat} {number : Nat} (hn : ns.length = 4) (hs : ∀ n ∈ ns, n ≤ 7) (h2 : 2 ≤ number) (h4 : number ≤ 4)
include hn hs h2 h4
/-- each take of an answer leaves less than stood, and can be made when its turn comes -/
theorem law_P2 {i a : Nat} {v : Int} (h : (pairsOf (ansAt number (bitM ns) [2, 1, 0]))[i]? = some (a, v)) :
    ∃ n, (setAll ns ((pairsOf (ansAt number (bitM ns) [2, 1, 0])).take i))[a]? = some n ∧ v = (v.toNat : Nat) ∧ v.toNat < n ∧ n ≤ 7 ∧ a < 4 := by
  have k := ansOk h2 h4 (bitM_bit ns)
  generalize ansAt number (bitM ns) [2, 1, 0] = S at k h
  have hm : (a, v) ∈ pairsOf S := List.mem_of_getElem? h
  obtain ⟨a', ha', e⟩ := List.mem_map.mp hm
  cases e
  have ha4 := k.ok.lt a ha'
  have hlt := k.less a ha'
  rw [valOf_bitM hs] at hlt
  have h0 : 0 ≤ valOf S.1 a := by
    have b0 := k.ok.bit a 0
    have b1 := k.ok.bit a 1
    have b2 := k.ok.bit a 2
    unfold valOf; omega
  refine ⟨ns.getD a 0, ?_, by omega, by omega, getD_le7 hs a, ha4⟩
  rw [setAll_out, List.getD_eq_getElem?_getD, List.getElem?_eq_getElem (by omega)]
  · rfl
  · -- an earlier take is of another heap
    rw [List.map_take, pairs_keys]
    intro hb
    have hi : S.2[i]? = some a := by
      have : ((pairsOf S).map (·.1))[i]? = some a := by rw [List.getElem?_map, h]; rfl
      rwa [pairs_keys] at this
    obtain ⟨j, hj⟩ := List.getElem?_of_mem hb
    rw [List.getElem?_take] at hj
    split at hj
    · rename_i hji
      have hlt : j < S.2.length := by
        rcases Nat.lt_or_ge j S.2.length with h | h
        · exact h
        · rw [List.getElem?_eq_none h] at hj; cases hj
      have := (List.getElem?_inj hlt k.nd).mp (hj.trans hi.symm)
      omega
    · cases hj
theorem ans_get (a : Nat) (ha : a < 4) : (setAll ns (pairsOf (ansAt number (bitM ns) [2, 1, 0]))).getD a 0 = (valOf (ansAt number (bitM ns) [2, 1, 0]).1 a).toNat := by
  have k := ansOk h2 h4 (bitM_bit ns)
  generalize ansAt number (bitM ns) [2, 1, 0] = S at k
  rw [List.getD_eq_getElem?_getD]
  by_cases h : a ∈ S.2
  · rw [setAll_in _ ns (by rw [pairs_keys]; exact k.nd) (pairs_mem h) (by omega)]; rfl
  · rw [setAll_out _ ns (by rw [pairs_keys]; exact h)]
    have e : valOf S.1 a = valOf (bitM ns) a := by
      unfold valOf
      rw [k.out a 0 h, k.out a 1 h, k.out a 2 h]
    rw [e, valOf_bitM hs, Int.toNat_natCast, List.getD_eq_getElem?_getD]
theorem ans_le7 : ∀ n ∈ setAll ns (pairsOf (ansAt number (bitM ns) [2, 1, 0])), n ≤ 7 := by
  intro n hm
  obtain ⟨a, ha⟩ := List.getElem?_of_mem hm
  have hl := setAll_len (pairsOf (ansAt number (bitM ns) [2, 1, 0])) ns
  have ha4 : a < 4 := by
    rcases Nat.lt_or_ge a 4 with h | h
    · exact h
    · rw [List.getElem?_eq_none (by omega)] at ha; cases ha
  have := ans_get hn hs h2 h4 a ha4
  rw [List.getD_eq_getElem?_getD, ha, Option.getD_some] at this
  have k := ansOk h2 h4 (bitM_bit ns)
  have b0 := k.ok.bit a 0
  have b1 := k.ok.bit a 1
  have b2 := k.ok.bit a 2
  rw [this]
  unfold valOf
  omega
/-- behind an answer the figures ask for no move -/
theorem law_P2z : decide ([1, 2, 4].map (colZ (setAll ns (pairsOf (ansAt number (bitM ns) [2, 1, 0]))) number) = [0, 0, 0]) = true := by
  refine decide_eq_true ?_
  have hl := setAll_len (pairsOf (ansAt number (bitM ns) [2, 1, 0])) ns
  rw [told_iff (hl.trans hn) (ans_le7 hn hs h2 h4) h2 h4]
  have k := ansOk h2 h4 (bitM_bit ns)
  intro p hp
  have e : ∀ a, a < 4 → bitM (setAll ns (pairsOf (ansAt number (bitM ns) [2, 1, 0]))) a p = (ansAt number (bitM ns) [2, 1, 0]).1 a p := by
    intro a ha
    have b0 := k.ok.bit a 0
    have b1 := k.ok.bit a 1
    have b2 := k.ok.bit a 2
    show (bits (((setAll ns (pairsOf (ansAt number (bitM ns) [2, 1, 0]))).getD a 0 : Nat) : Int)).getD p 0 = _
    rw [ans_get hn hs h2 h4 a ha, Int.toNat_of_nonneg (by unfold valOf; omega)]
    unfold valOf
    rw [bits_of b0 b1 b2]
    have : p = 0 ∨ p = 1 ∨ p = 2 := by omega
    rcases this with rfl | rfl | rfl <;> rfl
  have : colOf (bitM (setAll ns (pairsOf (ansAt number (bitM ns) [2, 1, 0])))) p = colOf (ansAt number (bitM ns) [2, 1, 0]).1 p := by
    unfold colOf
    rw [e 0 (by decide), e 1 (by decide), e 2 (by decide), e 3 (by decide)]
  rw [this]
  exact k.cols p hp
end
end SR
end
section
open PySem PySem.W PyProof.Rows
set_option Elab.async false
set_option maxRecDepth 100000
namespace SR
theorem stage {N : Nat} (h2 : 2 ≤ N) (h4 : N ≤ 4) {u0 u1 u2 u3 w0 w1 w2 w3 c0 c1 c2 c3 : Int} (r0 : 0 ≤ u0 - w0 ∧ u0 - w0 ≤ c0) (r1 : 0 ≤ u1 - w1 ∧ u1 - w1 ≤ c1) (r2 : 0 ≤ u2 - w2 ∧ u2 - w2 ≤ c2) (r3 : 0 ≤ u3 - w3 ∧ u3 - w3 ≤ c3) (hc : c0 + c1 + c2 + c3 < N) (hu : (u0 + (u1 + (u2 + (u3 + 0)))) % N = 0) (hw : (w0 + (w1 + (w2 + (w3 + 0)))) % N = 0) :
    u0 = w0 ∧ u1 = w1 ∧ u2 = w2 ∧ u3 = w3 := by
  have key : ∀ {s t : Int}, s % N = 0 → t % N = 0 → 0 ≤ s - t → s - t < N → s = t := by
    intro s t hs ht h0 h1
    have e := Int.emod_eq_of_lt h0 h1
    rw [Int.sub_emod, hs, ht, Int.sub_self, Int.zero_emod] at e
    exact Int.eq_of_sub_eq_zero e.symm
  have := key hu hw (by omega) (by omega)
  omega
noncomputable def ind (l : List Nat) (a : Nat) : Int := if a ∈ l then 1 else 0
noncomputable def one (a k : Nat) : Int := if a = k then 1 else 0
theorem ind_cons (k a : Nat) (r : List Nat) : ind (k :: r) a ≤ one a k + ind r a := by
  unfold ind one
  by_cases h : a = k
  · subst h
    rw [if_pos (List.mem_cons_self ..), if_pos rfl]
    split <;> decide
  · rw [if_neg h]
    by_cases h' : a ∈ r
    · rw [if_pos h', if_pos (List.mem_cons_of_mem _ h')]; decide
    · rw [if_neg h', if_neg fun x => (List.mem_cons.mp x).elim h h']; decide
theorem one_sum : ∀ k : Nat, one 0 k + one 1 k + one 2 k + one 3 k ≤ 1
  | 0 => by decide
  | 1 => by decide
  | 2 => by decide
  | 3 => by decide
  | k + 4 => by
    unfold one
    rw [if_neg (by omega), if_neg (by omega), if_neg (by omega), if_neg (by omega)]; decide
theorem ind_sum : ∀ l : List Nat, ind l 0 + ind l 1 + ind l 2 + ind l 3 ≤ (l.length : Int)
  | [] => by decide
  | k :: r => by
    have h := ind_sum r
    have h0 := ind_cons k 0 r
    have h1 := ind_cons k 1 r
    have h2 := ind_cons k 2 r
    have h3 := ind_cons k 3 r
    have hk := one_sum k
    rw [List.length_cons, Int.natCast_add]
    generalize ind (k :: r) 0 = a0 at *
    generalize ind (k :: r) 1 = a1 at *
    generalize ind (k :: r) 2 = a2 at *
    generalize ind (k :: r) 3 = a3 at *
    generalize ind r 0 = b0 at *
    generalize ind r 1 = b1 at *
    generalize ind r 2 = b2 at *
    generalize ind r 3 = b3 at *
    generalize one 0 k = d0 at *
    generalize one 1 k = d1 at *
    generalize one 2 k = d2 at *
    generalize one 3 k = d3 at *
    omega
theorem le_ind {c : Int} {keys : List Nat} {a : Nat} (g : c ≤ 1) (i : a ∉ keys → c = 0) : c ≤ ind keys a := by
  unfold ind
  by_cases h : a ∈ keys
  · rw [if_pos h]; exact g
  · rw [if_neg h]; exact Int.le_of_eq (i h)
theorem key_count {keys : List Nat} {c0 c1 c2 c3 : Int} {N : Nat} (hk : keys.length < N) (g0 : c0 ≤ 1) (g1 : c1 ≤ 1) (g2 : c2 ≤ 1) (g3 : c3 ≤ 1) (i0 : 0 ∉ keys → c0 = 0) (i1 : 1 ∉ keys → c1 = 0) (i2 : 2 ∉ keys → c2 = 0) (i3 : 3 ∉ keys → c3 = 0) : c0 + c1 + c2 + c3 < N := by
  have h0 := le_ind g0 i0
  have h1 := le_ind g1 i1
  have h2 := le_ind g2 i2
  have h3 := le_ind g3 i3
  have hs := ind_sum keys
  clear g0 g1 g2 g3 i0 i1 i2 i3
  generalize ind keys 0 = b0 at *
  generalize ind keys 1 = b1 at *
  generalize ind keys 2 = b2 at *
  generalize ind keys 3 = b3 at *
  omega
/-- a number below eight and its figures -/
structure B3 (n : Nat) (x y z : Int) : Prop where
  b : bits ((n : Nat) : Int) = [x, y, z]
  e : (n : Int) = x + 2 * y + 4 * z
  x : 0 ≤ x ∧ x ≤ 1
  y : 0 ≤ y ∧ y ≤ 1
  z : 0 ≤ z ∧ z ≤ 1
section
variable {n N : Nat} {x y z X Y Z : Int}
theorem B3.dz (p : B3 n x y z) (q : B3 N X Y Z) (h : N ≤ n) : 0 ≤ z - Z ∧ z - Z ≤ 1 := by
  obtain ⟨_, e, ⟨a, b⟩, ⟨c, d⟩, ⟨f, g⟩⟩ := p
  obtain ⟨_, e', ⟨a', b'⟩, ⟨c', d'⟩, ⟨f', g'⟩⟩ := q
  omega
theorem B3.dy (p : B3 n x y z) (q : B3 N X Y Z) (h : N ≤ n) (hz : z = Z) : 0 ≤ y - Y ∧ y - Y ≤ 1 := by
  obtain ⟨_, e, ⟨a, b⟩, ⟨c, d⟩, _⟩ := p
  obtain ⟨_, e', ⟨a', b'⟩, ⟨c', d'⟩, _⟩ := q
  omega
theorem B3.dx (p : B3 n x y z) (q : B3 N X Y Z) (h : N ≤ n) (hz : z = Z) (hy : y = Y) : 0 ≤ x - X ∧ x - X ≤ 1 := by
  obtain ⟨_, e, ⟨a, b⟩, _, _⟩ := p
  obtain ⟨_, e', ⟨a', b'⟩, _, _⟩ := q
  omega
theorem B3.same (p : B3 n x y z) (q : B3 N X Y Z) (h : N = n) : x - X = 0 ∧ y - Y = 0 ∧ z - Z = 0 := by
  subst h
  have := p.b.symm.trans q.b
  simp only [List.cons.injEq, and_true] at this
  obtain ⟨rfl, rfl, rfl⟩ := this
  exact ⟨Int.sub_self _, Int.sub_self _, Int.sub_self _⟩
theorem B3.less (p : B3 n x y z) (q : B3 N X Y Z) (h : N < n) (hz : z = Z) (hy : y = Y) (hx : x = X) : False := by
  have e := p.e
  have e' := q.e
  omega
end
theorem bit_split' {n : Nat} (h : n ≤ 7) : ∃ x y z : Int, B3 n x y z :=
  ⟨(n : Int) % 2, (n : Int) / 2 % 2, (n : Int) / 4 % 2, rfl, by omega, by omega, by omega, by omega⟩
theorem col_sum {ns : List Nat} {x0 y0 z0 x1 y1 z1 x2 y2 z2 x3 y3 z3 : Int} (e0 : bits ((ns.getD 0 0 : Nat) : Int) = [x0, y0, z0]) (e1 : bits ((ns.getD 1 0 : Nat) : Int) = [x1, y1, z1]) (e2 : bits ((ns.getD 2 0 : Nat) : Int) = [x2, y2, z2]) (e3 : bits ((ns.getD 3 0 : Nat) : Int) = [x3, y3, z3]) :
    (colOf (bitM ns) 0).sum = x0 + (x1 + (x2 + (x3 + 0))) ∧ (colOf (bitM ns) 1).sum = y0 + (y1 + (y2 + (y3 + 0))) ∧ (colOf (bitM ns) 2).sum = z0 + (z1 + (z2 + (z3 + 0))) := by
  refine ⟨?_, ?_, ?_⟩
  · show (bits ((ns.getD 0 0 : Nat) : Int)).getD 0 0 + ((bits ((ns.getD 1 0 : Nat) : Int)).getD 0 0 + ((bits ((ns.getD 2 0 : Nat) : Int)).getD 0 0 + ((bits ((ns.getD 3 0 : Nat) : Int)).getD 0 0 + 0))) = _
    rw [e0, e1, e2, e3]; rfl
  · show (bits ((ns.getD 0 0 : Nat) : Int)).getD 1 0 + ((bits ((ns.getD 1 0 : Nat) : Int)).getD 1 0 + ((bits ((ns.getD 2 0 : Nat) : Int)).getD 1 0 + ((bits ((ns.getD 3 0 : Nat) : Int)).getD 1 0 + 0))) = _
    rw [e0, e1, e2, e3]; rfl
  · show (bits ((ns.getD 0 0 : Nat) : Int)).getD 2 0 + ((bits ((ns.getD 1 0 : Nat) : Int)).getD 2 0 + ((bits ((ns.getD 2 0 : Nat) : Int)).getD 2 0 + ((bits ((ns.getD 3 0 : Nat) : Int)).getD 2 0 + 0))) = _
    rw [e0, e1, e2, e3]; rfl
/-- from a position at which the figures ask for no move, whatever is taken, they ask for one -/
theorem law_P3 {pos new : List Nat} {number : Nat} {keys : List Nat} (h2 : 2 ≤ number) (h4 : number ≤ 4) (hp : ∀ n ∈ pos, n ≤ 7) (hq : ∀ n ∈ new, n ≤ 7) (hk : keys.length < number) (hlt : ∀ a ∈ keys, a < 4) (hin : ∀ a ∈ keys, new.getD a 0 < pos.getD a 0) (hout : ∀ a, a < 4 → a ∉ keys → new.getD a 0 = pos.getD a 0) (hne : keys ≠ [])
    (hz : ∀ p, p ≤ 2 → (colOf (bitM pos) p).sum % number = 0) : ¬ ∀ p, p ≤ 2 → (colOf (bitM new) p).sum % number = 0 := by
  intro hw
  obtain ⟨x0, y0, z0, b0⟩ := bit_split' (getD_le7 hp 0)
  obtain ⟨x1, y1, z1, b1⟩ := bit_split' (getD_le7 hp 1)
  obtain ⟨x2, y2, z2, b2⟩ := bit_split' (getD_le7 hp 2)
  obtain ⟨x3, y3, z3, b3⟩ := bit_split' (getD_le7 hp 3)
  obtain ⟨X0, Y0, Z0, B0⟩ := bit_split' (getD_le7 hq 0)
  obtain ⟨X1, Y1, Z1, B1⟩ := bit_split' (getD_le7 hq 1)
  obtain ⟨X2, Y2, Z2, B2⟩ := bit_split' (getD_le7 hq 2)
  obtain ⟨X3, Y3, Z3, B3⟩ := bit_split' (getD_le7 hq 3)
  obtain ⟨u0, u1, u2⟩ := col_sum b0.b b1.b b2.b b3.b
  obtain ⟨w0, w1, w2⟩ := col_sum B0.b B1.b B2.b B3.b
  have v0 := hz 0 (by decide)
  have v1 := hz 1 (by decide)
  have v2 := hz 2 (by decide)
  have t0 := hw 0 (by decide)
  have t1 := hw 1 (by decide)
  have t2 := hw 2 (by decide)
  rw [u0] at v0; rw [u1] at v1; rw [u2] at v2
  rw [w0] at t0; rw [w1] at t1; rw [w2] at t2
  have le : ∀ a, a < 4 → new.getD a 0 ≤ pos.getD a 0 := fun a ha => by
    by_cases h : a ∈ keys
    · exact Nat.le_of_lt (hin a h)
    · exact Nat.le_of_eq (hout a ha h)
  have l0 := le 0 (by decide)
  have l1 := le 1 (by decide)
  have l2 := le 2 (by decide)
  have l3 := le 3 (by decide)
  have i0 := fun h => b0.same B0 (hout 0 (by decide) h)
  have i1 := fun h => b1.same B1 (hout 1 (by decide) h)
  have i2 := fun h => b2.same B2 (hout 2 (by decide) h)
  have i3 := fun h => b3.same B3 (hout 3 (by decide) h)
  have m0 := b0.dz B0 l0
  have m1 := b1.dz B1 l1
  have m2 := b2.dz B2 l2
  have m3 := b3.dz B3 l3
  obtain ⟨q0, q1, q2, q3⟩ := stage h2 h4 ⟨m0.1, Int.le_refl _⟩ ⟨m1.1, Int.le_refl _⟩ ⟨m2.1, Int.le_refl _⟩ ⟨m3.1, Int.le_refl _⟩ (key_count hk m0.2 m1.2 m2.2 m3.2 (fun h => (i0 h).2.2) (fun h => (i1 h).2.2) (fun h => (i2 h).2.2) (fun h => (i3 h).2.2)) v2 t2
  have n0 := b0.dy B0 l0 q0
  have n1 := b1.dy B1 l1 q1
  have n2 := b2.dy B2 l2 q2
  have n3 := b3.dy B3 l3 q3
  obtain ⟨r0, r1, r2, r3⟩ := stage h2 h4 ⟨n0.1, Int.le_refl _⟩ ⟨n1.1, Int.le_refl _⟩ ⟨n2.1, Int.le_refl _⟩ ⟨n3.1, Int.le_refl _⟩ (key_count hk n0.2 n1.2 n2.2 n3.2 (fun h => (i0 h).2.1) (fun h => (i1 h).2.1) (fun h => (i2 h).2.1) (fun h => (i3 h).2.1)) v1 t1
  have o0 := b0.dx B0 l0 q0 r0
  have o1 := b1.dx B1 l1 q1 r1
  have o2 := b2.dx B2 l2 q2 r2
  have o3 := b3.dx B3 l3 q3 r3
  obtain ⟨p0, p1, p2, p3⟩ := stage h2 h4 ⟨o0.1, Int.le_refl _⟩ ⟨o1.1, Int.le_refl _⟩ ⟨o2.1, Int.le_refl _⟩ ⟨o3.1, Int.le_refl _⟩ (key_count hk o0.2 o1.2 o2.2 o3.2 (fun h => (i0 h).1) (fun h => (i1 h).1) (fun h => (i2 h).1) (fun h => (i3 h).1)) v0 t0
  cases keys with
  | nil => exact hne rfl
  | cons k r =>
    have hk4 := hlt k (List.mem_cons_self ..)
    have hk' := hin k (List.mem_cons_self ..)
    rcases k with _ | _ | _ | _ | k
    · exact b0.less B0 hk' q0 r0 p0
    · exact b1.less B1 hk' q1 r1 p1
    · exact b2.less B2 hk' q2 r2 p2
    · exact b3.less B3 hk' q3 r3 p3
    · exact absurd hk4 (Nat.not_lt.mpr (Nat.le_add_left 4 k))
end SR
end
section
open PySem PySem.W PyProof.Rows
set_option Elab.async false
set_option maxRecDepth 100000
namespace SR
/-- what a wish takes from each heap -/
noncomputable def goneOf (wish : Nat) (pos : List Nat) (a : Nat) : Nat := min (wish / 8 ^ a % 8) (pos.getD a 0)
noncomputable def takes1 (wish : Nat) (pos : List Nat) : List (Nat × Int) := (List.range 4).map fun a => (a, (goneOf wish pos a : Nat))
noncomputable def takes2 (number wish : Nat) (pos : List Nat) : List (Nat × Int) := ((takes1 wish pos).filter fun q => decide (q.2 > 0)).take (number - 1)
noncomputable def takes3 (pos : List Nat) : List (Nat × Int) := (((List.range 4).filter fun a => decide ((pos.getD a 0 : Int) > 0)).map fun a => (a, (1 : Int))).take 1
noncomputable def takesOf (number wish : Nat) (pos : List Nat) : List (Nat × Int) := if takes2 number wish pos = [] then takes3 pos else takes2 number wish pos
noncomputable def leftsOf (pos : List Nat) (tk : List (Nat × Int)) : List (Nat × Int) := tk.map fun q => (q.1, (pos.getD q.1 0 : Int) - q.2)
structure TkOk (number : Nat) (pos : List Nat) (tk : List (Nat × Int)) : Prop where
  nd : (tk.map (·.1)).Nodup
  lt : ∀ q ∈ tk, q.1 < 4 ∧ 1 ≤ q.2 ∧ q.2 ≤ (pos.getD q.1 0 : Int)
  len : tk.length < number
theorem takes1_keys (wish : Nat) (pos : List Nat) : (takes1 wish pos).map (·.1) = List.range 4 := by
  unfold takes1
  rw [List.map_map]
  exact List.map_id _
theorem takes2_ok {number wish : Nat} {pos : List Nat} (h2 : 2 ≤ number) : TkOk number pos (takes2 number wish pos) := by
  have sub : ((takes2 number wish pos).map (·.1)).Sublist (List.range 4) := by
    rw [← takes1_keys wish pos]
    exact ((List.take_sublist _ _).trans (List.filter_sublist ..)).map _
  refine ⟨sub.nodup List.nodup_range, fun q hq => ?_, ?_⟩
  · have h1 := List.mem_filter.mp (List.mem_of_mem_take hq)
    obtain ⟨a, ha, rfl⟩ := List.mem_map.mp h1.1
    have h3 : ((goneOf wish pos a : Nat) : Int) > 0 := of_decide_eq_true h1.2
    have h4 : goneOf wish pos a ≤ pos.getD a 0 := Nat.min_le_right _ _
    refine ⟨List.mem_range.mp ha, ?_, ?_⟩
    · show (1 : Int) ≤ (goneOf wish pos a : Nat)
      omega
    · show ((goneOf wish pos a : Nat) : Int) ≤ ((pos.getD a 0 : Nat) : Int)
      omega
  · unfold takes2
    rw [List.length_take]
    omega
theorem takes3_ok {number : Nat} {pos : List Nat} (h2 : 2 ≤ number) : TkOk number pos (takes3 pos) := by
  have sub : ((takes3 pos).map (·.1)).Sublist (List.range 4) := by
    unfold takes3
    rw [List.map_take, List.map_map]
    refine (List.take_sublist _ _).trans ?_
    have : ((fun q : Nat × Int => q.1) ∘ fun a : Nat => (a, (1 : Int))) = id := rfl
    rw [this, List.map_id]
    exact List.filter_sublist ..
  refine ⟨sub.nodup List.nodup_range, fun q hq => ?_, ?_⟩
  · obtain ⟨a, ha, rfl⟩ := List.mem_map.mp (List.mem_of_mem_take hq)
    have h1 := List.mem_filter.mp ha
    have h3 : ((pos.getD a 0 : Nat) : Int) > 0 := of_decide_eq_true h1.2
    refine ⟨List.mem_range.mp h1.1, Int.le_refl 1, ?_⟩
    show (1 : Int) ≤ ((pos.getD a 0 : Nat) : Int)
    omega
  · unfold takes3
    rw [List.length_take]
    omega
theorem takesOf_ok {number wish : Nat} {pos : List Nat} (h2 : 2 ≤ number) : TkOk number pos (takesOf number wish pos) := by
  unfold takesOf
  split
  · exact takes3_ok h2
  · exact takes2_ok h2
/-- where a blank is left, something is taken -/
theorem takesOf_ne {number wish : Nat} {pos : List Nat} {a : Nat} (ha : a < 4) (hp : 0 < pos.getD a 0) : takesOf number wish pos ≠ [] := by
  unfold takesOf
  split
  · intro h
    unfold takes3 at h
    have hm : (a, (1 : Int)) ∈ ((List.range 4).filter fun a => decide ((pos.getD a 0 : Int) > 0)).map fun a => (a, (1 : Int)) := List.mem_map.mpr ⟨a, List.mem_filter.mpr ⟨List.mem_range.mpr ha, decide_eq_true (by omega)⟩, rfl⟩
    generalize (((List.range 4).filter fun a => decide ((pos.getD a 0 : Int) > 0)).map fun a => (a, (1 : Int))) = l at h hm
    cases l with
    | nil => cases hm
    | cons q r => simp at h
  · rename_i h
    exact h
theorem lefts_keys (pos : List Nat) (tk : List (Nat × Int)) : (leftsOf pos tk).map (·.1) = tk.map (·.1) := by
  unfold leftsOf
  rw [List.map_map]
  rfl
theorem lefts_get {pos : List Nat} {tk : List (Nat × Int)} {number a : Nat} (ok : TkOk number pos tk) (hl : pos.length = 4) : (a ∈ tk.map (·.1) → (setAll pos (leftsOf pos tk)).getD a 0 < pos.getD a 0) ∧ (a ∉ tk.map (·.1) → (setAll pos (leftsOf pos tk)).getD a 0 = pos.getD a 0) := by
  constructor
  · intro h
    obtain ⟨q, hq, rfl⟩ := List.mem_map.mp h
    obtain ⟨h1, h2, h3⟩ := ok.lt q hq
    have hm : (q.1, (pos.getD q.1 0 : Int) - q.2) ∈ leftsOf pos tk := List.mem_map.mpr ⟨q, hq, rfl⟩
    have := setAll_in (leftsOf pos tk) pos (by rw [lefts_keys]; exact ok.nd) hm (by omega)
    rw [List.getD_eq_getElem?_getD (l := setAll pos (leftsOf pos tk)), this, Option.getD_some]
    omega
  · intro h
    have := setAll_out (leftsOf pos tk) pos (a := a) (by rw [lefts_keys]; exact h)
    rw [List.getD_eq_getElem?_getD, this, List.getD_eq_getElem?_getD]
theorem setAll_le7 {pos : List Nat} {tk : List (Nat × Int)} {number : Nat} (ok : TkOk number pos tk) (hl : pos.length = 4) (hp : ∀ n ∈ pos, n ≤ 7) : ∀ n ∈ setAll pos (leftsOf pos tk), n ≤ 7 := by
  intro n hm
  obtain ⟨a, ha⟩ := List.getElem?_of_mem hm
  have e : (setAll pos (leftsOf pos tk)).getD a 0 = n := by rw [List.getD_eq_getElem?_getD, ha]; rfl
  have h7 := getD_le7 hp a
  by_cases h : a ∈ tk.map (·.1)
  · have := (lefts_get (a := a) ok hl).1 h
    omega
  · have := (lefts_get (a := a) ok hl).2 h
    omega
/-- whatever the other player takes, the figures ask for a move -/
theorem law_P3' {pos : List Nat} {tk : List (Nat × Int)} {number : Nat} (h2 : 2 ≤ number) (h4 : number ≤ 4) (hl : pos.length = 4) (hp : ∀ n ∈ pos, n ≤ 7) (ok : TkOk number pos tk) (hne : tk ≠ []) (hz : decide ([1, 2, 4].map (colZ pos number) = [0, 0, 0]) = true) :
    decide (pairsOf (ansAt number (bitM (setAll pos (leftsOf pos tk))) [2, 1, 0]) = []) = false := by
  have hl' : (setAll pos (leftsOf pos tk)).length = 4 := (setAll_len _ _).trans hl
  have h7' := setAll_le7 ok hl hp
  rw [← law_P1 hl' h7' h2 h4]
  refine decide_eq_false fun h => ?_
  rw [told_iff hl' h7' h2 h4] at h
  refine law_P3 (keys := tk.map (·.1)) h2 h4 hp h7' (by rw [List.length_map]; exact ok.len) (fun a ha => ?_) (fun a ha => (lefts_get ok hl).1 ha) (fun a _ ha => (lefts_get ok hl).2 ha) (by cases tk with | nil => exact absurd rfl hne | cons q r => simp) ?_ h
  · obtain ⟨q, hq, rfl⟩ := List.mem_map.mp ha
    exact (ok.lt q hq).1
  · exact (told_iff hl hp h2 h4).mp (of_decide_eq_true hz)
end SR
end
section
open PySem PySem.W PyProof.Rows
set_option Elab.async false
set_option maxRecDepth 100000
namespace SR
/-- the heaps that have a blank -/
noncomputable def full (ns : List Nat) : List Nat := (List.range 4).filter fun a => decide (0 < ns.getD a 0)
noncomputable def nz (ns : List Nat) : Nat := (full ns).length
theorem nz_le4 (ns : List Nat) : nz ns ≤ 4 := Nat.le_trans (List.length_filter_le _ _) (by simp)
theorem nz_mono {ns ns' : List Nat} (h : ∀ a, a < 4 → ns'.getD a 0 ≤ ns.getD a 0) : nz ns' ≤ nz ns := by
  unfold nz full
  rw [← List.countP_eq_length_filter, ← List.countP_eq_length_filter]
  refine List.countP_mono_left fun a ha hp => ?_
  have := h a (List.mem_range.mp ha)
  have hp' : 0 < ns'.getD a 0 := of_decide_eq_true hp
  exact decide_eq_true (by omega)
theorem full_mem {ns : List Nat} {a : Nat} : a ∈ full ns ↔ a < 4 ∧ 0 < ns.getD a 0 := by
  unfold full
  rw [List.mem_filter, List.mem_range, decide_eq_true_eq]
theorem full_nd (ns : List Nat) : (full ns).Nodup := (List.filter_sublist ..).nodup List.nodup_range
theorem ans_mono {ns : List Nat} {number : Nat} (hn : ns.length = 4) (hs : ∀ n ∈ ns, n ≤ 7) (h2 : 2 ≤ number) (h4 : number ≤ 4) (a : Nat) (ha : a < 4) : (setAll ns (pairsOf (ansAt number (bitM ns) [2, 1, 0]))).getD a 0 ≤ ns.getD a 0 := by
  rw [ans_get hn hs h2 h4 a ha]
  have k := ansOk h2 h4 (bitM_bit ns)
  have hv := valOf_bitM hs a
  by_cases h : a ∈ (ansAt number (bitM ns) [2, 1, 0]).2
  · have := k.less a h
    omega
  · have e : valOf (ansAt number (bitM ns) [2, 1, 0]).1 a = valOf (bitM ns) a := by
      unfold valOf
      rw [k.out a 0 h, k.out a 1 h, k.out a 2 h]
    omega
theorem zero_col {number : Nat} : ∀ p, p ≤ 2 → (colOf (bitM [0, 0, 0, 0]) p).sum % number = 0 := by
  intro p hp
  have : p = 0 ∨ p = 1 ∨ p = 2 := by omega
  rcases this with rfl | rfl | rfl
  · show (0 : Int) % number = 0; simp
  · show (0 : Int) % number = 0; simp
  · show (0 : Int) % number = 0; simp
/-- a position that asks for no move has no blank, or as many heaps with blanks as the number at least -/
theorem nz_big {pos : List Nat} {number : Nat} (h2 : 2 ≤ number) (h4 : number ≤ 4) (hl : pos.length = 4) (hp : ∀ n ∈ pos, n ≤ 7) (hz : decide ([1, 2, 4].map (colZ pos number) = [0, 0, 0]) = true) (hne : full pos ≠ []) : number ≤ nz pos := by
  rcases Nat.lt_or_ge (nz pos) number with h | h
  · exfalso
    refine law_P3 (new := [0, 0, 0, 0]) (keys := full pos) h2 h4 hp (by intro n hn; simp at hn; omega) h (fun a ha => (full_mem.mp ha).1) (fun a ha => ?_) (fun a ha hn => ?_) hne ((told_iff hl hp h2 h4).mp (of_decide_eq_true hz)) zero_col
    · obtain ⟨h1, h3⟩ := full_mem.mp ha
      have : a = 0 ∨ a = 1 ∨ a = 2 ∨ a = 3 := by omega
      rcases this with rfl | rfl | rfl | rfl <;> exact h3
    · have h0 : pos.getD a 0 = 0 := by
        rcases Nat.eq_zero_or_pos (pos.getD a 0) with h | h
        · exact h
        · exact absurd (full_mem.mpr ⟨ha, h⟩) hn
      rw [h0]
      have : a = 0 ∨ a = 1 ∨ a = 2 ∨ a = 3 := by omega
      rcases this with rfl | rfl | rfl | rfl <;> rfl
  · exact h
theorem gone_all {pos : List Nat} (hp : ∀ n ∈ pos, n ≤ 7) {a : Nat} (ha : a < 4) : goneOf 4095 pos a = pos.getD a 0 := by
  have h7 := getD_le7 hp a
  unfold goneOf
  have : a = 0 ∨ a = 1 ∨ a = 2 ∨ a = 3 := by omega
  have e : 4095 / 8 ^ a % 8 = 7 := by rcases this with rfl | rfl | rfl | rfl <;> decide
  rw [e]
  exact Nat.min_eq_right h7
theorem takes2_keys {number : Nat} {pos : List Nat} (hp : ∀ n ∈ pos, n ≤ 7) : takes2 number 4095 pos = ((full pos).take (number - 1)).map fun a => (a, ((pos.getD a 0 : Nat) : Int)) := by
  unfold takes2 full
  rw [List.map_take]
  congr 1
  unfold takes1
  rw [List.filter_map]
  have e : (List.range 4).filter ((fun q : Nat × Int => decide (q.2 > 0)) ∘ fun a => (a, ((goneOf 4095 pos a : Nat) : Int))) = (List.range 4).filter fun a => decide (0 < pos.getD a 0) := by
    refine List.filter_congr fun a ha => ?_
    have := gone_all hp (List.mem_range.mp ha)
    show decide (((goneOf 4095 pos a : Nat) : Int) > 0) = _
    rw [this]
    exact decide_eq_decide.mpr (by omega)
  rw [e]
  refine List.map_congr_left fun a ha => ?_
  rw [gone_all hp (List.mem_range.mp (List.mem_filter.mp ha).1)]
/-- the wish for all clears as many heaps as may be lessened -/
theorem nz_less {pos : List Nat} {number : Nat} (h2 : 2 ≤ number) (hl : pos.length = 4) (hp : ∀ n ∈ pos, n ≤ 7) (hbig : number ≤ nz pos) : nz (setAll pos (leftsOf pos (takesOf number 4095 pos))) + (number - 1) ≤ nz pos := by
  have hk := takes2_keys (number := number) hp
  have hne : takes2 number 4095 pos ≠ [] := by
    rw [hk]
    intro h
    have h5 := congrArg List.length h
    rw [List.length_map, List.length_take, List.length_nil] at h5
    unfold nz at hbig
    have h6 : min (number - 1) (full pos).length = number - 1 := Nat.min_eq_left (by omega)
    omega
  have ht : takesOf number 4095 pos = takes2 number 4095 pos := if_neg hne
  have ok := takes2_ok (number := number) (wish := 4095) (pos := pos) h2
  rw [ht]
  have keys : (takes2 number 4095 pos).map (·.1) = (full pos).take (number - 1) := by
    rw [hk, List.map_map]
    exact List.map_id _
  have e : full (setAll pos (leftsOf pos (takes2 number 4095 pos))) = (full pos).filter fun a => decide (a ∉ (full pos).take (number - 1)) := by
    unfold full
    rw [List.filter_filter]
    refine List.filter_congr fun a ha => ?_
    have ha4 := List.mem_range.mp ha
    obtain ⟨g1, g2⟩ := lefts_get (a := a) ok hl
    show decide (0 < (setAll pos (leftsOf pos (takes2 number 4095 pos))).getD a 0) = (decide (a ∉ (full pos).take (number - 1)) && decide (0 < pos.getD a 0))
    by_cases hm : a ∈ (takes2 number 4095 pos).map (·.1)
    · have hm' : a ∈ (full pos).take (number - 1) := keys ▸ hm
      have hf : decide (a ∉ (full pos).take (number - 1)) = false := decide_eq_false (fun h => h hm')
      rw [hf, Bool.false_and]
      refine decide_eq_false ?_
      obtain ⟨q, hq, rfl⟩ := List.mem_map.mp hm
      have hq' := hq
      rw [hk] at hq'
      obtain ⟨b, hb, rfl⟩ := List.mem_map.mp hq'
      have hin : (b, (pos.getD b 0 : Int) - ((pos.getD b 0 : Nat) : Int)) ∈ leftsOf pos (takes2 number 4095 pos) := List.mem_map.mpr ⟨_, hq, rfl⟩
      have := setAll_in (leftsOf pos (takes2 number 4095 pos)) pos (by rw [lefts_keys]; exact ok.nd) hin (by show b < _; rw [hl]; exact ha4)
      rw [List.getD_eq_getElem?_getD, this, Option.getD_some]
      omega
    · have hm' : a ∉ (full pos).take (number - 1) := keys ▸ hm
      rw [decide_eq_true hm', Bool.true_and, g2 hm]
  unfold nz at hbig ⊢
  rw [e]
  have hnd := full_nd pos
  generalize full pos = l at hbig hnd ⊢
  have hsplit : l.filter (fun a => decide (a ∉ l.take (number - 1))) = l.drop (number - 1) := by
    have h1 : l.filter (fun a => decide (a ∉ l.take (number - 1))) = (l.take (number - 1) ++ l.drop (number - 1)).filter (fun a => decide (a ∉ l.take (number - 1))) := by rw [List.take_append_drop]
    rw [h1, List.filter_append]
    have h2 : (l.take (number - 1)).filter (fun a => decide (a ∉ l.take (number - 1))) = [] := List.filter_eq_nil_iff.mpr fun a ha => by simp [ha]
    have h3 : (l.drop (number - 1)).filter (fun a => decide (a ∉ l.take (number - 1))) = l.drop (number - 1) := List.filter_eq_self.mpr fun a ha => decide_eq_true fun hb => by
      have : (l.take (number - 1) ++ l.drop (number - 1)).Nodup := by rw [List.take_append_drop]; exact hnd
      rw [List.nodup_append] at this
      exact this.2.2 a hb a ha rfl
    rw [h2, h3]; rfl
  rw [hsplit, List.length_drop]
  omega
end SR
end
section
open PySem PySem.W PyProof.Rows PySem.Calls PySem.Spec LCg
set_option Elab.async false
set_option maxRecDepth 100000
namespace SR
theorem anyAt_self {y₀ : Str} {bm : Str → Option Value} : anyAt y₀ (bm y₀) bm = bm := by
  funext y
  by_cases e : y = y₀
  · subst e; simp [anyAt]
  · simp [anyAt, e]
noncomputable abbrev wishMap (bm : Str → Option Value) (o1 o2 o3 o4 : Option Value) (D : Addr) : Str → Option Value := anyAt (Str.ofString "gone") o1 (anyAt (Str.ofString "takes") o2 (anyAt (Str.ofString "left") o3 (anyAt (Str.ofString "at") o4 (anyAt (Str.ofString "answer") (some (.ref D)) bm))))
/-- where the law stands when a wish is due -/
structure WishOk (number : Nat) (cW cS H Dd ax : Addr) (tup : Obj) (xs : List Addr) (i : Nat) (p89 p96 : Array Value) (o : Obj) (ps : Array Value) (oS : Obj) (vS : Option Value) (Z : Led) (ns : List Nat) (D : Addr) (Ts : List Addr) (vals : Nat → Array Value) : Prop where
  ho : IsTab o ps
  htr : TriplesOk ps.toList
  hS : oS.data = .cell vS
  zok : ZOk [89, 96, 149, cW, cS, H, Dd] p89 p96 Z xs ns
  hn : ns.length = 4
  hs : ∀ n ∈ ns, n ≤ 7
  pr : PrIn D Ts vals Z
  va : ValsOk Ts vals (pairsOf (ansAt number (bitM ns) [2, 1, 0]))
  len : Ts.length = (pairsOf (ansAt number (bitM ns) [2, 1, 0])).length
  tup : (ax, tup) ∈ Z
  i5 : i ≤ 5
  nzs : 2 ≤ i → nz ns + (i - 2) * (number - 1) ≤ 4
noncomputable def WishJ (number : Nat) (cW cS H Dd ax : Addr) (tup : Obj) (xs : List Addr) (k : Nat) (sD : Array Value) (kD : Nat) (bm : Str → Option Value) (i : Nat) (m₁ : Str → Option Value) (news₁ : Led) : Prop :=
  ∃ p89 p96 o ps oS vS Z ns D Ts vals o1 o2 o3 o4, news₁ = (89, tabObj p89) :: (96, tabObj p96) :: (149, o) :: (cS, oS) :: (H, listOf (xs.map Value.ref).toArray k) :: (Dd, listOf sD kD) :: Z ∧ WishOk number cW cS H Dd ax tup xs i p89 p96 o ps oS vS Z ns D Ts vals ∧ m₁ = wishMap bm o1 o2 o3 o4 D
theorem ZOk.add {bad : List Addr} {p89 p96 : Array Value} {Z : Led} {xs : List Addr} {ns : List Nat} {e : Addr × Obj} (h : ZOk bad p89 p96 Z xs ns) (he : e.1 ∉ bad) : ZOk bad p89 p96 (e :: Z) xs ns :=
  ⟨fun p hp => (List.mem_cons.mp hp).elim (fun e => e ▸ he) (h.off p), tabSt_more h.t89 fun p hp => .tail _ hp, tabSt_more h.t96 fun p hp => .tail _ hp, fun i x n h1 h2 => (h.hps i x n h1 h2).mono fun p hp => .tail _ hp⟩
section
variable {prog : Program} {w : World} {A : Around} {E : Value → Shared → Prop} {s : Shared} {h₀ : Heap} {env : Env}
theorem wish_loop {number : Nat} {cW cS H Dd ax : Addr} {oW : Obj} {vW : Option Value} {wv : List Value} {kw : Nat} {wl : List Nat} {xs : List Addr} {k : Nat} {sD : Array Value} {kD : Nat} {bm m₀ : Str → Option Value} {px : Pos} {x : Str} {body : List Stmt} {R : Result → Shared → Prop}
    {p89 p96 : Array Value} {o : Obj} {ps : Array Value} {oS : Obj} {vS : Option Value} {Z : Led} {ns : List Nat} {D : Addr} {Ts : List Addr} {vals : Nat → Array Value} {o1 o2 o3 o4 : Option Value}
    (hh : A.handled = none) (hk : env.scope.kind = .function) (hl : env.kindOf x = some .cell) (hcl : env.cells.lookup x = some cW) (F : Fr h₀ env.locals s.heap m₀) (hm : m₀ = wishMap bm o1 o2 o3 o4 D)
    (N : News h₀ env.locals s.heap ((ax, ({ cls := .type "tuple", data := .seq wv.toArray kw } : Obj)) :: (89, tabObj p89) :: (96, tabObj p96) :: (149, o) :: (cW, oW) :: (cS, oS) :: (H, listOf (xs.map Value.ref).toArray k) :: (Dd, listOf sD kD) :: Z)) (hW : oW.data = .cell vW) (hv : IntsAre wv (natZ wl)) (h6 : wl.length = 6) (hw : ∀ i w, wl[i]? = some w → 2 ≤ i → w = 4095)
    (hax : ax ∉ [89, 96, 149, cW, cS, H, Dd]) (nd : ∀ q ∈ [89, 96, 149, cS, H, Dd], q ≠ cW) (hG : AllBare s.gens)
    (ok : WishOk number cW cS H Dd ax { cls := .type "tuple", data := .seq wv.toArray kw } xs 0 p89 p96 o ps oS vS ((ax, ({ cls := .type "tuple", data := .seq wv.toArray kw } : Obj)) :: Z) ns D Ts vals)
    (turn : ∀ (I : Addr) (i wish : Nat) (t : Tok) oI oW p89 p96 o ps oS vS Z ns D Ts vals o1 o2 o3 o4 h tk g (E' : Value → Shared → Prop), (2 ≤ i → wish = 4095) → oW.data = .cell (some (.int (wish : Nat) t)) → WishOk number cW cS H Dd ax { cls := .type "tuple", data := .seq wv.toArray kw } xs i p89 p96 o ps oS vS ((I, oI) :: Z) ns D Ts vals → (∀ q ∈ Z, q.1 ≠ I) → PrIn D Ts vals Z → I ∉ [89, 96, 149, cW, cS, H, Dd] → IterO oI →
      Fr h₀ env.locals h (wishMap bm o1 o2 o3 o4 D) → News h₀ env.locals h ((89, tabObj p89) :: (96, tabObj p96) :: (149, o) :: (cW, oW) :: (cS, oS) :: (H, listOf (xs.map Value.ref).toArray k) :: (Dd, listOf sD kD) :: (I, oI) :: Z) → AllBare g →
      wpAny (model prog w) A (execs body env) (TurnEndC h₀ env.locals s I oI cW (TupIn ax wv.toArray) (WishJ number cW cS H Dd ax { cls := .type "tuple", data := .seq wv.toArray kw } xs k sD kD bm (i + 1)) R) E' { s with heap := h, toks := tk, gens := g }) :
    wpAny (model prog w) A (pyIter (.ref ax)) (fun it s₂ => codeAny (model prog w) A (.forLoop (.Name x px) it body [] env) R s₂) E s := by
  subst hm
  have hsz : wv.toArray.size = 6 := by simp [hv.length, h6]
  refine for_tupC (news₀ := (89, tabObj p89) :: (96, tabObj p96) :: (149, o) :: (cS, oS) :: (H, listOf (xs.map Value.ref).toArray k) :: (Dd, listOf sD kD) :: (ax, ({ cls := .type "tuple", data := .seq wv.toArray kw } : Obj)) :: Z)
    (WishJ number cW cS H Dd ax { cls := .type "tuple", data := .seq wv.toArray kw } xs k sD kD bm) hh hk hl hcl ⟨_, .tail _ (.tail _ (.tail _ (.tail _ (.tail _ (.tail _ (.head _)))))), rfl, _, rfl⟩ F (cb_drop N pm1) hW ?_ hG ⟨p89, p96, o, ps, oS, vS, _, ns, D, Ts, vals, o1, o2, o3, o4, rfl, ok, rfl⟩ ?_ ?_
  · exact fc (nd 89 (.head _)) (fc (nd 96 (.tail _ (.head _))) (fc (nd 149 (.tail _ (.tail _ (.head _)))) (fc (nd cS (.tail _ (.tail _ (.tail _ (.head _))))) (fc (nd H (.tail _ (.tail _ (.tail _ (.tail _ (.head _)))))) (fc (nd Dd (.tail _ (.tail _ (.tail _ (.tail _ (.tail _ (.head _))))))) (fc (fun e => hax (e ▸ .tail _ (.tail _ (.tail _ (.head _))))) fun p hp e => ok.zok.off p (.tail _ hp) (e ▸ .tail _ (.tail _ (.tail _ (.head _))))))))))
  · rintro m₁ news₁ oc c h tk g ⟨p89, p96, o, ps, oS, vS, Z, ns, D, Ts, vals, o1, o2, o3, o4, rfl, ok, rfl⟩ _ _ _ _ _
    have := ok.i5
    omega
  · rintro I hI i v m₁ news₁ oI oc h tk g E' hi ⟨p89, p96, o, ps, oS, vS, Z, ns, D, Ts, vals, o1, o2, o3, o4, rfl, ok, rfl⟩ hd F' N' off hIc G' hS hIO
    obtain ⟨z, t, rfl, hz⟩ := IntsAre.at hv i v (by simpa using hi)
    obtain ⟨wish, hwi, rfl⟩ : ∃ wish, wl[i]? = some wish ∧ z = (wish : Int) := by
      rw [natZ, List.getElem?_map] at hz
      cases e : wl[i]? with
      | none => rw [e] at hz; cases hz
      | some q => rw [e] at hz; exact ⟨q, rfl, (Option.some.inj hz).symm⟩
    have hIb : I ∉ [89, 96, 149, cW, cS, H, Dd] := nin7 (off (89, tabObj p89) (.head _)).1 (off (96, tabObj p96) (.tail _ (.head _))).1 (off (149, o) (.tail _ (.tail _ (.head _)))).1 (Ne.symm hIc) (off (cS, oS) (.tail _ (.tail _ (.tail _ (.head _))))).1 (off (H, _) (.tail _ (.tail _ (.tail _ (.tail _ (.head _)))))).1 (off (Dd, _) (.tail _ (.tail _ (.tail _ (.tail _ (.tail _ (.head _))))))).1
    exact turn I i wish t oI oc p89 p96 o ps oS vS Z ns D Ts vals o1 o2 o3 o4 h tk g E' (hw i wish hwi) hd ⟨ok.ho, ok.htr, ok.hS, ok.zok.add hIb, ok.hn, ok.hs, ok.pr.mono fun p hp => .tail _ hp, ok.va, ok.len, .tail _ ok.tup, ok.i5, ok.nzs⟩ (fun q hq => (off q (.tail _ (.tail _ (.tail _ (.tail _ (.tail _ (.tail _ hq))))))).1) ok.pr hIb hIO F' (cb_drop N' pm2) G'
end
theorem wish_map0 {bm : Str → Option Value} {D : Addr} : (fun y => if y = Str.ofString "answer" then some (Value.ref D) else bm y) = wishMap bm (bm (Str.ofString "gone")) (bm (Str.ofString "takes")) (bm (Str.ofString "left")) (bm (Str.ofString "at")) D := by
  have n1 : ¬ (Str.ofString "answer" = Str.ofString "gone") := by decide +kernel
  have n2 : ¬ (Str.ofString "answer" = Str.ofString "takes") := by decide +kernel
  have n3 : ¬ (Str.ofString "answer" = Str.ofString "left") := by decide +kernel
  have n4 : ¬ (Str.ofString "answer" = Str.ofString "at") := by decide +kernel
  funext y
  by_cases a : y = Str.ofString "answer"
  · subst a
    simp only [wishMap, anyAt, if_neg n1, if_neg n2, if_neg n3, if_neg n4, if_true]
  · simp only [wishMap, anyAt, if_neg a]
    split
    · next h => rw [h]
    · split
      · next h => rw [h]
      · split
        · next h => rw [h]
        · split
          · next h => rw [h]
          · rfl
theorem wishes_of (dl : List Nat) : ∃ wl : List Nat, wl.length = 6 ∧ natZ wl = [(natZ dl).getD (Int.toNat 5) 0, (natZ dl).getD (Int.toNat 6) 0, 4095, 4095, 4095, 4095] ∧ ∀ i w, wl[i]? = some w → 2 ≤ i → w = 4095 := by
  have h5 : 0 ≤ (natZ dl).getD (Int.toNat 5) 0 := natZ_nonneg
  have h6 : 0 ≤ (natZ dl).getD (Int.toNat 6) 0 := natZ_nonneg
  generalize (natZ dl).getD (Int.toNat 5) 0 = a at h5 ⊢
  generalize (natZ dl).getD (Int.toNat 6) 0 = b at h6 ⊢
  refine ⟨[a.toNat, b.toNat, 4095, 4095, 4095, 4095], rfl, ?_, ?_⟩
  · show [((a.toNat : Nat) : Int), ((b.toNat : Nat) : Int), 4095, 4095, 4095, 4095] = _
    rw [Int.toNat_of_nonneg h5, Int.toNat_of_nonneg h6]
  · intro i w h hi
    rcases i with _ | _ | _ | _ | _ | _ | i
    · exact absurd hi (by decide)
    · exact absurd hi (by decide)
    iterate 4 (cases h; rfl)
    cases h
theorem hax_of {ax cW cS H Dd : Addr} {Z : Led} (h : 89 < ax ∧ 96 < ax ∧ 149 < ax ∧ cW < ax ∧ cS < ax ∧ H < ax ∧ Dd < ax ∧ AllLt ax Z) : ax ∉ [89, 96, 149, cW, cS, H, Dd] := by
  intro hb
  simp only [List.mem_cons, List.not_mem_nil, or_false] at hb
  obtain ⟨h1, h2, h3, h4, h5, h6, h7, _⟩ := h
  rcases hb with e | e | e | e | e | e | e
  · exact Nat.ne_of_gt h1 e
  · exact Nat.ne_of_gt h2 e
  · exact Nat.ne_of_gt h3 e
  · exact Nat.ne_of_gt h4 e
  · exact Nat.ne_of_gt h5 e
  · exact Nat.ne_of_gt h6 e
  · exact Nat.ne_of_gt h7 e
theorem wish_nd {cW cS H Dd : Addr} (nd : ∀ q ∈ [cW, cS, H, Dd], q ≠ 89 ∧ q ≠ 96 ∧ q ≠ 149) (x : (@Ne Nat cS cW) ∧ (@Ne Nat H cW) ∧ (@Ne Nat Dd cW)) : ∀ q ∈ [89, 96, 149, cS, H, Dd], q ≠ cW := by
  intro q hq
  obtain ⟨n1, n2, n3⟩ := nd cW (by simp)
  simp only [List.mem_cons, List.not_mem_nil, or_false] at hq
  rcases hq with rfl | rfl | rfl | rfl | rfl | rfl
  · exact Ne.symm n1
  · exact Ne.symm n2
  · exact Ne.symm n3
  · exact x.1
  · exact x.2.1
  · exact x.2.2
end SR
end
section
open PySem PySem.W PyProof.Rows PySem.Calls PySem.Spec LCg
set_option Elab.async false
set_option maxRecDepth 100000
namespace SR
noncomputable abbrev LawL (p89 p96 : Array Value) (o : Obj) (cW : Addr) (oW : Obj) (cS : Addr) (oS : Obj) (H : Addr) (xs : List Addr) (k : Nat) (Dd : Addr) (sD : Array Value) (kD : Nat) (Z : Led) : Led :=
  (89, tabObj p89) :: (96, tabObj p96) :: (149, o) :: (cW, oW) :: (cS, oS) :: (H, listOf (xs.map Value.ref).toArray k) :: (Dd, listOf sD kD) :: Z
theorem ZOk.drop {h₀ h : Heap} {L I : Addr} {oI : Obj} {bad : List Addr} {p89 p96 : Array Value} {Z : Led} {xs : List Addr} {ns : List Nat} (N : News h₀ L h Z) (hm : (I, oI) ∈ Z) (hI : IterO oI) (k : ZOk bad p89 p96 Z xs ns) : ZOk bad p89 p96 (Z.filter fun q => decide (q.1 ≠ I)) xs ns := by
  obtain ⟨l, i, hd⟩ := hI
  have keep : ∀ q ∈ Z, q.2 ≠ oI → q ∈ Z.filter fun q => decide (q.1 ≠ I) := fun q hq hne => List.mem_filter.mpr ⟨hq, decide_eq_true (ne_of_obj N (a := q.1) (o := q.2) hq hm hne)⟩
  have tab : ∀ {line col : Nat} {qn : Str} {pz : Array Value}, TabSt line col qn Z pz → TabSt line col qn (Z.filter fun q => decide (q.1 ≠ I)) pz := by
    intro line col qn pz ht
    rcases ht with ht | ⟨c', oc, vs, t', h1, h2, h3, h4⟩
    · exact .inl ht
    · refine .inr ⟨c', oc, vs, t', h1, keep _ h2 ?_, h3, h4⟩
      intro e
      have e' : oc = oI := e
      rw [e', hd] at h3
      cases h3
      simp at h4
  refine ⟨fun p hp => k.off p (List.mem_filter.mp hp).1, tab k.t89, tab k.t96, fun j x n h1 h2 => ?_⟩
  obtain ⟨d, hsh, t1, t2, ep, pcs, q1, q2, q3, q4⟩ := k.hps j x n h1 h2
  exact ⟨d, hsh, t1, t2, ep, pcs, keep _ q1 (by intro e; have := congrArg Obj.data e; rw [hd] at this; cases this), keep _ q2 (by intro e; have := congrArg Obj.data e; rw [hd] at this; cases this), fun q hq => keep _ (q3 q hq) (by intro e; have := congrArg Obj.data e; rw [hd] at this; cases this), q4⟩
theorem ZOk.tail_it {h₀ h : Heap} {L I : Addr} {oI : Obj} {bad : List Addr} {p89 p96 : Array Value} {Z : Led} {xs : List Addr} {ns : List Nat} (k : ZOk bad p89 p96 Z xs ns) (he : I ∉ bad) : ZOk bad p89 p96 ((I, oI) :: Z) xs ns := k.add he
theorem ZOk.xs_in {bad : List Addr} {p89 p96 : Array Value} {Z : Led} {xs : List Addr} {ns : List Nat} (k : ZOk bad p89 p96 Z xs ns) (hl : xs.length = ns.length) {x : Addr} (hx : x ∈ xs) : ∃ o, (x, o) ∈ Z ∧ o.cls = .ref 180 := by
  obtain ⟨j, hj⟩ := List.getElem?_of_mem hx
  have hlt : j < xs.length := by
    rcases Nat.lt_or_ge j xs.length with h | h
    · exact h
    · rw [List.getElem?_eq_none h] at hj; cases hj
  obtain ⟨d, hsh, t1, t2, ep, pcs, q1, q2, q3, q4⟩ := k.hps j x _ hj (List.getElem?_eq_getElem (hl ▸ hlt))
  exact ⟨_, q1, rfl⟩
noncomputable def TkJ (bad : List Addr) (f : Nat × Int → Nat × Int) (xa xb : Str) (bm : Str → Option Value) (p89 p96 : Array Value) (o : Obj) (cW : Addr) (oW : Obj) (cS : Addr) (oS : Obj) (H : Addr) (xs : List Addr) (k : Nat) (Dd : Addr) (sD : Array Value) (kD : Nat) (Z : Led) (ns : List Nat) (prs : List (Nat × Int)) (i : Nat) (m : Str → Option Value) (news : Led) : Prop :=
  ∃ Z' o1 o2, news = LawL p89 p96 o cW oW cS oS H xs k Dd sD kD Z' ∧ ZOk bad p89 p96 Z' xs (setAll ns ((prs.take i).map f)) ∧ (∀ q ∈ Z, (q.1 ∉ xs ∨ q.2.cls ≠ .ref 180) → q ∈ Z') ∧ m = anyAt xb o1 (anyAt xa o2 bm)
section
variable {prog : Program} {w : World} {A : Around} {E : Value → Shared → Prop} {s : Shared} {h₀ : Heap} {env : Env}
theorem sub_refL {value slice : PySem.Expr} {D r : Addr} {rs : List Addr} {k : Nat} {L : Addr} {news : Led} {i : Nat} {u : Tok} {Q : Value → Shared → Prop} (N : News h₀ L s.heap news) (hm : (D, listOf (rs.map Value.ref).toArray k) ∈ news) (hi : rs[i]? = some r) (hl : i < 4) (h : Q (.ref r) s)
    (hs : subscripted slice false (.ref D) (.int (i : Nat) u) = operate [.ref D, .int (i : Nat) u] (getItem (.ref D) (.int (i : Nat) u)) := by with_unfolding_all rfl) : wpAny (model prog w) A (subscriptTail value slice (.ref D) (.int (i : Nat) u)) Q E s := by
  refine item_listR (items := (rs.map Value.ref).toArray) ⟨_, (N _ hm).1, rfl, _, rfl⟩ (by omega) (by omega) (x := .ref r) ?_ h hs
  rw [Int.toNat_natCast]
  simp [hi]
theorem takes_loop {cW cS H Dd : Addr} {p89 p96 : Array Value} {o oW oS : Obj} {xs : List Addr} {k : Nat} {sD : Array Value} {kD : Nat} {Z : Led} {ns : List Nat} {f : Nat × Int → Nat × Int} {xa xb : Str} {pa pb pt : Pos} {kt : Nat} {body : List Stmt} {R : Result → Shared → Prop} {D₀ : Addr} {Ts : List Addr} {prs : List (Nat × Int)} {vals : Nat → Array Value} {bm : Str → Option Value}
    (hh : A.handled = none) (hs : PrIn D₀ Ts vals Z) (hvals : ValsOk Ts vals prs) (hlen : Ts.length = prs.length) (hxl : xs.length = ns.length) (hxa : env.kindOf xa = some .local) (hxb : env.kindOf xb = some .local) (hp : (env.scope.kind == .class || (env.scope.kind == .module && env.locals != env.globals)) = false) (hab : xa ≠ xb)
    (F : Fr h₀ env.locals s.heap bm) (N : News h₀ env.locals s.heap (LawL p89 p96 o cW oW cS oS H xs k Dd sD kD Z)) (hG : AllBare s.gens) (hZ : ZOk [89, 96, 149, cW, cS, H, Dd] p89 p96 Z xs ns)
    (turn : ∀ (I : Addr) oI (i a : Nat) v ta tv Z' h tk g (E' : Value → Shared → Prop) (Q : Flow → Shared → Prop), prs[i]? = some (a, v) → ZOk [89, 96, 149, cW, cS, H, Dd] p89 p96 ((I, oI) :: Z') xs (setAll ns ((prs.take i).map f)) → (∀ q ∈ Z, (q.1 ∉ xs ∨ q.2.cls ≠ .ref 180) → q ∈ Z') →
      Blk (∀ Z'' h' tk' g', Fr h₀ env.locals h' (anyAt xb (some (.int v tv)) (anyAt xa (some (.int (a : Nat) ta)) bm)) → News h₀ env.locals h' (LawL p89 p96 o cW oW cS oS H xs k Dd sD kD Z'') → AllBare g' → ZOk [89, 96, 149, cW, cS, H, Dd] p89 p96 Z'' xs (setAll ns ((prs.take (i + 1)).map f)) → (∀ q ∈ (I, oI) :: Z', (q.1 ∉ xs ∨ q.2.cls ≠ .ref 180) → q ∈ Z'') → Q .next { s with heap := h', toks := tk', gens := g' }) →
      Fr h₀ env.locals h (anyAt xb (some (.int v tv)) (anyAt xa (some (.int (a : Nat) ta)) bm)) → News h₀ env.locals h (LawL p89 p96 o cW oW cS oS H xs k Dd sD kD ((I, oI) :: Z')) → AllBare g →
      wpAny (model prog w) A (execs body env) Q E' { s with heap := h, toks := tk, gens := g })
    (done : ∀ Z' o1 o2 h tk g, ZOk [89, 96, 149, cW, cS, H, Dd] p89 p96 Z' xs (setAll ns (prs.map f)) → (∀ q ∈ Z, (q.1 ∉ xs ∨ q.2.cls ≠ .ref 180) → q ∈ Z') → Fr h₀ env.locals h (anyAt xb o1 (anyAt xa o2 bm)) → News h₀ env.locals h (LawL p89 p96 o cW oW cS oS H xs k Dd sD kD Z') → AllBare g → R (.ok .next) { s with heap := h, toks := tk, gens := g }) :
    wpAny (model prog w) A (pyIter (.ref D₀)) (fun it s₂ => codeAny (model prog w) A (.forLoop (.Tuple [.Name xa pa, .Name xb pb] kt pt) it body [] env) R s₂) E s := by
  refine for_pairs (TkJ [89, 96, 149, cW, cS, H, Dd] f xa xb bm p89 p96 o cW oW cS oS H xs k Dd sD kD Z ns prs) hh (hs.mono fun p hp => .tail _ (.tail _ (.tail _ (.tail _ (.tail _ (.tail _ (.tail _ hp))))))) hvals hxa hxb hp F N hG ⟨Z, bm xb, bm xa, rfl, hZ, fun q hq _ => hq, ?_⟩ ?_ ?_
  · rw [anyAt_self, anyAt_self]
  · rintro m₁ news₁ h tk g ⟨Z', o1, o2, rfl, hZ', hk, rfl⟩ F' N' G'
    rw [hlen, List.take_length] at hZ'
    exact done Z' o1 o2 h tk g hZ' hk F' N' G'
  · rintro I oI i a v ta tv m₁ news₁ h tk g E' hi ⟨Z', o1, o2, rfl, hZ', hk, rfl⟩ F' N' off G' hS hIO
    have hoff : ∀ q ∈ Z', q.1 ≠ I := fun q hq => off q (.tail _ (.tail _ (.tail _ (.tail _ (.tail _ (.tail _ (.tail _ hq)))))))
    have hIb : I ∉ [89, 96, 149, cW, cS, H, Dd] := nin7 (off (89, tabObj p89) (.head _)) (off (96, tabObj p96) (.tail _ (.head _))) (off (149, o) (.tail _ (.tail _ (.head _)))) (off (cW, oW) (.tail _ (.tail _ (.tail _ (.head _))))) (off (cS, oS) (.tail _ (.tail _ (.tail _ (.tail _ (.head _)))))) (off (H, _) (.tail _ (.tail _ (.tail _ (.tail _ (.tail _ (.head _))))))) (off (Dd, _) (.tail _ (.tail _ (.tail _ (.tail _ (.tail _ (.tail _ (.head _))))))))
    have hbI : ∀ a ∈ [89, 96, 149, cW, cS, H, Dd], a ≠ I := fun a ha e => hIb (e ▸ ha)
    have hIx : I ∉ xs := fun h => by
      obtain ⟨ox, h1, _⟩ := hZ'.xs_in (by rw [hxl]; exact (setAll_len _ _).symm) h
      exact hoff _ h1 rfl
    have em : (fun y => if y = xb then some (Value.int v tv) else if y = xa then some (.int (a : Nat) ta) else anyAt xb o1 (anyAt xa o2 bm) y) = anyAt xb (some (.int v tv)) (anyAt xa (some (.int (a : Nat) ta)) bm) := by
      funext y
      by_cases e : y = xb
      · simp [anyAt, e]
      · by_cases e' : y = xa
        · simp [anyAt, e']
        · simp [anyAt, e, e']
    rw [em] at F'
    refine turn I oI i a v ta tv Z' h tk g E' _ hi (hZ'.add hIb) hk ?_ F' (cb_drop N' pm3) G'
    · intro Z'' h' tk' g' F'' N'' G'' hZ'' hk'
      have hIm := hk' (I, oI) (.head _) (.inl hIx)
      have NZ : News h₀ env.locals h' Z'' := cb_drop N'' fun q hq => .tail _ (.tail _ (.tail _ (.tail _ (.tail _ (.tail _ (.tail _ hq))))))
      have kk : ∀ q ∈ Z, (q.1 ∉ xs ∨ q.2.cls ≠ .ref 180) → q ∈ Z''.filter fun q => decide (q.1 ≠ I) := fun q hq hc => List.mem_filter.mpr ⟨hk' q (.tail _ (hk q hq hc)) hc, decide_eq_true (hoff q (hk q hq hc))⟩
      refine ⟨h', tk', g', _, LawL p89 p96 o cW oW cS oS H xs k Dd sD kD (Z''.filter fun q => decide (q.1 ≠ I)), rfl, F'', fun q hq => ?_, fun q hq => ?_, G'', ?_, ?_⟩
      · rcases List.mem_cons.mp hq with rfl | hq
        · exact NZ _ hIm
        · exact N'' q (fc (p := fun q => q ∈ LawL p89 p96 o cW oW cS oS H xs k Dd sD kD Z'') (.head _) (fc (.tail _ (.head _)) (fc (.tail _ (.tail _ (.head _))) (fc (.tail _ (.tail _ (.tail _ (.head _)))) (fc (.tail _ (.tail _ (.tail _ (.tail _ (.head _))))) (fc (.tail _ (.tail _ (.tail _ (.tail _ (.tail _ (.head _)))))) (fc (.tail _ (.tail _ (.tail _ (.tail _ (.tail _ (.tail _ (.head _))))))) fun q hq => .tail _ (.tail _ (.tail _ (.tail _ (.tail _ (.tail _ (.tail _ (List.mem_filter.mp hq).1)))))))))))) q hq)
      · exact fc (p := fun q : Addr × Obj => q.1 ≠ I) (hbI _ (.head _)) (fc (hbI _ (.tail _ (.head _))) (fc (hbI _ (.tail _ (.tail _ (.head _)))) (fc (hbI _ (.tail _ (.tail _ (.tail _ (.head _))))) (fc (hbI _ (.tail _ (.tail _ (.tail _ (.tail _ (.head _)))))) (fc (hbI _ (.tail _ (.tail _ (.tail _ (.tail _ (.tail _ (.head _))))))) (fc (hbI _ (.tail _ (.tail _ (.tail _ (.tail _ (.tail _ (.tail _ (.head _)))))))) fun q hq => of_decide_eq_true (List.mem_filter.mp hq).2)))))) q hq
      · refine PrIn.mono (news := Z''.filter fun q => decide (q.1 ≠ I)) ?_ fun p hp => .tail _ (.tail _ (.tail _ (.tail _ (.tail _ (.tail _ (.tail _ hp))))))
        obtain ⟨⟨n, h1⟩, h2⟩ := hs
        exact ⟨⟨n, kk _ h1 (.inr (by intro e; cases e))⟩, fun j T hj => kk _ (h2 j T hj) (.inr (by intro e; cases e))⟩
      · exact ⟨_, _, _, rfl, hZ''.drop NZ hIm hIO, kk, rfl⟩
end
theorem wish_absorb {bm : Str → Option Value} {o1 o2 o3 o4 a b : Option Value} {D : Addr} : anyAt (Str.ofString "left") a (anyAt (Str.ofString "at") b (wishMap bm o1 o2 o3 o4 D)) = wishMap bm o1 o2 a b D := by
  have n1 : ¬ (Str.ofString "left" = Str.ofString "gone") := by decide +kernel
  have n2 : ¬ (Str.ofString "left" = Str.ofString "takes") := by decide +kernel
  have n3 : ¬ (Str.ofString "at" = Str.ofString "gone") := by decide +kernel
  have n4 : ¬ (Str.ofString "at" = Str.ofString "takes") := by decide +kernel
  have n5 : ¬ (Str.ofString "left" = Str.ofString "at") := by decide +kernel
  funext y
  simp only [wishMap, anyAt]
  by_cases e1 : y = Str.ofString "left"
  · subst e1; simp only [if_neg n1, if_neg n2, if_true]
  · by_cases e2 : y = Str.ofString "at"
    · subst e2; simp only [if_neg e1, if_neg n3, if_neg n4, if_true]
    · simp only [if_neg e1, if_neg e2]
theorem wish_absorb2 {bm : Str → Option Value} {o1 o2 o3 o4 a b : Option Value} {D : Addr} : anyAt (Str.ofString "gone") a (anyAt (Str.ofString "at") b (wishMap bm o1 o2 o3 o4 D)) = wishMap bm a o2 o3 b D := by
  have n1 : ¬ (Str.ofString "gone" = Str.ofString "takes") := by decide +kernel
  have n3 : ¬ (Str.ofString "at" = Str.ofString "gone") := by decide +kernel
  have n4 : ¬ (Str.ofString "at" = Str.ofString "takes") := by decide +kernel
  have n5 : ¬ (Str.ofString "at" = Str.ofString "left") := by decide +kernel
  funext y
  simp only [wishMap, anyAt]
  by_cases e1 : y = Str.ofString "gone"
  · subst e1; simp only [if_true]
  · by_cases e2 : y = Str.ofString "at"
    · subst e2; simp only [if_neg e1, if_neg n4, if_neg n5, if_true]
    · simp only [if_neg e1, if_neg e2]
end SR
end
section
open PySem PySem.W PyProof.Rows PySem.Calls PySem.Spec LCg
set_option Elab.async false
set_option maxRecDepth 100000
namespace SR
theorem setAll_snoc (ns : List Nat) (l : List (Nat × Int)) (q : Nat × Int) : setAll ns (l ++ [q]) = (setAll ns l).set q.1 q.2.toNat := by
  unfold setAll
  rw [List.foldl_append]
  rfl
theorem take_snoc {α : Type} {l : List α} {i : Nat} {q : α} (h : l[i]? = some q) : l.take (i + 1) = l.take i ++ [q] := by
  rw [List.take_succ, h]
  rfl
theorem at_prefix {tk : List (Nat × Int)} {i a : Nat} {v : Int} (h : tk[i]? = some (a, v)) (nd : (tk.map (·.1)).Nodup) : a ∉ (tk.take i).map (·.1) := by
  intro hm
  have e : tk = tk.take i ++ tk.drop i := (List.take_append_drop i tk).symm
  have hd : (a, v) ∈ tk.drop i := by
    have : (tk.drop i)[0]? = some (a, v) := by rw [List.getElem?_drop]; exact h
    exact List.mem_of_getElem? this
  rw [e, List.map_append, List.nodup_append] at nd
  exact nd.2.2 a hm a (List.mem_map.mpr ⟨(a, v), hd, rfl⟩) rfl
section
variable {prog : Program} {w : World} {A : Around} {E : Value → Shared → Prop} {s : Shared} {h₀ : Heap} {env : Env}
variable {cW cS H Dd : Addr} {p89 p96 : Array Value} {o oW oS : Obj} {xs : List Addr} {k : Nat} {sD : Array Value} {kD : Nat} {Z : Led} {ns : List Nat} {xa xb : Str} {pa pb pt : Pos} {kt : Nat} {body : List Stmt} {R : Result → Shared → Prop} {D₀ : Addr} {Ts : List Addr} {vals : Nat → Array Value} {bm : Str → Option Value} {number : Nat}
/-- the loop of the answer's takes -/
theorem takes_loop1 (hh : A.handled = none) (hs : PrIn D₀ Ts vals Z) (hvals : ValsOk Ts vals (pairsOf (ansAt number (bitM ns) [2, 1, 0]))) (hlen : Ts.length = (pairsOf (ansAt number (bitM ns) [2, 1, 0])).length) (hx : xs.length = 4) (hn : ns.length = 4) (h7 : ∀ n ∈ ns, n ≤ 7) (a1 : 2 ≤ number) (a2 : number ≤ 4) (hxa : env.kindOf xa = some .local) (hxb : env.kindOf xb = some .local) (hp : (env.scope.kind == .class || (env.scope.kind == .module && env.locals != env.globals)) = false) (hab : xa ≠ xb)
    (F : Fr h₀ env.locals s.heap bm) (N : News h₀ env.locals s.heap (LawL p89 p96 o cW oW cS oS H xs k Dd sD kD Z)) (hG : AllBare s.gens) (hZ : ZOk [89, 96, 149, cW, cS, H, Dd] p89 p96 Z xs ns)
    (turn : ∀ (I : Addr) oI (a l n : Nat) (x : Addr) ta tv Z' cur h tk g (E' : Value → Shared → Prop) (Q : Flow → Shared → Prop), a < 4 → xs[a]? = some x → cur[a]? = some n → l < n → n ≤ 7 → ZOk [89, 96, 149, cW, cS, H, Dd] p89 p96 ((I, oI) :: Z') xs cur →
      Blk (∀ Z'' h' tk' g', Fr h₀ env.locals h' (anyAt xb (some (.int (l : Nat) tv)) (anyAt xa (some (.int (a : Nat) ta)) bm)) → News h₀ env.locals h' (LawL p89 p96 o cW oW cS oS H xs k Dd sD kD Z'') → AllBare g' → ZOk [89, 96, 149, cW, cS, H, Dd] p89 p96 Z'' xs (cur.set a l) → (∀ q ∈ (I, oI) :: Z', (q.1 ≠ x ∨ q.2.cls ≠ .ref 180) → q ∈ Z'') → Q .next { s with heap := h', toks := tk', gens := g' }) →
      Fr h₀ env.locals h (anyAt xb (some (.int (l : Nat) tv)) (anyAt xa (some (.int (a : Nat) ta)) bm)) → News h₀ env.locals h (LawL p89 p96 o cW oW cS oS H xs k Dd sD kD ((I, oI) :: Z')) → AllBare g →
      wpAny (model prog w) A (execs body env) Q E' { s with heap := h, toks := tk, gens := g })
    (done : ∀ Z' o1 o2 h tk g, ZOk [89, 96, 149, cW, cS, H, Dd] p89 p96 Z' xs (setAll ns (pairsOf (ansAt number (bitM ns) [2, 1, 0]))) → (∀ q ∈ Z, (q.1 ∉ xs ∨ q.2.cls ≠ .ref 180) → q ∈ Z') → Fr h₀ env.locals h (anyAt xb o1 (anyAt xa o2 bm)) → News h₀ env.locals h (LawL p89 p96 o cW oW cS oS H xs k Dd sD kD Z') → AllBare g → R (.ok .next) { s with heap := h, toks := tk, gens := g }) :
    wpAny (model prog w) A (pyIter (.ref D₀)) (fun it s₂ => codeAny (model prog w) A (.forLoop (.Tuple [.Name xa pa, .Name xb pb] kt pt) it body [] env) R s₂) E s := by
  refine takes_loop (f := id) hh hs hvals hlen (hx.trans hn.symm) hxa hxb hp hab F N hG hZ ?_ ?_
  · intro I oI i a v ta tv Z' h tk g E' Q hi hZ' hkZ back F' N' G'
    obtain ⟨n, q1, q2, q3, q4, q5⟩ := law_P2 hn h7 a1 a2 hi
    obtain ⟨x, hx'⟩ : ∃ x, xs[a]? = some x := ⟨xs[a], List.getElem?_eq_getElem (by omega)⟩
    obtain ⟨l, rfl⟩ : ∃ l : Nat, v = (l : Nat) := ⟨v.toNat, q2⟩
    rw [Int.toNat_natCast] at q3
    rw [List.map_id] at hZ'
    refine turn I oI a l n x ta tv Z' _ h tk g E' Q q5 hx' q1 q3 q4 hZ' ?_ F' N' G'
    intro Z'' h' tk' g' F'' N'' G'' hZ'' hk'
    refine back Z'' h' tk' g' F'' N'' G'' ?_ fun q hq hc => hk' q hq (hc.imp (fun h e => h (e ▸ List.mem_of_getElem? hx')) id)
    rw [List.map_id, take_snoc hi, setAll_snoc]
    exact hZ''
  · intro Z' o1 o2 h tk g hZ' hk F' N' G'
    rw [List.map_id] at hZ'
    exact done Z' o1 o2 h tk g hZ' hk F' N' G'
/-- the loop of the other player's takes -/
theorem takes_loop2 {tk₀ : List (Nat × Int)} (hh : A.handled = none) (hs : PrIn D₀ Ts vals Z) (hvals : ValsOk Ts vals tk₀) (hlen : Ts.length = tk₀.length) (ok : TkOk number ns tk₀) (hx : xs.length = 4) (hn : ns.length = 4) (h7 : ∀ n ∈ ns, n ≤ 7) (hxa : env.kindOf xa = some .local) (hxb : env.kindOf xb = some .local) (hp : (env.scope.kind == .class || (env.scope.kind == .module && env.locals != env.globals)) = false) (hab : xa ≠ xb)
    (F : Fr h₀ env.locals s.heap bm) (N : News h₀ env.locals s.heap (LawL p89 p96 o cW oW cS oS H xs k Dd sD kD Z)) (hG : AllBare s.gens) (hZ : ZOk [89, 96, 149, cW, cS, H, Dd] p89 p96 Z xs ns)
    (turn : ∀ (I : Addr) oI (a c n : Nat) (x : Addr) ta tv Z' cur h tk g (E' : Value → Shared → Prop) (Q : Flow → Shared → Prop), a < 4 → xs[a]? = some x → ns.getD a 0 = n → cur[a]? = some n → 1 ≤ c → c ≤ n → n ≤ 7 → ZOk [89, 96, 149, cW, cS, H, Dd] p89 p96 ((I, oI) :: Z') xs cur → (∀ q ∈ Z, (q.1 ∉ xs ∨ q.2.cls ≠ .ref 180) → q ∈ Z') →
      Blk (∀ Z'' h' tk' g', Fr h₀ env.locals h' (anyAt xb (some (.int (c : Nat) tv)) (anyAt xa (some (.int (a : Nat) ta)) bm)) → News h₀ env.locals h' (LawL p89 p96 o cW oW cS oS H xs k Dd sD kD Z'') → AllBare g' → ZOk [89, 96, 149, cW, cS, H, Dd] p89 p96 Z'' xs (cur.set a (n - c)) → (∀ q ∈ (I, oI) :: Z', (q.1 ≠ x ∨ q.2.cls ≠ .ref 180) → q ∈ Z'') → Q .next { s with heap := h', toks := tk', gens := g' }) →
      Fr h₀ env.locals h (anyAt xb (some (.int (c : Nat) tv)) (anyAt xa (some (.int (a : Nat) ta)) bm)) → News h₀ env.locals h (LawL p89 p96 o cW oW cS oS H xs k Dd sD kD ((I, oI) :: Z')) → AllBare g →
      wpAny (model prog w) A (execs body env) Q E' { s with heap := h, toks := tk, gens := g })
    (done : ∀ Z' o1 o2 h tk g, ZOk [89, 96, 149, cW, cS, H, Dd] p89 p96 Z' xs (setAll ns (leftsOf ns tk₀)) → (∀ q ∈ Z, (q.1 ∉ xs ∨ q.2.cls ≠ .ref 180) → q ∈ Z') → Fr h₀ env.locals h (anyAt xb o1 (anyAt xa o2 bm)) → News h₀ env.locals h (LawL p89 p96 o cW oW cS oS H xs k Dd sD kD Z') → AllBare g → R (.ok .next) { s with heap := h, toks := tk, gens := g }) :
    wpAny (model prog w) A (pyIter (.ref D₀)) (fun it s₂ => codeAny (model prog w) A (.forLoop (.Tuple [.Name xa pa, .Name xb pb] kt pt) it body [] env) R s₂) E s := by
  refine takes_loop (f := fun q => (q.1, (ns.getD q.1 0 : Int) - q.2)) hh hs hvals hlen (hx.trans hn.symm) hxa hxb hp hab F N hG hZ ?_ done
  intro I oI i a v ta tv Z' h tk g E' Q hi hZ' hkZ back F' N' G'
  obtain ⟨q1, q2, q3⟩ := ok.lt _ (List.mem_of_getElem? hi)
  have q1' : a < 4 := q1
  have q2' : 1 ≤ v := q2
  have q3' : v ≤ (ns.getD a 0 : Int) := q3
  obtain ⟨x, hx'⟩ : ∃ x, xs[a]? = some x := ⟨xs[a], List.getElem?_eq_getElem (by omega)⟩
  obtain ⟨c, rfl⟩ : ∃ c : Nat, v = (c : Nat) := ⟨v.toNat, (Int.toNat_of_nonneg (by omega)).symm⟩
  have hcur : (setAll ns ((tk₀.take i).map fun q => (q.1, (ns.getD q.1 0 : Int) - q.2)))[a]? = some (ns.getD a 0) := by
    rw [setAll_out _ _ (by rw [List.map_map]; exact at_prefix hi ok.nd), List.getD_eq_getElem?_getD, List.getElem?_eq_getElem (by omega)]
    rfl
  refine turn I oI a c _ x ta tv Z' _ h tk g E' Q q1' hx' rfl hcur (by omega) (by omega) (getD_le7 h7 a) hZ' hkZ ?_ F' N' G'
  intro Z'' h' tk' g' F'' N'' G'' hZ'' hk'
  refine back Z'' h' tk' g' F'' N'' G'' ?_ fun q hq hc => hk' q hq (hc.imp (fun h e => h (e ▸ List.mem_of_getElem? hx')) id)
  rw [take_snoc hi, List.map_append, List.map_cons, List.map_nil, setAll_snoc]
  have e : ((ns.getD a 0 : Int) - (c : Nat)).toNat = ns.getD a 0 - c := by omega
  show ZOk _ _ _ _ _ (List.set _ a ((ns.getD a 0 : Int) - (c : Nat)).toNat)
  rw [e]
  exact hZ''
end
/-! a comprehension that makes pairs -/
noncomputable def TupJ (base : Led) (W : List (Nat × Int)) (ys : List Value) (news₁ : Led) : Prop :=
  ∃ Ts X, ys = Ts.map Value.ref ∧ Ts.length = W.length ∧ PairsAre X Ts W ∧ (∀ p ∈ X, ∀ q ∈ base, p.1 ≠ q.1) ∧ news₁ = X ++ base
theorem PairsAre.nil {X : Led} {W : List (Nat × Int)} : PairsAre X [] W := fun j T h => by simp at h
theorem PairsAre.snoc {X X' : Led} {Ts : List Addr} {W : List (Nat × Int)} {T : Addr} {a : Nat} {v : Int} {t t' : Tok} (h : PairsAre X Ts W) (sub : ∀ p ∈ X, p ∈ X') (hT : (T, tupO [.int (a : Nat) t, .int v t']) ∈ X') (hl : Ts.length = W.length) : PairsAre X' (Ts ++ [T]) (W ++ [(a, v)]) := by
  intro j T' hj
  rcases Nat.lt_trichotomy j Ts.length with hlt | he | hgt
  · rw [List.getElem?_append_left hlt] at hj
    obtain ⟨a', v', s, s', h1, h2⟩ := h j T' hj
    exact ⟨a', v', s, s', by rw [List.getElem?_append_left (hl ▸ hlt)]; exact h1, sub _ h2⟩
  · subst he
    rw [List.getElem?_append_right (Nat.le_refl _), Nat.sub_self] at hj
    cases hj
    exact ⟨a, v, t, t', by rw [hl, List.getElem?_append_right (Nat.le_refl _), Nat.sub_self]; rfl, hT⟩
  · rw [List.getElem?_eq_none (by simp; omega)] at hj
    cases hj
theorem PairsAre.take {X : Led} {Ts : List Addr} {W : List (Nat × Int)} (h : PairsAre X Ts W) (n : Nat) : PairsAre X (Ts.take n) (W.take n) := by
  intro j T hj
  rcases Nat.lt_or_ge j n with hlt | hge
  · rw [List.getElem?_take_of_lt hlt] at hj
    obtain ⟨a, v, s, s', h1, h2⟩ := h j T hj
    exact ⟨a, v, s, s', by rw [List.getElem?_take_of_lt hlt]; exact h1, h2⟩
  · rw [List.getElem?_take, if_neg (by omega)] at hj
    cases hj
section
variable {prog : Program} {w : World} {A : Around} {E : Value → Shared → Prop} {s : Shared} {h₀ : Heap} {L : Addr} {m : Str → Option Value} {env : Env}
theorem tup_add {h' : Heap} {I C D T : Addr} {oI oC : Obj} {Ts : List Addr} {W W' : List (Nat × Int)} {a : Nat} {v : Int} {t t' : Tok} {X base all : Led} {S : Led → Prop} {tk : Nat} {g : Array GenState} (F : Fr h₀ L h' m) (N : News h₀ L h' all)
    (sub : ∀ p ∈ (I, oI) :: (C, oC) :: (D, lst (Ts.map Value.ref)) :: (T, tupO [.int (a : Nat) t, .int v t']) :: (X ++ base), p ∈ all) (off : ∀ p ∈ X ++ base, p.1 ≠ I ∧ p.1 ≠ C ∧ p.1 ≠ D) (hG : AllBare g) (hl : Ts.length = W.length) (hp : PairsAre X Ts W) (hX : ∀ p ∈ X, ∀ q ∈ base, p.1 ≠ q.1)
    (hT : ∀ p ∈ (I, oI) :: (C, oC) :: (D, lst (Ts.map Value.ref)) :: (X ++ base), p.1 < T) (hW : W' = W ++ [(a, v)]) (hS : S ((T, tupO [.int (a : Nat) t, .int v t']) :: (X ++ base))) :
    CompEndO h₀ L m s I oI C D (Ts.map Value.ref) S (fun y news' => TupJ base W' (Ts.map Value.ref ++ [y]) news') oC (.ref T) { s with heap := h', toks := tk, gens := g } := by
  subst hW
  refine CompEndO.intro F N ((T, tupO [.int (a : Nat) t, .int v t']) :: (X ++ base)) sub (fun p hp => ?_) hG hS ⟨Ts ++ [T], (T, tupO [.int (a : Nat) t, .int v t']) :: X, by simp, by simp [hl], hp.snoc (fun p hp => .tail _ hp) (.head _) hl, fun p hp q hq => ?_, rfl⟩
  · rcases List.mem_cons.mp hp with rfl | hp
    · exact ⟨Nat.ne_of_gt (hT _ (.head _)), Nat.ne_of_gt (hT _ (.tail _ (.head _))), Nat.ne_of_gt (hT _ (.tail _ (.tail _ (.head _))))⟩
    · exact off p hp
  · rcases List.mem_cons.mp hp with rfl | hp
    · exact Nat.ne_of_gt (hT q (.tail _ (.tail _ (.tail _ (List.mem_append_right _ hq)))))
    · exact hX p hp q hq
theorem tup_skip {h' : Heap} {I C D : Addr} {oI oC : Obj} {Ts : List Addr} {W W' : List (Nat × Int)} {X base all : Led} {S : Led → Prop} {y : Value} {tk : Nat} {g : Array GenState} (F : Fr h₀ L h' m) (N : News h₀ L h' all)
    (sub : ∀ p ∈ (I, oI) :: (C, oC) :: (D, lst (Ts.map Value.ref)) :: (X ++ base), p ∈ all) (off : ∀ p ∈ X ++ base, p.1 ≠ I ∧ p.1 ≠ C ∧ p.1 ≠ D) (hG : AllBare g) (hl : Ts.length = W.length) (hp : PairsAre X Ts W) (hX : ∀ p ∈ X, ∀ q ∈ base, p.1 ≠ q.1)
    (hW : W' = W) (hS : S (X ++ base)) :
    CompEndO h₀ L m s I oI C D (Ts.map Value.ref) S (fun _ news' => TupJ base W' (Ts.map Value.ref) news') oC y { s with heap := h', toks := tk, gens := g } := by
  subst hW
  exact CompEndO.intro F N (X ++ base) sub off hG hS ⟨Ts, X, rfl, hl, hp, hX, rfl⟩
theorem tup_range (W : Nat → List (Nat × Int)) {mm : Addr → Str → Option Value} {elt : PySem.Expr} {x : Str} {ifs : List PySem.Expr} {scope : Scope} {cl : List (Str × Addr)} {Q' : Addr → Shared → Prop} {r : Addr} {t u v : Tok} {n : Nat} {b : Int} {base : Led}
    (hh : A.handled = none) (F : Fr h₀ L s.heap m) (N : News h₀ L s.heap base) (hG : AllBare s.gens) (hr : IsRange s.heap r 0 b 1 t u v) (hb : b = (n : Nat)) (hn : n ≤ 1000) (hW : W 0 = [])
    (turn : ∀ (I C D : Addr) (i : Nat) t Ts X oI oC m₂ h tk gg (E' : Value → Shared → Prop), i < n → Ts.length = (W i).length → PairsAre X Ts (W i) → (∀ p ∈ X, ∀ q ∈ base, p.1 ≠ q.1) → NsObj oC m₂ → m₂ x = some (.int (i : Nat) t) → Fr h₀ L h m → News h₀ L h ((I, oI) :: (C, oC) :: (D, lst (Ts.map Value.ref)) :: (X ++ base)) → (∀ p ∈ X ++ base, p.1 ≠ I ∧ p.1 ≠ C ∧ p.1 ≠ D) → ((@Ne Nat I C) ∧ (@Ne Nat I D) ∧ (@Ne Nat C D)) → AllBare gg →
      wpAny (model prog w) A (testsOf ifs (compEnvC scope cl C env)) (fun ok s' => if ok = true then
        wpAny (model prog w) A (eval elt (compEnvC scope cl C env)) (CompEndO h₀ L m s I oI C D (Ts.map Value.ref) (fun _ => True) (fun y news' => TupJ base (W (i + 1)) (Ts.map Value.ref ++ [y]) news') oC) E' s'
        else CompEndO h₀ L m s I oI C D (Ts.map Value.ref) (fun _ => True) (fun _ news' => TupJ base (W (i + 1)) (Ts.map Value.ref) news') oC .none s') E' { s with heap := h, toks := tk, gens := gg })
    (done : ∀ D Ts X h tk gg, Ts.length = (W n).length → PairsAre X Ts (W n) → (∀ p ∈ X, ∀ q ∈ base, p.1 ≠ q.1) → Fr h₀ L h (mm D) → News h₀ L h ((D, lst (Ts.map Value.ref)) :: (X ++ base)) → (∀ p ∈ X ++ base, p.1 ≠ D) → AllBare gg → Q' D { s with heap := h, toks := tk, gens := gg }) :
    SrcO prog w A h₀ L m mm env elt x ifs scope cl Q' (.ref r) s := by
  subst hb
  refine SrcO.range (n := n) hh F N hG hr (small_one (by omega) (by omega) (by omega) (by omega)) (by rw [rangeSize_nat]; congr 1) (by rw [sizeLine_eq]; omega) (fun i ys news₁ => TupJ base (W i) ys news₁) ⟨[], [], rfl, by rw [hW]; rfl, .nil, (fun _ h => nomatch h), rfl⟩ ?_ ?_
  · rintro I hI i v ys news₁ oI C oC D m₂ h tk gg E' hi hyl ⟨t, rfl⟩ ⟨Ts, X, rfl, hl, hp, hX, rfl⟩ hoC hm F' N' off ne hG' hS'
    rw [Int.zero_add] at hm
    exact turn I C D i t Ts X oI oC m₂ h tk gg E' hi hl hp hX hoC hm F' N' off ne hG'
  · rintro D ys news' h tk gg ⟨Ts, X, rfl, hl, hp, hX, rfl⟩ F' N' off hG'
    exact done D Ts X h tk gg hl hp hX F' N' off hG'
theorem tup_pairs (W : Nat → List (Nat × Int)) {mm : Addr → Str → Option Value} {elt c : PySem.Expr} {xa xb : Str} {scope : Scope} {cl : List (Str × Addr)} {Q' : Addr → Shared → Prop} {D₀ : Addr} {Ts₀ : List Addr} {prs : List (Nat × Int)} {vals : Nat → Array Value} {base : Led}
    (hh : A.handled = none) (F : Fr h₀ L s.heap m) (N : News h₀ L s.heap base) (hG : AllBare s.gens) (hs : PrIn D₀ Ts₀ vals base) (hvals : ValsOk Ts₀ vals prs) (hl : Ts₀.length ≤ 1000) (hW : W 0 = [])
    (turn : ∀ (I C D : Addr) (i a : Nat) v ta tv Ts X oI oC m₂ h tk gg (E' : Value → Shared → Prop), prs[i]? = some (a, v) → Ts.length = (W i).length → PairsAre X Ts (W i) → (∀ p ∈ X, ∀ q ∈ base, p.1 ≠ q.1) → NsObj oC m₂ → m₂ xa = some (.int (a : Nat) ta) → m₂ xb = some (.int v tv) → Fr h₀ L h m → News h₀ L h ((I, oI) :: (C, oC) :: (D, lst (Ts.map Value.ref)) :: (X ++ base)) → (∀ p ∈ X ++ base, p.1 ≠ I ∧ p.1 ≠ C ∧ p.1 ≠ D) → ((@Ne Nat I C) ∧ (@Ne Nat I D) ∧ (@Ne Nat C D)) → AllBare gg →
      wpAny (model prog w) A (isTrue c (compEnvC scope cl C env) (eval c (compEnvC scope cl C env))) (fun ok s' => if ok = true then
        wpAny (model prog w) A (eval elt (compEnvC scope cl C env)) (CompEndO h₀ L m s I oI C D (Ts.map Value.ref) (PrIn D₀ Ts₀ vals) (fun y news' => TupJ base (W (i + 1)) (Ts.map Value.ref ++ [y]) news') oC) E' s'
        else CompEndO h₀ L m s I oI C D (Ts.map Value.ref) (PrIn D₀ Ts₀ vals) (fun _ news' => TupJ base (W (i + 1)) (Ts.map Value.ref) news') oC .none s') E' { s with heap := h, toks := tk, gens := gg })
    (done : ∀ D Ts X h tk gg, Ts.length = (W Ts₀.length).length → PairsAre X Ts (W Ts₀.length) → (∀ p ∈ X, ∀ q ∈ base, p.1 ≠ q.1) → Fr h₀ L h (mm D) → News h₀ L h ((D, lst (Ts.map Value.ref)) :: (X ++ base)) → (∀ p ∈ X ++ base, p.1 ≠ D) → AllBare gg → Q' D { s with heap := h, toks := tk, gens := gg }) :
    SrcOT prog w A h₀ L m mm env elt c xa xb scope cl Q' (.ref D₀) s := by
  refine SrcOT.pairs hh F N hG hs hvals hl (fun i ys news₁ => TupJ base (W i) ys news₁) ⟨[], [], rfl, by rw [hW]; rfl, .nil, (fun _ h => nomatch h), rfl⟩ ?_ ?_
  · rintro i a v ta tv ys news₁ I oI C oC D m₂ h tk gg E' hi hyl ⟨Ts, X, rfl, hl, hp, hX, rfl⟩ hoC ha hb F' N' off ne hG' hS'
    exact turn I C D i a v ta tv Ts X oI oC m₂ h tk gg E' hi hl hp hX hoC ha hb F' N' off ne hG'
  · rintro D ys news' h tk gg ⟨Ts, X, rfl, hl, hp, hX, rfl⟩ F' N' off hG'
    exact done D Ts X h tk gg hl hp hX F' N' off hG'
end
theorem slice_upto {vs : List Value} {y : Int} (h : 0 ≤ y) : (slicePick vs.toArray none (some y) none).toList = vs.take y.toNat := by
  have e : sliceBounds none (some y) none vs.toArray.size = (((0 : Nat) : Int), ((min y.toNat vs.toArray.size : Nat) : Int), 1) := by
    simp only [sliceBounds, Option.getD_none, show (1 : Int) > 0 by decide, if_true, if_neg (show ¬ (y < 0) by omega)]
    congr 1
    congr 1
    generalize vs.toArray.size = s
    rcases Int.le_total y s with h' | h'
    · rw [Int.min_eq_left h', Nat.min_eq_left (Int.toNat_le.mpr h'), Int.max_eq_right h, Int.toNat_of_nonneg h]
    · have h2 := Int.toNat_le_toNat h'
      rw [Int.toNat_natCast] at h2
      rw [Int.min_eq_right h', Nat.min_eq_right h2, Int.max_eq_right (Int.natCast_nonneg _)]
  rw [kmk_pick_nat _ e]
  show (vs.drop 0).take (min y.toNat vs.toArray.size - 0) = _
  rw [List.drop_zero, Nat.sub_zero, List.size_toArray, kmk_take_min]
end SR
end
section
open PySem PySem.W PyProof.Rows PySem.Calls PySem.Spec LCg
set_option Elab.async false
set_option maxRecDepth 100000
namespace SR
section
variable {w : World} {p : Program} {loose : List Str} {mean : ExcName → Option Value} {mg mb : Str → Option Value} {dp un : Nat} {gd : Option (List Code)} {cn : Str} {cs : Scope} {a : Addr} {ccd : Value} {cl : List (Str × Addr)} {outer : List Env} {A₀ : Around} {base h₀ : Heap} {L : Addr} {m : Str → Option Value} {s : Shared} {Q E : Value → Shared → Prop}
  {p89 p96 : Array Value} {o : Obj} {ps : Array Value} {cW cS H Dd : Addr} {oW oS : Obj} {vW vS : Option Value} {sD : Array Value} {kD k : Nat} {xs : List Addr} {ns : List Nat} {Z : Led} {number : Nat} {tnu : Tok}
/-- the first tell -/
theorem told_first {tabs spare : Nat} {tta tsp : Tok} (B : Below A₀ base outer h₀) (F : Fr h₀ L s.heap m) (X : (SR.hm.heap_1 w.params).In h₀) (N : News h₀ L s.heap ((89, tabObj p89) :: (96, tabObj p96) :: (149, o) :: (cW, oW) :: (cS, oS) :: (H, listOf (xs.map Value.ref).toArray k) :: (Dd, listOf sD kD) :: Z)) (T : Top p loose mean mg mb h₀) (hk : cs.kind = .function) (hG : AllBare s.gens) (hd : dp + 100 < recursionLimit) (hu : un + 400 < cLine)
    (ho : IsTab o ps) (htr : TriplesOk ps.toList) (nd : ∀ q ∈ [cW, cS, H, Dd], q ≠ 89 ∧ q ≠ 96 ∧ q ≠ 149) (Zk : ZOk [89, 96, 149, cW, cS, H, Dd] p89 p96 Z xs ns) (hx : xs.length = 4) (hn : ns.length = 4) (hs : ∀ n ∈ ns, n ≤ 7) (a1 : 2 ≤ number) (a2 : number ≤ 4) (a3 : tabs ≤ 2) (a4 : spare ≤ 2)
    (ret : ∀ o' ps' h' tk g, Fr h₀ L h' m → News h₀ L h' ((89, tabObj p89) :: (96, tabObj p96) :: (149, o') :: (cW, oW) :: (cS, oS) :: (H, listOf (xs.map Value.ref).toArray k) :: (Dd, listOf sD kD) :: Z) → AllBare g → IsTab o' ps' → TriplesOk ps'.toList → Q (.bool true) { s with heap := h', toks := tk, gens := g }) :
    wpAny (model PySem.Challenge.rw_sr0056_01.row.prog w) (ktrTop dp un gd cn cs L a ccd cl outer) (call (.ref 189) [.ref H, .int (number : Nat) tnu, .int (tabs : Nat) tta, .int (spare : Nat) tsp, .bool (decide (pairsOf (ansAt number (bitM ns) [2, 1, 0]) = []))]) Q E s := by
  refine told_call B F X N T hk hG hd hu ho htr nd Zk hx hn hs a1 a2 a3 a4 fun o' ps' h' tk g F' N' G' ho' htr' => ?_
  rw [law_P1 hn hs a1 a2, beq_self_eq_true]
  exact ret o' ps' h' tk g F' N' G' ho' htr'
/-- the tells after the answer's takes -/
theorem told_again {tabs spare : Nat} {tta tsp : Tok} (B : Below A₀ base outer h₀) (F : Fr h₀ L s.heap m) (X : (SR.hm.heap_1 w.params).In h₀) (N : News h₀ L s.heap ((89, tabObj p89) :: (96, tabObj p96) :: (149, o) :: (cW, oW) :: (cS, oS) :: (H, listOf (xs.map Value.ref).toArray k) :: (Dd, listOf sD kD) :: Z)) (T : Top p loose mean mg mb h₀) (hk : cs.kind = .function) (hG : AllBare s.gens) (hd : dp + 100 < recursionLimit) (hu : un + 400 < cLine)
    (ho : IsTab o ps) (htr : TriplesOk ps.toList) (nd : ∀ q ∈ [cW, cS, H, Dd], q ≠ 89 ∧ q ≠ 96 ∧ q ≠ 149) (Zk : ZOk [89, 96, 149, cW, cS, H, Dd] p89 p96 Z xs ns) (hx : xs.length = 4) (hn : ns.length = 4) (hs : ∀ n ∈ ns, n ≤ 7) (a1 : 2 ≤ number) (a2 : number ≤ 4) (a3 : tabs ≤ 2) (a4 : spare ≤ 2) (hz : decide ([1, 2, 4].map (colZ ns number) = [0, 0, 0]) = true)
    (ret : ∀ o' ps' h' tk g, Fr h₀ L h' m → News h₀ L h' ((89, tabObj p89) :: (96, tabObj p96) :: (149, o') :: (cW, oW) :: (cS, oS) :: (H, listOf (xs.map Value.ref).toArray k) :: (Dd, listOf sD kD) :: Z) → AllBare g → IsTab o' ps' → TriplesOk ps'.toList → Q (.bool true) { s with heap := h', toks := tk, gens := g }) :
    wpAny (model PySem.Challenge.rw_sr0056_01.row.prog w) (ktrTop dp un gd cn cs L a ccd cl outer) (call (.ref 189) [.ref H, .int (number : Nat) tnu, .int (tabs : Nat) tta, .int (spare : Nat) tsp, .bool true]) Q E s := by
  refine told_call B F X N T hk hG hd hu ho htr nd Zk hx hn hs a1 a2 a3 a4 fun o' ps' h' tk g F' N' G' ho' htr' => ?_
  rw [hz]
  exact ret o' ps' h' tk g F' N' G' ho' htr'
/-- a take that takes something -/
theorem take_true {x : Addr} {j n left : Nat} {z : Int} {t : Tok} (B : Below A₀ base outer h₀) (F : Fr h₀ L s.heap m) (X : (SR.hm.heap_1 w.params).In h₀) (N : News h₀ L s.heap ((89, tabObj p89) :: (96, tabObj p96) :: (149, o) :: (cW, oW) :: (cS, oS) :: (H, listOf (xs.map Value.ref).toArray k) :: (Dd, listOf sD kD) :: Z)) (T : Top p loose mean mg mb h₀) (hk : cs.kind = .function) (hG : AllBare s.gens) (hd : dp + 40 < recursionLimit) (hu : un + 200 < cLine)
    (ho : IsTab o ps) (hW : oW.data = .cell vW) (hS : oS.data = .cell vS) (Zk : ZOk [89, 96, 149, cW, cS, H, Dd] p89 p96 Z xs ns) (hnd : xs.Nodup) (hxj : xs[j]? = some x) (hnj : ns[j]? = some n) (hn7 : n ≤ 7) (hleft : left < n) (hz : z = (left : Nat))
    (ret : ∀ Z' h' tk g, Fr h₀ L h' m → News h₀ L h' ((89, tabObj p89) :: (96, tabObj p96) :: (149, o) :: (cW, oW) :: (cS, oS) :: (H, listOf (xs.map Value.ref).toArray k) :: (Dd, listOf sD kD) :: Z') → AllBare g → ZOk [89, 96, 149, cW, cS, H, Dd] p89 p96 Z' xs (ns.set j left) → (∀ q ∈ Z, (q.1 ≠ x ∨ q.2.cls ≠ .ref 180) → q ∈ Z') → Q (.bool true) { s with heap := h', toks := tk, gens := g }) :
    wpAny (model PySem.Challenge.rw_sr0056_01.row.prog w) (ktrTop dp un gd cn cs L a ccd cl outer) (call (.ref 199) [.ref x, .int z t]) Q E s := by
  subst hz
  refine take_call B F X N T hk hG hd hu ho hW hS Zk hnd hxj hnj (by omega) (Nat.le_of_lt hleft) fun Z' h' tk g F' N' G' Zk' keep => ?_
  rw [decide_eq_true hleft]
  exact ret Z' h' tk g F' N' G' Zk' keep
end
theorem law_neS {h₀ h : Heap} {L H D Dd cW cS : Addr} {oH oD' oDd oW oS t1 t2 t3 : Obj} {Z : Led} (_N : News h₀ L h ((H, oH) :: (Z ++ (D, oD') :: (Dd, oDd) :: (cS, oS) :: (cW, oW) :: (96, t1) :: (89, t2) :: (149, t3) :: []))) (x : (@Ne Nat 89 cS) ∧ (@Ne Nat 96 cS) ∧ (@Ne Nat 149 cS) ∧ (@Ne Nat cW cS) ∧ (@Ne Nat H cS) ∧ (@Ne Nat Dd cS)) : (@Ne Nat 89 cS) ∧ (@Ne Nat 96 cS) ∧ (@Ne Nat 149 cS) ∧ (@Ne Nat cW cS) ∧ (@Ne Nat H cS) ∧ (@Ne Nat Dd cS) := x
theorem law_tailS {cW cS H Dd : Addr} {oH oD : Obj} {p89 p96 : Array Value} {Z : Led} {xs : List Addr} {ns : List Nat} (Zk : ZOk [89, 96, 149, cW, cS, H, Dd] p89 p96 Z xs ns) (x : (@Ne Nat 89 cS) ∧ (@Ne Nat 96 cS) ∧ (@Ne Nat 149 cS) ∧ (@Ne Nat cW cS) ∧ (@Ne Nat H cS) ∧ (@Ne Nat Dd cS)) : ∀ p ∈ (H, oH) :: (Dd, oD) :: Z, p.1 ≠ cS := by
  intro p hp
  rcases List.mem_cons.mp hp with rfl | hp
  · exact x.2.2.2.2.1
  rcases List.mem_cons.mp hp with rfl | hp
  · exact x.2.2.2.2.2
  · exact fun e => Zk.off p hp (by rw [e]; simp)
end SR
end
section
open PySem PySem.W PyProof.Rows PySem.Calls PySem.Spec LCg
set_option Elab.async false
set_option maxRecDepth 100000
namespace SR
/-- how the law must end -/
structure LawGood (s₁ : Shared) (tabs : List (Addr × Addr)) (r : Result) (s' : Shared) : Prop where
  res : r = .ok (.ret (.bool true))
  keep : ∀ b o, (ghostOf s₁.heap tabs).get? b = some o → s'.heap.get? b = some o
  os : s'.os = s₁.os
  gens : AllBare s'.gens
  grown : GrownAll tabs s'.heap
theorem law_postG {M : Model} {A : Around} {cd : Code} {s s₁ : Shared} {cw : ClaimW} {cl : Str → Option Addr} {mean : ExcName → Option Value} {args : List WData} {tabs : List (Addr × Addr)} (hT : TabsAt tabs s₁.heap) (hr : ∀ a x, cw.raises a x = false) (hp : cw.post args (.bool true) args = true)
    (h : codeAny M A cd (LawGood s₁ tabs) s) : codeAny M A cd (GoodWG cw cl mean args s₁) s :=
  codeAny_mono h fun r s' ⟨hres, hk, hos, hg, hgr⟩ => by
    have keep : ∀ b o, b ∉ tabs.map (·.2) → s₁.heap.get? b = some o → s'.heap.get? b = some o := fun b o hb e => hk b o (ghost_ne e hb)
    have grown : ∀ b o, b ∈ tabs.map (·.2) → s₁.heap.get? b = some o → isCodeTable s₁.heap b ∧ o = tabObj #[] ∧ ∃ ps, s'.heap.get? b = some (tabObj ps) := fun b o hb e => by
      obtain ⟨q, hq, rfl⟩ := List.mem_map.mp hb
      have e2 := (hT q hq).2
      rw [e] at e2
      exact ⟨((hT q hq).1.tab (hT q hq).2).isCodeTable, Option.some.inj e2, hgr.get q hq⟩
    refine ⟨.inl ⟨_, _, _, hres, fun cls => hr args cls, .bool true, hp, fun _ => ⟨List.nodup_nil, fun a ha => nomatch ha⟩⟩, ⟨fun b o e => ?_, fun b o e => ?_⟩, hos, hg⟩
    · by_cases hb : b ∈ tabs.map (·.2)
      · obtain ⟨ht, rfl, ps, hP⟩ := grown b o hb e
        exact .inr (.inl ⟨ht, rfl, #[], ps, rfl, by rw [Array.empty_append]; exact hP⟩)
      · exact .inl (keep b o hb e)
    · by_cases hb : b ∈ tabs.map (·.2)
      · obtain ⟨_, _, ps, hP⟩ := grown b o hb e
        exact ⟨_, hP⟩
      · exact ⟨o, keep b o hb e⟩
theorem law_good {s₁ : Shared} {L : Addr} {h' : Heap} {m : Str → Option Value} {p89 p96 : Array Value} {o : Obj} {ps : Array Value} {tk : Nat} {g : Array GenState} {all : Led} (F : Fr (ghostOf s₁.heap [(100, 96), (93, 89), (153, 149)]) L h' m)
    (N : News (ghostOf s₁.heap [(100, 96), (93, 89), (153, 149)]) L h' all) (h89 : (89, tabObj p89) ∈ all) (h96 : (96, tabObj p96) ∈ all) (h149 : (149, o) ∈ all) (ho : IsTab o ps) (hg : AllBare g) : LawGood s₁ [(100, 96), (93, 89), (153, 149)] (.ok (.ret (.bool true))) { heap := h', gens := g, drawn := s₁.drawn, toks := tk, os := s₁.os } := by
  cases ho.eq
  exact ⟨rfl, F.keep, rfl, hg, GrownAt.of N h96, GrownAt.of N h89, GrownAt.of N h149, trivial⟩
end SR
end
section
open PySem PySem.W PyProof.Rows PySem.Calls PySem.Spec LCg
set_option Elab.async false
set_option maxRecDepth 100000
namespace SR
theorem pow8_facts {i : Nat} (h : i < 4) : ((i : Nat) : Int) ≤ 1000000 ∧ ((8 : Int) ^ ((i : Nat) : Int).toNat ≠ 0) ∧ ((8 : Int) ^ ((i : Nat) : Int).toNat).natAbs.log2 < 9000 := by
  have : i = 0 ∨ i = 1 ∨ i = 2 ∨ i = 3 := by omega
  rcases this with rfl | rfl | rfl | rfl <;> exact ⟨by decide, by decide, by decide⟩
theorem gone_eq {wish i : Nat} (h : i < 4) : (((wish : Nat) : Int).fdiv ((8 : Int) ^ ((i : Nat) : Int).toNat)).fmod 8 = ((wish / 8 ^ i % 8 : Nat) : Int) := by
  have e : (8 : Int) ^ ((i : Nat) : Int).toNat = ((8 ^ i : Nat) : Int) := by
    rw [Int.toNat_natCast, Int.natCast_pow]; rfl
  rw [e, Int.fdiv_eq_ediv_of_nonneg _ (Int.natCast_nonneg _), Int.fmod_eq_emod_of_nonneg _ (by decide)]
  rfl
section
variable {prog : Program} {w : World} {A : Around} {E : Value → Shared → Prop} {s : Shared} {h₀ : Heap} {L : Addr} {m : Str → Option Value} {news : Led}
theorem min_gone {a : Int} {wish i : Nat} {pos : List Nat} {t u : Tok} {Q : Value → Shared → Prop} (hh : A.handled = none) (F : Fr h₀ L s.heap m) (N : News h₀ L s.heap news) (ha : a = ((wish / 8 ^ i % 8 : Nat) : Int))
    (h : ∀ t' h' tk, Fr h₀ L h' m → News h₀ L h' news → Q (.int (goneOf wish pos i : Nat) t') { s with heap := h', toks := tk }) :
    wpAny (model prog w) A (call (.builtin "min") [.int a t, .int ((pos.getD i 0 : Nat) : Int) u]) Q E s := by
  subst ha
  refine min_two_N hh F N fun h' tk F' N' => ?_
  have e : (if ((pos.getD i 0 : Nat) : Int) < ((wish / 8 ^ i % 8 : Nat) : Int) then ((pos.getD i 0 : Nat) : Int) else ((wish / 8 ^ i % 8 : Nat) : Int)) = ((goneOf wish pos i : Nat) : Int) := by
    unfold goneOf
    split
    · rw [Nat.min_eq_right (by omega)]
    · rw [Nat.min_eq_left (by omega)]
  rw [e]
  exact h _ h' tk F' N'
end
theorem tup_front {h₀ h : Heap} {L cW cS D8 : Addr} {i c d : Addr × Obj} {oW oS o8 : Obj} {vW : Option Value} {X base : Led} (N : News h₀ L h (i :: c :: d :: (X ++ base))) (_dW : oW.data = .cell vW) (_dS : oS.data = .cell (some (.ref D8))) (ha : (cW, oW) ∈ base) (hb : (cS, oS) ∈ base) (he : (D8, o8) ∈ base) : News h₀ L h (i :: c :: d :: (cW, oW) :: (cS, oS) :: (D8, o8) :: (X ++ base)) := by
  refine cb_drop N fun p hp => ?_
  simp only [List.mem_cons, List.mem_append] at hp ⊢
  rcases hp with h | h | h | rfl | rfl | rfl | h | h
  · simp [h]
  · simp [h]
  · simp [h]
  · exact .inr (.inr (.inr (.inr ha)))
  · exact .inr (.inr (.inr (.inr hb)))
  · exact .inr (.inr (.inr (.inr he)))
  · simp [h]
  · simp [h]
theorem tup_lt {I C D T a b e : Addr} {oI oC oD : Obj} {l : Led} (h : I < T ∧ C < T ∧ D < T ∧ a < T ∧ b < T ∧ e < T ∧ AllLt T l) : ∀ p ∈ (I, oI) :: (C, oC) :: (D, oD) :: l, p.1 < T := by
  obtain ⟨h1, h2, h3, _, _, _, h4⟩ := h
  intro p hp
  simp only [List.mem_cons] at hp
  rcases hp with rfl | rfl | rfl | hp
  · exact h1
  · exact h2
  · exact h3
  · exact of_allLt h4 p hp
theorem tup_sub {T I C D a b e : Addr × Obj} {l : Led} : ∀ p ∈ I :: C :: D :: T :: l, p ∈ T :: I :: C :: D :: a :: b :: e :: l := by
  intro p hp
  simp only [List.mem_cons] at hp ⊢
  rcases hp with h | h | h | h | h <;> simp [h]
theorem tup_sub' {I C D a b e : Addr × Obj} {l : Led} : ∀ p ∈ I :: C :: D :: l, p ∈ I :: C :: D :: a :: b :: e :: l := by
  intro p hp
  simp only [List.mem_cons] at hp ⊢
  rcases hp with h | h | h | h <;> simp [h]
end SR
end
section
open PySem PySem.W PyProof.Rows PySem.Calls PySem.Spec LCg
set_option Elab.async false
set_option maxRecDepth 100000
namespace SR
section
variable {prog : Program} {w : World} {A : Around} {E : Value → Shared → Prop} {s : Shared} {h₀ h : Heap} {L : Addr} {m : Str → Option Value}
theorem prIn_of {D : Addr} {Ts : List Addr} {X base : Led} {W : List (Nat × Int)} (_N : News h₀ L h ((D, lst (Ts.map Value.ref)) :: (X ++ base))) (hp : PairsAre X Ts W) : ∃ vals, PrIn D Ts vals ((D, lst (Ts.map Value.ref)) :: (X ++ base)) ∧ ValsOk Ts vals W :=
  (hp.mono (X' := (D, lst (Ts.map Value.ref)) :: (X ++ base)) fun p hp => .tail _ (List.mem_append_left _ hp)).prIn (.head _)
theorem tup_lt0 {I C D T : Addr} {oI oC oD : Obj} {l : Led} (h : I < T ∧ C < T ∧ D < T ∧ AllLt T l) : ∀ p ∈ (I, oI) :: (C, oC) :: (D, oD) :: l, p.1 < T := by
  obtain ⟨h1, h2, h3, h4⟩ := h
  intro p hp
  simp only [List.mem_cons] at hp
  rcases hp with rfl | rfl | rfl | hp
  · exact h1
  · exact h2
  · exact h3
  · exact of_allLt h4 p hp
theorem tup_sub0 {T I C D : Addr × Obj} {l : Led} : ∀ p ∈ I :: C :: D :: T :: l, p ∈ T :: I :: C :: D :: l := by
  intro p hp
  simp only [List.mem_cons] at hp ⊢
  rcases hp with h | h | h | h | h <;> simp [h]
theorem slice_refs {Ts : List Addr} {y : Int} {k : Nat} (hy : y = (k : Nat)) : (slicePick (Ts.map Value.ref).toArray none (some y) none).toList = (Ts.take k).map Value.ref := by
  subst hy
  rw [slice_upto (Int.natCast_nonneg _), Int.toNat_natCast, List.map_take]
theorem filt_snoc {α : Type} {l : List α} {P : α → Bool} {i : Nat} {q : α} (h : l[i]? = some q) (hp : P q = true) : (l.take (i + 1)).filter P = (l.take i).filter P ++ [q] := by
  rw [take_snoc h, List.filter_append, List.filter_cons, if_pos hp, List.filter_nil]
theorem filt_same {α : Type} {l : List α} {P : α → Bool} {i : Nat} {q : α} (h : l[i]? = some q) (hp : P q = false) : (l.take (i + 1)).filter P = (l.take i).filter P := by
  rw [take_snoc h, List.filter_append, List.filter_cons, if_neg (by rw [hp]; decide), List.filter_nil, List.append_nil]
theorem rng_snoc {P : Nat → Bool} {i : Nat} (hp : P i = true) : ((List.range (i + 1)).filter P).map (fun a => (a, (1 : Int))) = ((List.range i).filter P).map (fun a => (a, (1 : Int))) ++ [(i, 1)] := by
  rw [List.range_succ, List.filter_append, List.filter_cons, if_pos hp, List.filter_nil, List.map_append]
  rfl
theorem rng_same {P : Nat → Bool} {i : Nat} (hp : P i = false) : ((List.range (i + 1)).filter P).map (fun a => (a, (1 : Int))) = ((List.range i).filter P).map (fun a => (a, (1 : Int))) := by
  rw [List.range_succ, List.filter_append, List.filter_cons, if_neg (by rw [hp]; decide), List.filter_nil, List.append_nil]
theorem bad_in {cW cS H Dd : Addr} {o1 o2 o3 o4 o5 o6 o7 : Obj} {base : Led} (h1 : (89, o1) ∈ base) (h2 : (96, o2) ∈ base) (h3 : (149, o3) ∈ base) (h4 : (cW, o4) ∈ base) (h5 : (cS, o5) ∈ base) (h6 : (H, o6) ∈ base) (h7 : (Dd, o7) ∈ base) : ∀ a ∈ [89, 96, 149, cW, cS, H, Dd], ∃ o, (a, o) ∈ base := by
  intro a ha
  simp only [List.mem_cons, List.not_mem_nil, or_false] at ha
  rcases ha with rfl | rfl | rfl | rfl | rfl | rfl | rfl
  · exact ⟨_, h1⟩
  · exact ⟨_, h2⟩
  · exact ⟨_, h3⟩
  · exact ⟨_, h4⟩
  · exact ⟨_, h5⟩
  · exact ⟨_, h6⟩
  · exact ⟨_, h7⟩
theorem off_lt {bad : List Addr} {base news : Led} {D : Addr} (hb : ∀ a ∈ bad, ∃ o, (a, o) ∈ base) (sub : ∀ p ∈ base, p ∈ news) (l : ∀ p ∈ news, p.1 < D) : D ∉ bad := fun h =>
  let ⟨_, ho⟩ := hb D h; Nat.lt_irrefl _ (l _ (sub _ ho))
theorem off_ne {bad : List Addr} {base news : Led} {D : Addr} (hb : ∀ a ∈ bad, ∃ o, (a, o) ∈ base) (sub : ∀ p ∈ base, p ∈ news) (l : ∀ p ∈ news, p.1 ≠ D) : D ∉ bad := fun h =>
  let ⟨_, ho⟩ := hb D h; l _ (sub _ ho) rfl
theorem takes_zok {bad : List Addr} {p89 p96 : Array Value} {Z X base : Led} {xs : List Addr} {ns : List Nat} {D₀ D8 : Addr} {o1 o2 : Obj} (k : ZOk bad p89 p96 Z xs ns) (hX : ∀ p ∈ X, ∀ q ∈ base, p.1 ≠ q.1) (hb : ∀ a ∈ bad, ∃ o, (a, o) ∈ base) (h0 : D₀ ∉ bad) (h8 : D8 ∉ bad) : ZOk bad p89 p96 ((D₀, o1) :: (D8, o2) :: (X ++ Z)) xs ns := by
  have up : ∀ p ∈ Z, p ∈ (D₀, o1) :: (D8, o2) :: (X ++ Z) := fun p hp => .tail _ (.tail _ (List.mem_append_right _ hp))
  refine ⟨fun p hp => ?_, tabSt_more k.t89 up, tabSt_more k.t96 up, fun i x n h1 h2 => (k.hps i x n h1 h2).mono up⟩
  rcases List.mem_cons.mp hp with rfl | hp
  · exact h0
  rcases List.mem_cons.mp hp with rfl | hp
  · exact h8
  rcases List.mem_append.mp hp with hp | hp
  · intro h
    obtain ⟨o, ho⟩ := hb _ h
    exact hX p hp _ ho rfl
  · exact k.off p hp
theorem law_join {p89 p96 : Array Value} {o oW oS oD oE : Obj} {cW cS H Dd D₀ D8 : Addr} {xs : List Addr} {k : Nat} {sD : Array Value} {kD : Nat} {X Z all : Led} (N : News h₀ L h all) (h1 : (89, tabObj p89) ∈ all) (h2 : (96, tabObj p96) ∈ all) (h3 : (149, o) ∈ all) (h4 : (cW, oW) ∈ all) (h5 : (cS, oS) ∈ all) (h6 : (H, listOf (xs.map Value.ref).toArray k) ∈ all) (h7 : (Dd, listOf sD kD) ∈ all) (h8 : (D₀, oD) ∈ all) (h9 : (D8, oE) ∈ all) (hX : ∀ p ∈ X, p ∈ all) (hZ : ∀ p ∈ Z, p ∈ all) :
    News h₀ L h (LawL p89 p96 o cW oW cS oS H xs k Dd sD kD ((D₀, oD) :: (D8, oE) :: (X ++ Z))) := by
  intro p hp
  simp only [LawL, List.mem_cons, List.mem_append] at hp
  rcases hp with rfl | rfl | rfl | rfl | rfl | rfl | rfl | rfl | rfl | h | h
  · exact N _ h1
  · exact N _ h2
  · exact N _ h3
  · exact N _ h4
  · exact N _ h5
  · exact N _ h6
  · exact N _ h7
  · exact N _ h8
  · exact N _ h9
  · exact N _ (hX _ h)
  · exact N _ (hZ _ h)
theorem eq_nil_b {D D' : Addr} {news : Led} {Ts : List Addr} {prs : List (Nat × Int)} {n k : Nat} {b : Bool} {Q : Value → Shared → Prop} (N : News h₀ L s.heap news) (ha : (D, ({ cls := .type "list", data := .seq (Ts.map Value.ref).toArray n } : Obj)) ∈ news) (hb : (D', ({ cls := .type "list", data := .seq #[] k } : Obj)) ∈ news) (hl : Ts.length = prs.length) (hP : PairsAre news Ts prs) (hu : A.units + 64 < cLine) (hd : decide (prs = []) = b) (h : Q (.bool b) s) :
    wpAny (model prog w) A (compareOp .Eq (.ref D) (.ref D')) Q E s := by
  subst hd
  exact eq_nil N ha hb hl hP hu h
theorem PrIn.drop {D I : Addr} {oI : Obj} {Ts : List Addr} {vals : Nat → Array Value} {Z : Led} (N : News h₀ L h Z) (hm : (I, oI) ∈ Z) (hI : IterO oI) (p : PrIn D Ts vals Z) : PrIn D Ts vals (Z.filter fun q => decide (q.1 ≠ I)) := by
  obtain ⟨l, i, hd⟩ := hI
  have keep : ∀ q ∈ Z, q.2 ≠ oI → q ∈ Z.filter fun q => decide (q.1 ≠ I) := fun q hq hne => List.mem_filter.mpr ⟨hq, decide_eq_true (ne_of_obj N (a := q.1) (o := q.2) hq hm hne)⟩
  obtain ⟨⟨n, h1⟩, h2⟩ := p
  exact ⟨⟨n, keep _ h1 (by intro e; have := congrArg Obj.data e; rw [hd] at this; cases this)⟩, fun j T hj => keep _ (h2 j T hj) (by intro e; have := congrArg Obj.data e; rw [hd] at this; cases this)⟩
theorem wish_end {number i : Nat} {cW cS H Dd ax I : Addr} {oI oW oS : Obj} {vW vS : Option Value} {wv : List Value} {kw : Nat} {xs : List Addr} {k : Nat} {sD : Array Value} {kD : Nat} {bm m' : Str → Option Value} {p89 p96 : Array Value} {o : Obj} {ps : Array Value} {Z : Led} {ns : List Nat} {D : Addr} {Ts : List Addr} {vals : Nat → Array Value} {o1 o2 o3 o4 : Option Value} {s₀ : Shared} {h' : Heap} {tk : Nat} {g : Array GenState} {R : Result → Shared → Prop}
    (F : Fr h₀ L h' m') (hm : m' = wishMap bm o1 o2 o3 o4 D) (N : News h₀ L h' (LawL p89 p96 o cW oW cS oS H xs k Dd sD kD Z)) (hIm : (I, oI) ∈ Z) (hIO : IterO oI) (hIb : I ∉ [89, 96, 149, cW, cS, H, Dd]) (nd : ∀ q ∈ [89, 96, 149, cS, H, Dd], q ≠ cW) (hW : oW.data = .cell vW) (hG : AllBare g)
    (ok : WishOk number cW cS H Dd ax { cls := .type "tuple", data := .seq wv.toArray kw } xs (i + 1) p89 p96 o ps oS vS Z ns D Ts vals) :
    TurnEndC h₀ L s₀ I oI cW (TupIn ax wv.toArray) (WishJ number cW cS H Dd ax { cls := .type "tuple", data := .seq wv.toArray kw } xs k sD kD bm (i + 1)) R .next { s₀ with heap := h', toks := tk, gens := g } := by
  subst hm
  have NZ : News h₀ L h' Z := cb_drop N fun q hq => .tail _ (.tail _ (.tail _ (.tail _ (.tail _ (.tail _ (.tail _ hq))))))
  have tupZ : (ax, ({ cls := .type "tuple", data := .seq wv.toArray kw } : Obj)) ∈ Z.filter fun q => decide (q.1 ≠ I) := List.mem_filter.mpr ⟨ok.tup, decide_eq_true (ne_of_obj NZ ok.tup hIm (by
    obtain ⟨l, j, hd⟩ := hIO
    intro e; have := congrArg Obj.data e; rw [hd] at this; cases this))⟩
  have hI : ∀ a ∈ [89, 96, 149, cW, cS, H, Dd], a ≠ I := fun a ha e => hIb (e ▸ ha)
  have up : ∀ p ∈ Z, p ∈ LawL p89 p96 o cW oW cS oS H xs k Dd sD kD Z := fun p hp => .tail _ (.tail _ (.tail _ (.tail _ (.tail _ (.tail _ (.tail _ hp))))))
  have sub : ∀ p ∈ (I, oI) :: (cW, oW) :: (89, tabObj p89) :: (96, tabObj p96) :: (149, o) :: (cS, oS) :: (H, listOf (xs.map Value.ref).toArray k) :: (Dd, listOf sD kD) :: Z.filter (fun q => decide (q.1 ≠ I)), p ∈ LawL p89 p96 o cW oW cS oS H xs k Dd sD kD Z :=
    fc (up _ hIm) (fc (.tail _ (.tail _ (.tail _ (.head _)))) (fc (.head _) (fc (.tail _ (.head _)) (fc (.tail _ (.tail _ (.head _))) (fc (.tail _ (.tail _ (.tail _ (.tail _ (.head _))))) (fc (.tail _ (.tail _ (.tail _ (.tail _ (.tail _ (.head _)))))) (fc (.tail _ (.tail _ (.tail _ (.tail _ (.tail _ (.tail _ (.head _))))))) fun p hp => up p (List.mem_filter.mp hp).1)))))))
  have off : ∀ p ∈ (89, tabObj p89) :: (96, tabObj p96) :: (149, o) :: (cS, oS) :: (H, listOf (xs.map Value.ref).toArray k) :: (Dd, listOf sD kD) :: Z.filter (fun q => decide (q.1 ≠ I)), p.1 ≠ I ∧ p.1 ≠ cW :=
    fc ⟨hI _ (.head _), nd _ (.head _)⟩ (fc ⟨hI _ (.tail _ (.head _)), nd _ (.tail _ (.head _))⟩ (fc ⟨hI _ (.tail _ (.tail _ (.head _))), nd _ (.tail _ (.tail _ (.head _)))⟩ (fc ⟨hI _ (.tail _ (.tail _ (.tail _ (.tail _ (.head _))))), nd _ (.tail _ (.tail _ (.tail _ (.head _))))⟩ (fc ⟨hI _ (.tail _ (.tail _ (.tail _ (.tail _ (.tail _ (.head _)))))), nd _ (.tail _ (.tail _ (.tail _ (.tail _ (.head _)))))⟩ (fc ⟨hI _ (.tail _ (.tail _ (.tail _ (.tail _ (.tail _ (.tail _ (.head _))))))), nd _ (.tail _ (.tail _ (.tail _ (.tail _ (.tail _ (.head _))))))⟩ fun p hp => ⟨of_decide_eq_true (List.mem_filter.mp hp).2, fun e => ok.zok.off p (List.mem_filter.mp hp).1 (e ▸ .tail _ (.tail _ (.tail _ (.head _))))⟩)))))
  exact TurnEndC.intro F N ((89, tabObj p89) :: (96, tabObj p96) :: (149, o) :: (cS, oS) :: (H, listOf (xs.map Value.ref).toArray k) :: (Dd, listOf sD kD) :: Z.filter fun q => decide (q.1 ≠ I)) sub hW off hG ⟨_, .tail _ (.tail _ (.tail _ (.tail _ (.tail _ (.tail _ tupZ))))), rfl, _, rfl⟩
    ⟨p89, p96, o, ps, oS, vS, _, ns, D, Ts, vals, o1, o2, o3, o4, rfl, ⟨ok.ho, ok.htr, ok.hS, ok.zok.drop NZ hIm hIO, ok.hn, ok.hs, ok.pr.drop NZ hIm hIO, ok.va, ok.len, tupZ, ok.i5, ok.nzs⟩, rfl⟩
end
/-- a heap that has a blank -/
theorem some_full {pos : List Nat} (hl : pos.length = 4) (h : ¬ natZ pos = [0, 0, 0, 0]) : ∃ a, a < 4 ∧ 0 < pos.getD a 0 := by
  obtain ⟨a, b, c, d, rfl⟩ := four_of hl
  by_cases h0 : 0 < a
  · exact ⟨0, by decide, h0⟩
  by_cases h1 : 0 < b
  · exact ⟨1, by decide, h1⟩
  by_cases h2 : 0 < c
  · exact ⟨2, by decide, h2⟩
  by_cases h3 : 0 < d
  · exact ⟨3, by decide, h3⟩
  exfalso
  apply h
  obtain rfl : a = 0 := by omega
  obtain rfl : b = 0 := by omega
  obtain rfl : c = 0 := by omega
  obtain rfl : d = 0 := by omega
  rfl
theorem wish_next {number i wish : Nat} {ns pos : List Nat} (a1 : 2 ≤ number) (a2 : number ≤ 4) (hl : pos.length = 4) (hp : ∀ n ∈ pos, n ≤ 7) (hz : decide ([1, 2, 4].map (colZ pos number) = [0, 0, 0]) = true) (ham : ∀ a, a < 4 → pos.getD a 0 ≤ ns.getD a 0) (hf : ∃ a, a < 4 ∧ 0 < pos.getD a 0) (hw : 2 ≤ i → wish = 4095) (i5 : i ≤ 5) (nzs : 2 ≤ i → nz ns + (i - 2) * (number - 1) ≤ 4) :
    i + 1 ≤ 5 ∧ (2 ≤ i + 1 → nz (setAll pos (leftsOf pos (takesOf number wish pos))) + (i + 1 - 2) * (number - 1) ≤ 4) := by
  obtain ⟨a, ha, h0⟩ := hf
  have hne : full pos ≠ [] := fun e => by
    have := full_mem.mpr ⟨ha, h0⟩
    rw [e] at this
    cases this
  have hbig := nz_big a1 a2 hl hp hz hne
  have hmono := nz_mono ham
  refine ⟨?_, fun h2 => ?_⟩
  · rcases Nat.lt_or_ge i 5 with h | h
    · omega
    · have : i = 5 := by omega
      subst this
      have := nzs (by decide)
      omega
  · rcases Nat.lt_or_ge i 2 with h | h
    · have : i = 1 := by omega
      subst this
      have := nz_le4 (setAll pos (leftsOf pos (takesOf number wish pos)))
      omega
    · have := nzs h
      rw [hw h]
      have hless := nz_less a1 hl hp hbig
      have e : (i + 1 - 2) * (number - 1) = (i - 2) * (number - 1) + (number - 1) := by
        have : i + 1 - 2 = (i - 2) + 1 := by omega
        rw [this, Nat.add_mul, Nat.one_mul]
      omega
end SR
end
section
open PySem PySem.W PyProof.Rows PySem.Calls PySem.Spec LCg
set_option Elab.async false
set_option maxRecDepth 100000
namespace SR
structure NotNil (prs : List (Nat × Int)) : Prop where
  eq : decide (prs = []) = false
section
variable {h₀ h : Heap} {L : Addr}
theorem off_neZ {p89 p96 : Array Value} {o1 o2 o3 o4 o5 o6 o7 : Obj} {cW cS H Dd D : Addr} {xs : List Addr} {ns : List Nat} {Z base : Led} (_Zk : ZOk [89, 96, 149, cW, cS, H, Dd] p89 p96 Z xs ns) (l : ∀ p ∈ base, p.1 ≠ D) (b1 : (89, o1) ∈ base) (b2 : (96, o2) ∈ base) (b3 : (149, o3) ∈ base) (b4 : (cW, o4) ∈ base) (b5 : (cS, o5) ∈ base) (b6 : (H, o6) ∈ base) (b7 : (Dd, o7) ∈ base) : D ∉ [89, 96, 149, cW, cS, H, Dd] :=
  off_ne (bad_in b1 b2 b3 b4 b5 b6 b7) (fun p hp => hp) l
theorem takes_pack {p89 p96 : Array Value} {o oW oS o8 o1 o2 o3 o4 o5 o6 o7 : Obj} {cW cS H Dd D₀ D8 : Addr} {xs : List Addr} {ns : List Nat} {k n : Nat} {sD : Array Value} {kD : Nat} {X Z all base : Led} {Ts : List Addr} {W W' : List (Nat × Int)} (N : News h₀ L h all) (Zk : ZOk [89, 96, 149, cW, cS, H, Dd] p89 p96 Z xs ns)
    (h1 : (89, tabObj p89) ∈ all) (h2 : (96, tabObj p96) ∈ all) (h3 : (149, o) ∈ all) (h4 : (cW, oW) ∈ all) (h5 : (cS, oS) ∈ all) (h6 : (H, listOf (xs.map Value.ref).toArray k) ∈ all) (h7 : (Dd, listOf sD kD) ∈ all) (h8 : (D₀, listOf (Ts.map Value.ref).toArray n) ∈ all) (h9 : (D8, o8) ∈ all) (hXa : ∀ p ∈ X, p ∈ all) (hZa : ∀ p ∈ Z, p ∈ all)
    (hX : ∀ p ∈ X, ∀ q ∈ base, p.1 ≠ q.1) (b1 : (89, o1) ∈ base) (b2 : (96, o2) ∈ base) (b3 : (149, o3) ∈ base) (b4 : (cW, o4) ∈ base) (b5 : (cS, o5) ∈ base) (b6 : (H, o6) ∈ base) (b7 : (Dd, o7) ∈ base) (h0 : ∀ p ∈ base, p.1 ≠ D₀) (h8' : D8 ∉ [89, 96, 149, cW, cS, H, Dd]) (hl : Ts.length = W.length) (hp : PairsAre X Ts W) (hW : W' = W) :
    ∃ Z' Ts' vals, News h₀ L h (LawL p89 p96 o cW oW cS oS H xs k Dd sD kD Z') ∧ ZOk [89, 96, 149, cW, cS, H, Dd] p89 p96 Z' xs ns ∧ PrIn D₀ Ts' vals Z' ∧ ValsOk Ts' vals W' ∧ Ts'.length = W'.length ∧ (D8, o8) ∈ Z' ∧ ∀ q ∈ Z, q ∈ Z' := by
  subst hW
  have hb := bad_in b1 b2 b3 b4 b5 b6 b7
  obtain ⟨vals, pr, va⟩ := (hp.mono (X' := (D₀, listOf (Ts.map Value.ref).toArray n) :: (D8, o8) :: (X ++ Z)) fun p hp => .tail _ (.tail _ (List.mem_append_left _ hp))).prIn (.head _)
  exact ⟨_, Ts, vals, law_join N h1 h2 h3 h4 h5 h6 h7 h8 h9 hXa hZa, takes_zok Zk hX hb (off_ne hb (fun p hp => hp) h0) h8', pr, va, hl, .tail _ (.head _), fun q hq => .tail _ (.tail _ (List.mem_append_right _ hq))⟩
theorem iter_off {I : Addr} {oI : Obj} {bad : List Addr} {p89 p96 : Array Value} {Z all : Led} {xs : List Addr} {ns : List Nat} (N : News h₀ L h all) (hm : (I, oI) ∈ all) (hI : IterO oI) (k : ZOk bad p89 p96 Z xs ns) (sub : ∀ p ∈ Z, p ∈ all) (hl : xs.length = ns.length) : I ∉ xs := by
  intro hx
  obtain ⟨l, i, hd⟩ := hI
  obtain ⟨j, hj⟩ := List.getElem?_of_mem hx
  have hlt : j < xs.length := by
    rcases Nat.lt_or_ge j xs.length with h | h
    · exact h
    · rw [List.getElem?_eq_none h] at hj; cases hj
  obtain ⟨d, hsh, t1, t2, ep, pcs, q1, q2, q3, q4⟩ := k.hps j I _ hj (List.getElem?_eq_getElem (hl ▸ hlt))
  exact ne_of_obj N (sub _ q1) hm (by intro e; have := congrArg Obj.data e; rw [hd] at this; cases this) rfl
theorem take_abs {bm : Str → Option Value} {o1 o2 o3 o4 v : Option Value} {D : Addr} : (fun y => if y = Str.ofString "takes" then v else wishMap bm o1 o2 o3 o4 D y) = wishMap bm o1 v o3 o4 D := by
  have n1 : ¬ (Str.ofString "takes" = Str.ofString "gone") := by decide +kernel
  funext y
  simp only [wishMap, anyAt]
  by_cases e : y = Str.ofString "takes"
  · subst e; simp only [if_neg n1, if_true]
  · simp only [if_neg e]
theorem fr_abs1 {bm : Str → Option Value} {o1 o2 o3 o4 v1 : Option Value} {D : Addr} (F : Fr h₀ L h (fun y => if y = Str.ofString "takes" then v1 else wishMap bm o1 o2 o3 o4 D y)) : Fr h₀ L h (wishMap bm o1 v1 o3 o4 D) := take_abs ▸ F
theorem fr_abs2 {bm : Str → Option Value} {o1 o2 o3 o4 v1 v2 : Option Value} {D : Addr} (F : Fr h₀ L h (fun y => if y = Str.ofString "takes" then v1 else if y = Str.ofString "takes" then v2 else wishMap bm o1 o2 o3 o4 D y)) : Fr h₀ L h (wishMap bm o1 v1 o3 o4 D) := by
  have e : (fun y => if y = Str.ofString "takes" then v1 else if y = Str.ofString "takes" then v2 else wishMap bm o1 o2 o3 o4 D y) = wishMap bm o1 v1 o3 o4 D := by
    refine Eq.trans ?_ (take_abs (o2 := o2))
    funext y
    by_cases e : y = Str.ofString "takes"
    · simp only [if_pos e]
    · simp only [if_neg e]
  rw [e] at F
  exact F
theorem ans_abs {bm : Str → Option Value} {o1 o2 o3 o4 : Option Value} {D D' : Addr} : (fun y => if y = Str.ofString "answer" then some (Value.ref D') else wishMap bm o1 o2 o3 o4 D y) = wishMap bm o1 o2 o3 o4 D' := by
  have n1 : ¬ (Str.ofString "answer" = Str.ofString "gone") := by decide +kernel
  have n2 : ¬ (Str.ofString "answer" = Str.ofString "takes") := by decide +kernel
  have n3 : ¬ (Str.ofString "answer" = Str.ofString "left") := by decide +kernel
  have n4 : ¬ (Str.ofString "answer" = Str.ofString "at") := by decide +kernel
  funext y
  simp only [wishMap, anyAt]
  by_cases e : y = Str.ofString "answer"
  · subst e; simp only [if_neg n1, if_neg n2, if_neg n3, if_neg n4, if_true]
  · simp only [if_neg e]
/-- the rest of a turn, from the loop over what is taken -/
noncomputable def TailT (h₀ : Heap) (L : Addr) (bm : Str → Option Value) (o1 o3 o4 : Option Value) (D : Addr) (p89 p96 : Array Value) (o : Obj) (cW : Addr) (oW : Obj) (cS : Addr) (oS : Obj) (H : Addr) (xs : List Addr) (k : Nat) (Dd : Addr) (sD : Array Value) (kD : Nat) (ns : List Nat) (W : List (Nat × Int)) (x8 : Addr × Obj) (Z : Led) (dr : Drawn) (os : OsState) (q : Flow → Shared → Prop) : Prop :=
  ∀ (h : Heap) (tk : Nat) (g : Array GenState) (v : Addr) (Z' : Led) (Ts : List Addr) (vals : Nat → Array Value), Fr h₀ L h (wishMap bm o1 (some (.ref v)) o3 o4 D) → News h₀ L h (LawL p89 p96 o cW oW cS oS H xs k Dd sD kD Z') → AllBare g → ZOk [89, 96, 149, cW, cS, H, Dd] p89 p96 Z' xs ns → PrIn v Ts vals Z' → ValsOk Ts vals W → Ts.length = W.length → x8 ∈ Z' → (∀ q ∈ Z, q ∈ Z') → q .next ⟨h, g, dr, tk, os⟩
theorem tail_cut {prog : Program} {w : World} {A : Around} {c : Sem Flow} {E : Value → Shared → Prop} {g : Array GenState} {tk : Nat} {bm : Str → Option Value} {o1 o3 o4 : Option Value} {v D : Addr} {p89 p96 : Array Value} {o : Obj} {cW : Addr} {oW : Obj} {cS : Addr} {oS : Obj} {H : Addr} {xs : List Addr} {k : Nat} {Dd : Addr} {sD : Array Value} {kD : Nat} {ns : List Nat} {W : List (Nat × Int)} {x8 : Addr × Obj} {Z : Led} {dr : Drawn} {os : OsState} {q : Flow → Shared → Prop} {r : Data}
    (_F : Fr h₀ L h (wishMap bm o1 (some (.ref v)) o3 o4 D)) (_Zk : ZOk [89, 96, 149, cW, cS, H, Dd] p89 p96 Z xs ns) (_d : oS.data = r)
    (tail : TailT h₀ L bm o1 o3 o4 D p89 p96 o cW oW cS oS H xs k Dd sD kD ns W x8 Z dr os q) (go : TailT h₀ L bm o1 o3 o4 D p89 p96 o cW oW cS oS H xs k Dd sD kD ns W x8 Z dr os q → wpAny (model prog w) A c q E ⟨h, g, dr, tk, os⟩) : Blk (wpAny (model prog w) A c q E ⟨h, g, dr, tk, os⟩) := go tail
end
end SR
end
section
open PySem PySem.W PyProof.Rows PySem.Calls PySem.Spec LCg
set_option Elab.async false
set_option maxRecDepth 100000
namespace SR
theorem Blk.out {P : Prop} (h : Blk P) : P := h
theorem rows_SRla_1 : True := by
  k_with_none
  k_with "units_room" => (dsimp +zetaDelta only; units_room)
  k_with "execs cons" => (k_here; (fail_if_success with_reducible show wpAny _ Aq _ _ _ _); (try k_fold); refine' a_let ?_; intro Aq)
  k_with "execs cons" => (k_here; (fail_if_success with_reducible show wpAny _ _ _ _ _ ⟨_, _, _, tkq, _⟩); refine' tok_all ?_; intro tkq; dsimp only)
  k_with "execs cons" => (k_here; (fail_if_success refine' m_is (m := mq) (by with_reducible assumption) ?_); refine' m_let ?zzF ?_; (case zzF => k_asm); intro mq Fq; dsimp only at Fq)
  k_with "k_room" => (first | exact room_k (k := 0) (by assumption) (by decide) | exact room_k (k := 1) (by assumption) (by decide) | exact room_k (k := 2) (by assumption) (by decide) | exact room_k (k := 3) (by assumption) (by decide) | exact room_k (k := 4) (by assumption) (by decide) | ktr_room)
  k_with "ktr_room" => (first | exact room_k (k := 0) (by assumption) (by decide) | exact room_k (k := 1) (by assumption) (by decide) | exact room_k (k := 2) (by assumption) (by decide) | exact room_k (k := 3) (by assumption) (by decide) | exact room_k (k := 4) (by assumption) (by decide))
  k_with "k_units" => (first | exact unit_k (k := 3) (by assumption) rfl (by decide) | exact unit_k (k := 0) (by assumption) rfl (by decide) | exact unit_k (k := 6) (by assumption) rfl (by decide) | exact unit_k (k := 4) (by assumption) rfl (by decide) | exact unit_k (k := 7) (by assumption) rfl (by decide) | exact unit_k (k := 9) (by assumption) rfl (by decide) | exact unit_k (k := 1) (by assumption) rfl (by decide) | ktr_units)
  k_with "ktr_units" => (first | exact unit_k (k := 3) (by assumption) rfl (by decide) | exact unit_k (k := 0) (by assumption) rfl (by decide) | exact unit_k (k := 6) (by assumption) rfl (by decide) | exact unit_k (k := 4) (by assumption) rfl (by decide) | exact unit_k (k := 7) (by assumption) rfl (by decide) | exact unit_k (k := 9) (by assumption) rfl (by decide) | exact unit_k (k := 1) (by assumption) rfl (by decide))
  k_with "units_room" => (first | exact unit_k (k := 3) (by assumption) rfl (by decide) | exact unit_k (k := 0) (by assumption) rfl (by decide) | exact unit_k (k := 6) (by assumption) rfl (by decide) | exact unit_k (k := 4) (by assumption) rfl (by decide) | exact unit_k (k := 7) (by assumption) rfl (by decide) | exact unit_k (k := 9) (by assumption) rfl (by decide) | exact unit_k (k := 1) (by assumption) rfl (by decide))
  k_with "k_all" => (first | assumption | exact allLt_ne (by assumption) (Nat.le_refl _))
  k_with "k_inst" => ((refine' acc_inst ?y3N ?y3h1 ?y3h2; (case y3N => k_asm); (case y3h1 => k_mem); (case y3h2 => k_mem)))
  k_with "k_mem" => (assumption)
  k_with "execs cons" => (k_here; k_fold)
  k_with "exec If" => (k_here; k_fold)
  k_with "exec Assign" => (k_here; k_fold)
  k_with "exec Return" => (k_here; k_fold)
  k_with "exec For Tuple Call cons nil" => (k_here; k_dflt (refine wpAny_For ?_))
  k_with "setItem ref int" => (k_here; k_dflt (refine' set_int ?z9F ?z9N ?z9m ?z9v ?z9h0 ?z9h1 ?z9z ?_; (case z9F => k_asm); (case z9N => k_asm); (case z9m => ((repeat (first | exact List.Mem.head _ | apply List.Mem.tail)); done)); (case z9v => assumption); (case z9h0 => assumption); (case z9h1 => assumption); (case z9z => assumption)); intro h'q vs3 F'q N'q hv3)
  k_with "call type:enumerate" => (k_here; k_dflt (refine' drawn_loopB (dl := [6, 3, 7, 1, 12, 2, 65]) ?z9hh ?z9hl ?z9hv ?z9xa ?z9xb ?z9hp ?z9F ?z9N ?z9G ?z9d ?z9d7 ?z9b1 ?z9b2 ?_ ?_; (case z9hh => rfl); (case z9hl => assumption); (case z9hv => assumption); (case z9xa => rfl); (case z9xb => rfl); (case z9hp => rfl); (case z9F => k_asm); (case z9N => k_asm); (case z9G => first | assumption | (dsimp only; assumption)); (case z9d => repeat constructor); (case z9d7 => rfl); (case z9b1 => rfl); (case z9b2 => rfl)))
  k_with "exec For Name Subscript cons nil" => (k_here; k_dflt (refine wpAny_For ?_))
  k_with "getMethod ref" => (k_here; k_dflt (refine' method_anyK ?z10k1 ?z10k2 ?z10k3 ?z10k4 ?z10k5 ?z10k6 ?z10k7 ?z10k8 ?z10k9 ?_; (case z10k1 => k_asm); (case z10k2 => k_asm); (case z10k3 => k_inst); (case z10k4 => k_is); (case z10k5 => exact PySem.canon_list_getattribute); (case z10k6 => k_is); (case z10k7 => k_is); (case z10k8 => first | exact .inl (by k_is) | exact .inr (.inl (by k_is)) | exact .inr (.inr (by k_is))); (case z10k9 => k_get); k_whole))
  k_with "call ref" => (k_here; k_dflt ((show wpAny _ _ (call (Value.ref 180) _) _ _ _); refine' tell_use (tell_new _ _) ?z10k1 ?z10k2 ?z10k3 ?z10k4 ?z10k5 ?z10kK ?z10kG ?z10kd ?z10ku ?_; (case z10k1 => k_asm); (case z10k2 => k_asm); (case z10k3 => k_asm); (case z10k4 => k_asm); (case z10k5 => k_asm); (case z10kK => exact rfl); (case z10kG => first | assumption | (dsimp only; assumption)); (case z10kd => ktr_room); (case z10ku => ktr_units)); intro r9q news9q h9q tk9q g9q F9q N9q G9q P9q; k_dflt (obtain ⟨X9q, DX9q, hsh9q, T0q, T1q, e9q, LD9, LX9, e8q⟩ := P9q); subst e9q; subst e8q; (try dsimp only))
  k_with "call ref" => (k_here; k_dflt ((show wpAny _ _ (call (Value.ref 125) _) _ _ _); refine' tell_use (tell_push _ _ _ _ _ _ _ _ _ ?z10h1 ?z10h2 ?z10hz _ _ _ _) ?z10k1 ?z10k2 ?z10k3 ?z10k4 ?z10k5 ?z10kK ?z10kG ?z10kd ?z10ku ?_; (case z10k1 => k_asm); (case z10k2 => k_asm); (case z10k3 => k_asm); (case z10k4 => k_asm); (case z10k5 => k_asm); (case z10kK => exact rfl); (case z10kG => first | assumption | (dsimp only; assumption)); (case z10h1 => k_mem); (case z10h2 => k_mem); (case z10hz => assumption); (case z10kd => ktr_room); (case z10ku => ktr_units)); intro r9q news9q h9q tk9q g9q F9q N9q G9q P9q; k_dflt (obtain ⟨e9q, T9q, LT9, e8q⟩ := P9q); subst e9q; subst e8q; (try dsimp only))
  k_with "call builtin:list.append" => (k_here; k_dflt (refine' append_led ?z10F ?z10N ?z10m ?z10z ?_; (case z10F => k_asm); (case z10N => k_asm); (case z10m => ((repeat (first | exact List.Mem.head _ | apply List.Mem.tail)); done)); (case z10z => assumption)); intro h'q F'q N'q)
  k_with "exec For Name Call cons nil" => (k_here; k_dflt (refine wpAny_For ?_))
  k_with "call ref" => (k_here; k_dflt ((show wpAny _ _ (call (Value.ref 194) _) _ _ _); refine' answer_call ?z10k1 ?z10k2 ?z10k3 ?z10k4 ?z10k5 ?z10kK ?z10kG ?z10kd ?z10ku ?z10ho ?z10htr ?z10hW ?z10hS ?z10nd ?z10Zk ?z10hx ?z10hn ?z10hs ?z10a1 ?z10a2 ?_; (case z10k1 => k_asm); (case z10k2 => k_asm); (case z10k3 => k_asm); (case z10k4 => k_asm); (case z10k5 => k_asm); (case z10kK => exact rfl); (case z10kG => first | assumption | (dsimp only; assumption)); (case z10ho => assumption); (case z10htr => assumption); (case z10hW => assumption); (case z10hS => assumption); (case z10nd => assumption); (case z10Zk => assumption); (case z10hx => assumption); (case z10hn => assumption); (case z10hs => assumption); (case z10a1 => assumption); (case z10a2 => assumption); (case z10kd => ktr_room); (case z10ku => ktr_units)); intro D5 Ts5 pa5 pb5 X5 h5 tk5 g5 F5 N5 G5 Z5 m5 l5 P5; (try dsimp only))
  k_with "call ref" => (k_here; k_dflt ((show wpAny _ _ (call (Value.ref 189) _) _ _ _); refine' told_first ?z10k1 ?z10k2 ?z10k3 ?z10k4 ?z10k5 ?z10kK ?z10kG ?z10kd ?z10ku ?z10ho ?z10htr ?z10nd ?z10Zk ?z10hx ?z10hn ?z10hs ?z10a1 ?z10a2 ?z10a3 ?z10a4 ?_; (case z10k1 => k_asm); (case z10k2 => k_asm); (case z10k3 => k_asm); (case z10k4 => first | k_asm | exact news_tail (by k_asm)); (case z10k5 => k_asm); (case z10kK => exact rfl); (case z10kG => first | assumption | (dsimp only; assumption)); (case z10ho => assumption); (case z10htr => assumption); (case z10nd => assumption); (case z10Zk => assumption); (case z10hx => assumption); (case z10hn => assumption); (case z10hs => assumption); (case z10a1 => assumption); (case z10a2 => assumption); (case z10a3 => assumption); (case z10a4 => assumption); (case z10kd => ktr_room); (case z10ku => ktr_units)); intro o5' ps5' h5 tk5 g5 F5 N5 G5 ho5 htr5; (try dsimp only))
  k_with "call ref" => (k_here; k_dflt ((with_reducible show wpAny _ _ (call (Value.ref 189) [_, _, _, _, Value.bool true]) _ _ _); refine' told_again ?z10k1 ?z10k2 ?z10k3 ?z10k4 ?z10k5 ?z10kK ?z10kG ?z10kd ?z10ku ?z10ho ?z10htr ?z10nd ?z10Zk ?z10hx ?z10hn ?z10hs ?z10a1 ?z10a2 ?z10a3 ?z10a4 ?z10hz ?_; (case z10k1 => k_asm); (case z10k2 => k_asm); (case z10k3 => k_asm); (case z10k4 => first | k_asm | exact news_tail (by k_asm)); (case z10k5 => k_asm); (case z10kK => exact rfl); (case z10kG => first | assumption | (dsimp only; assumption)); (case z10ho => assumption); (case z10htr => assumption); (case z10nd => assumption); (case z10Zk => assumption); (case z10hx => assumption); (case z10hn => assumption); (case z10hs => assumption); (case z10a1 => assumption); (case z10a2 => assumption); (case z10a3 => assumption); (case z10a4 => assumption); (case z10hz => assumption); (case z10kd => ktr_room); (case z10ku => ktr_units)); intro o5' ps5' h5 tk5 g5 F5 N5 G5 ho5 htr5; (try dsimp only))
  k_with "compareOp Eq ref ref" => (k_here; k_dflt (refine' eq_nil ?z10N ?z10a ?z10b ?z10l ?z10P ?z10u ?_; (case z10N => k_asm); (case z10a => (repeat (first | (apply List.mem_append_left; assumption) | exact List.Mem.head _ | apply List.Mem.tail)); done); (case z10b => (repeat (first | exact List.Mem.head _ | apply List.Mem.tail)); done); (case z10l => assumption); (case z10P => refine PairsAre.mono (by assumption) (fun p9 hp9 => ?_); repeat (first | exact List.mem_append_left _ hp9 | apply List.mem_cons_of_mem)); (case z10u => units_room)))
  k_with "exec For Name Tuple cons nil" => (k_here; k_dflt (refine wpAny_For ?_))
  k_with "call ref" => (k_here; k_dflt ((show wpAny _ _ (call (Value.ref 199) _) _ _ _); refine' take_true ?z10k1 ?z10k2 ?z10k3 ?z10k4 ?z10k5 ?z10kK ?z10kG ?z10kd ?z10ku ?z10ho ?z10hW ?z10hS ?z10Zk ?z10hnd ?z10hxj ?z10hnj ?z10hn7 ?z10hleft ?z10hz ?_; (case z10hz => assumption); (case z10k1 => k_asm); (case z10k2 => k_asm); (case z10k3 => k_asm); (case z10k4 => k_asm); (case z10k5 => k_asm); (case z10kK => exact rfl); (case z10kG => first | assumption | (dsimp only; assumption)); (case z10ho => assumption); (case z10hW => assumption); (case z10hS => assumption); (case z10Zk => assumption); (case z10hnd => assumption); (case z10hxj => assumption); (case z10hnj => assumption); (case z10hn7 => assumption); (case z10hleft => assumption); (case z10kd => ktr_room); (case z10ku => ktr_units)); intro Z6 h6 tk6 g6 F6 N6 G6 Zk6 kp6; (try dsimp only))
  k_with "exec For Tuple Name cons nil" => (k_here; k_dflt (refine wpAny_For ?_))
  k_with "subscriptTail Name Name ref int" => (k_here; k_dflt (refine' sub_refL ?z10N ?z10m ?z10i ?z10l ?_; (case z10N => k_asm); (case z10m => ((repeat (first | exact List.Mem.head _ | apply List.Mem.tail)); done)); (case z10i => assumption); (case z10l => assumption)))
  k_with "eval ListComp" => (k_here; k_dflt (refine ListComp_O (_F₀ := by k_asm) (by with_unfolding_all rfl) (by decide) (by rfl) (by decide) (by rfl) ?_))
  k_with "eval ListComp" => (k_here; (with_reducible show wpAny _ _ (eval (PySem.Expr.ListComp _ [⟨PySem.Expr.Tuple _ _ _, _, _, _⟩] _ _) _) _ _ _); k_dflt (refine ListComp_OT (_F₀ := by k_asm) (by rfl) (by with_unfolding_all rfl) (by decide) (by rfl) (by decide) (by rfl) (by rfl) (by decide +kernel) ?_))
  k_with "exec Assign cons ListComp" => (k_here; k_dflt (refine Assign_ListComp_O (_F₀ := by k_asm) (by rfl) (by with_unfolding_all rfl) (by with_unfolding_all rfl) (by decide) (by rfl) (by decide) (by rfl) (by rfl) (by rfl) ?_))
  k_with "call ref" => (k_here; k_dflt ((show wpAny _ _ (call (Value.ref 177) _) _ _ _); refine' tell_use (tell_countH _ _ _ _ ?z11H) ?z11k1 ?z11k2 ?z11k3 ?z11k4 ?z11k5 ?z11kK ?z11kG ?z11kd ?z11ku ?_; (case z11k1 => k_asm); (case z11k2 => k_asm); (case z11k3 => k_asm); (case z11k4 => k_asm); (case z11k5 => k_asm); (case z11kK => exact rfl); (case z11kG => first | assumption | (dsimp only; assumption)); (case z11H => assumption); (case z11kd => ktr_room); (case z11ku => ktr_units)); intro r9q news9q h9q tk9q g9q F9q N9q G9q P9q; obtain ⟨⟨t9q, e9q⟩, e8q⟩ := P9q; replace e8q := e8q.symm; subst e9q; subst e8q; (try dsimp only))
  k_with "subscriptTail Name Name ref int" => (k_here; k_dflt ((refine' nat_get ?z11N ?z11m ?z11v ?z11i ?z11l ?_; (case z11N => k_asm); (case z11m => ((repeat (first | exact List.Mem.head _ | apply List.Mem.tail | assumption)); done)); (case z11v => assumption); (case z11i => assumption); (case z11l => assumption); intro t'q)))
  k_with "binaryOp Pow int int" => (k_here; k_dflt (refine' pow_int_small ?z11b1 ?z11b2 ?z11b3 ?_; (case z11b2 => assumption); (case z11b1 => exact Int.natCast_nonneg _); (case z11b3 => decide)))
  k_with "binaryOp FloorDiv int int" => (k_here; k_dflt (refine' floordiv_int ?z11b1 ?_ (Or.inl (PyProof.noPylong_of_log2 ?z11b2)); (case z11b1 => assumption); (case z11b2 => assumption)))
  k_with "binaryOp Mod int int" => (k_here; k_dflt (refine' mod_int' ?z11b1 ?_; (case z11b1 => assumption)))
  k_with "call builtin:min" => (k_here; k_dflt (refine' min_gone ?z11hh ?z11F ?z11N ?z11ha ?_; (case z11hh => rfl); (case z11F => k_asm); (case z11N => k_asm); (case z11ha => assumption)); intro t'q h'q tk'q F'q N'q)
  k_with "subscriptTail" => (k_here; k_dflt (refine kba_turn (value' := PySem.Expr.Name (PySem.Str.ofString "_") ⟨0, 0, 0, 0⟩) (fun _ => rfl) ?_; refine' kmk_slice_lit ?z11sa1 ?z11sa2 ?z11sa3 ?z11sa4 ?z11sa5 ?z11sa6 ?_ ?z11sa7 ?z11sa8 ?z11sa9; (case z11sa1 => k_asm); (case z11sa2 => k_asm); (case z11sa3 => exact News.isList (by k_asm) (List.Mem.head _)); (case z11sa4 => exact IsPart.none); (case z11sa5 => exact IsPart.int _ _); (case z11sa6 => exact slice_refs (by assumption)); (case z11sa7 => with_unfolding_all rfl); (case z11sa8 => intro _; with_unfolding_all rfl); (case z11sa9 => assumption)); intro D5 h5 F5 N5 l5)
  k_with "compareOp Eq ref ref" => (k_here; k_dflt (refine' eq_nil_b ?z11ea1 ?z11ea2 ?z11ea3 ?z11ea4 ?z11ea5 ?z11ea6 ?z11ea7 ?_; (case z11ea1 => k_asm); (case z11ea2 => (repeat (first | (apply List.mem_append_left; assumption) | exact List.Mem.head _ | apply List.Mem.tail)); done); (case z11ea3 => (repeat (first | exact List.Mem.head _ | apply List.Mem.tail)); done); (case z11ea4 => assumption); (case z11ea7 => exact NotNil.eq (by assumption)); (case z11ea5 => refine PairsAre.mono (by assumption) (fun p9 hp9 => ?_); repeat (first | exact List.mem_append_left _ hp9 | apply List.mem_cons_of_mem)); (case z11ea6 => units_room)))
  k_with "exec If" => (k_here; (fail_if_success have := tail0); (with_reducible show wpAny _ _ (exec (PySem.Stmt.If (PySem.Expr.Compare (PySem.Expr.Name (Str.ofString "takes") _) _ _ _) _ _ _) _) _ _ _); k_fold; refine' Blk.out ?_)
  trivial
local macro_rules
  | `(tactic| o_head (kmHook $_ $_ $_ [$_, $_, $_])) => Lean.Macro.throwUnsupported
  | `(tactic| o_head (kmHook $_ $a $p $_)) => `(tactic| (o_head (kmHook SR.hm.heap_1 $a $p [96, 89, 149])))
-- these names keep the head from making twins of its own constants (their proofs would be 16 MB): twnames.py prints them
theorem law_holds.tw10286900326485596487 : True := trivial
theorem law_holds.tw1036908213843452888 : True := trivial
theorem law_holds.tw10445139500912992420 : True := trivial
theorem law_holds.tw10468476119223338508 : True := trivial
theorem law_holds.tw10623923744951677939 : True := trivial
theorem law_holds.tw10902013450738922336 : True := trivial
theorem law_holds.tw10944475953361313447 : True := trivial
theorem law_holds.tw11007003973943448034 : True := trivial
theorem law_holds.tw11123636858177146813 : True := trivial
theorem law_holds.tw111962956000353217 : True := trivial
theorem law_holds.tw11223378251820734014 : True := trivial
theorem law_holds.tw11447310046346957001 : True := trivial
theorem law_holds.tw11503891454861128770 : True := trivial
theorem law_holds.tw11587423641271291180 : True := trivial
theorem law_holds.tw11592054536293527377 : True := trivial
theorem law_holds.tw1163397229669564634 : True := trivial
theorem law_holds.tw11898797782488651797 : True := trivial
theorem law_holds.tw11917424987411054959 : True := trivial
theorem law_holds.tw12154931029812428433 : True := trivial
theorem law_holds.tw12268715470097387222 : True := trivial
theorem law_holds.tw1239205273054502724 : True := trivial
theorem law_holds.tw12421209495757852643 : True := trivial
theorem law_holds.tw12767786452544444396 : True := trivial
theorem law_holds.tw12832165617918961835 : True := trivial
theorem law_holds.tw12908356817433569727 : True := trivial
theorem law_holds.tw12912287025094746618 : True := trivial
theorem law_holds.tw1294830635381087513 : True := trivial
theorem law_holds.tw13176979897890933584 : True := trivial
theorem law_holds.tw13487769976248675997 : True := trivial
theorem law_holds.tw13707189641184594355 : True := trivial
theorem law_holds.tw13737489716601295843 : True := trivial
theorem law_holds.tw13774488069542426566 : True := trivial
theorem law_holds.tw14030788324397056401 : True := trivial
theorem law_holds.tw14110113998062125539 : True := trivial
theorem law_holds.tw14158178618123417508 : True := trivial
theorem law_holds.tw14384397803772213058 : True := trivial
theorem law_holds.tw14537072846632298225 : True := trivial
theorem law_holds.tw14610861375824701888 : True := trivial
theorem law_holds.tw146150189155869797 : True := trivial
theorem law_holds.tw14650310262392105909 : True := trivial
theorem law_holds.tw14873538685422325123 : True := trivial
theorem law_holds.tw15010815622241043122 : True := trivial
theorem law_holds.tw15020246355986479914 : True := trivial
theorem law_holds.tw15028183140401382885 : True := trivial
theorem law_holds.tw15034516850530396704 : True := trivial
theorem law_holds.tw15039371598457338204 : True := trivial
theorem law_holds.tw15156786271694704092 : True := trivial
theorem law_holds.tw1529327029067229091 : True := trivial
theorem law_holds.tw15306994345145503684 : True := trivial
theorem law_holds.tw15437042618831990217 : True := trivial
theorem law_holds.tw15504255044662239599 : True := trivial
theorem law_holds.tw15506489440212009884 : True := trivial
theorem law_holds.tw15513021484540107040 : True := trivial
theorem law_holds.tw15792428106563328016 : True := trivial
theorem law_holds.tw15971625281226358804 : True := trivial
theorem law_holds.tw16112748340531384486 : True := trivial
theorem law_holds.tw16168333692564480115 : True := trivial
theorem law_holds.tw16180176763081425848 : True := trivial
theorem law_holds.tw16244635295954164426 : True := trivial
theorem law_holds.tw16245613769744081024 : True := trivial
theorem law_holds.tw1639384057037255851 : True := trivial
theorem law_holds.tw16426470420822064838 : True := trivial
theorem law_holds.tw16573404419233502762 : True := trivial
theorem law_holds.tw16655381864556131527 : True := trivial
theorem law_holds.tw16766233943831122247 : True := trivial
theorem law_holds.tw16856090791680644916 : True := trivial
theorem law_holds.tw16880604878234583562 : True := trivial
theorem law_holds.tw16927402826680340561 : True := trivial
theorem law_holds.tw17035685009301706496 : True := trivial
theorem law_holds.tw1716077354308046407 : True := trivial
theorem law_holds.tw17300074085092103626 : True := trivial
theorem law_holds.tw17608070454969636890 : True := trivial
theorem law_holds.tw17805945864729842411 : True := trivial
theorem law_holds.tw17858558601314938591 : True := trivial
theorem law_holds.tw17907439710344211188 : True := trivial
theorem law_holds.tw18069282167496427117 : True := trivial
theorem law_holds.tw18098043787388600025 : True := trivial
theorem law_holds.tw18130126053920324135 : True := trivial
theorem law_holds.tw18203071119965671093 : True := trivial
theorem law_holds.tw18269397508131102953 : True := trivial
theorem law_holds.tw18358466034709404987 : True := trivial
theorem law_holds.tw1865988568576422339 : True := trivial
theorem law_holds.tw1961708306017330081 : True := trivial
theorem law_holds.tw1963153796619151046 : True := trivial
theorem law_holds.tw2003600682116033497 : True := trivial
theorem law_holds.tw2010604260734358645 : True := trivial
theorem law_holds.tw2097287137336621314 : True := trivial
theorem law_holds.tw2135854612211253803 : True := trivial
theorem law_holds.tw2204515253149591897 : True := trivial
theorem law_holds.tw2231176655886361961 : True := trivial
theorem law_holds.tw2269503138127140795 : True := trivial
theorem law_holds.tw2269992118917718840 : True := trivial
theorem law_holds.tw2317105489090038106 : True := trivial
theorem law_holds.tw2359592575197603170 : True := trivial
theorem law_holds.tw2556926138236835841 : True := trivial
theorem law_holds.tw256802230284098394 : True := trivial
theorem law_holds.tw2595454496330777300 : True := trivial
theorem law_holds.tw2728312972990034196 : True := trivial
theorem law_holds.tw2848594737413923744 : True := trivial
theorem law_holds.tw286809315379328527 : True := trivial
theorem law_holds.tw2990641079253854651 : True := trivial
theorem law_holds.tw3016173252593694515 : True := trivial
theorem law_holds.tw3045358626675222873 : True := trivial
theorem law_holds.tw3267029967833413794 : True := trivial
theorem law_holds.tw3331552486804997256 : True := trivial
theorem law_holds.tw3335643986649988726 : True := trivial
theorem law_holds.tw3339319304066662693 : True := trivial
theorem law_holds.tw3444827886922877333 : True := trivial
theorem law_holds.tw352914338725817799 : True := trivial
theorem law_holds.tw3570264848002453805 : True := trivial
theorem law_holds.tw3576763117590277266 : True := trivial
theorem law_holds.tw3603895929909463375 : True := trivial
theorem law_holds.tw3706260055732514208 : True := trivial
theorem law_holds.tw3784333236870025047 : True := trivial
theorem law_holds.tw3946423404008818447 : True := trivial
theorem law_holds.tw4098845571884388147 : True := trivial
theorem law_holds.tw4160566914706849820 : True := trivial
theorem law_holds.tw4429455971353962366 : True := trivial
theorem law_holds.tw4559373552013840804 : True := trivial
theorem law_holds.tw4611238913953951200 : True := trivial
theorem law_holds.tw4861383319516246859 : True := trivial
theorem law_holds.tw5052653629832965330 : True := trivial
theorem law_holds.tw5058731610740590949 : True := trivial
theorem law_holds.tw513529552675324829 : True := trivial
theorem law_holds.tw5142960464880573770 : True := trivial
theorem law_holds.tw5161067160305509655 : True := trivial
theorem law_holds.tw5234096158878350440 : True := trivial
theorem law_holds.tw5238698477912455483 : True := trivial
theorem law_holds.tw5352256381621414959 : True := trivial
theorem law_holds.tw5387961865952481132 : True := trivial
theorem law_holds.tw5546137580910489764 : True := trivial
theorem law_holds.tw5550270175986522362 : True := trivial
theorem law_holds.tw575059832259561604 : True := trivial
theorem law_holds.tw5776187629048609789 : True := trivial
theorem law_holds.tw5838303419630636091 : True := trivial
theorem law_holds.tw5860183588242691699 : True := trivial
theorem law_holds.tw5870116223572692978 : True := trivial
theorem law_holds.tw5916184224994300827 : True := trivial
theorem law_holds.tw6022344306045500086 : True := trivial
theorem law_holds.tw6049131954148820129 : True := trivial
theorem law_holds.tw6383666111384902108 : True := trivial
theorem law_holds.tw6399356042238393968 : True := trivial
theorem law_holds.tw6610854459395020179 : True := trivial
theorem law_holds.tw6693160158117239693 : True := trivial
theorem law_holds.tw6693671248587853880 : True := trivial
theorem law_holds.tw6754087273330417699 : True := trivial
theorem law_holds.tw7132521473283752619 : True := trivial
theorem law_holds.tw7157431149870670608 : True := trivial
theorem law_holds.tw7354135571757370522 : True := trivial
theorem law_holds.tw7356944261998313841 : True := trivial
theorem law_holds.tw7368230678379658142 : True := trivial
theorem law_holds.tw7476490260349880190 : True := trivial
theorem law_holds.tw7478046100591749223 : True := trivial
theorem law_holds.tw7486914800451160324 : True := trivial
theorem law_holds.tw7556186614349393403 : True := trivial
theorem law_holds.tw7713321605850861441 : True := trivial
theorem law_holds.tw7775735631267764909 : True := trivial
theorem law_holds.tw7814802355501071035 : True := trivial
theorem law_holds.tw785403512417867650 : True := trivial
theorem law_holds.tw785552923814241385 : True := trivial
theorem law_holds.tw7858524681206501023 : True := trivial
theorem law_holds.tw7974712623914552477 : True := trivial
theorem law_holds.tw821899129593360476 : True := trivial
theorem law_holds.tw8241719731537792041 : True := trivial
theorem law_holds.tw8292381507729797252 : True := trivial
theorem law_holds.tw8312874489638188820 : True := trivial
theorem law_holds.tw8346361189727909172 : True := trivial
theorem law_holds.tw8381160661588054541 : True := trivial
theorem law_holds.tw8539359668029874024 : True := trivial
theorem law_holds.tw861158463201227074 : True := trivial
theorem law_holds.tw8713823404553235626 : True := trivial
theorem law_holds.tw8770155808685198898 : True := trivial
theorem law_holds.tw8806910443248702262 : True := trivial
theorem law_holds.tw8873995763755233941 : True := trivial
theorem law_holds.tw8928280863742062173 : True := trivial
theorem law_holds.tw8982330784052733963 : True := trivial
theorem law_holds.tw9049702916174846683 : True := trivial
theorem law_holds.tw9073908651123857382 : True := trivial
theorem law_holds.tw9202475577375905802 : True := trivial
theorem law_holds.tw9317742386511125212 : True := trivial
theorem law_holds.tw934358624637567705 : True := trivial
theorem law_holds.tw9445676861542313043 : True := trivial
theorem law_holds.tw9517558457408220943 : True := trivial
theorem law_holds.tw9544079858283806462 : True := trivial
theorem law_holds.tw9754511647507004583 : True := trivial
theorem law_holds.tw987897465014195095 : True := trivial
theorem law_holds.tw9888431562995566000 : True := trivial
theorem law_holds.tw9896507806265649405 : True := trivial
theorem law_holds.tw9927285730990558547 : True := trivial
theorem law_holds.tw9962497211360350738 : True := trivial
theorem law_holds.tw9996599849873347740 : True := trivial
set_option Elab.async true in
set_option maxHeartbeats 8000000 in
theorem law_holds : PySem.Challenge.rw_sr0056_01.Holds := by
  set_option Elab.async false in
  w_on; o_law; k_head
  case hw => w_witness2
  w_strict ((
    k_fill
    intro wz0 s₀z0 s₁z0 mgz0 mbz0 Gz0 Yz0 faz0 oz0 pmz0 cdz0 docz0 dVz0 kVz0 hoz0 hdz0 hcdz0 hDz0 hmgz0 hgz0 argsz0 valsz0 asz0 hprez0 hlayz0 hrdz0 hwlz0 hloz0
    have KXz0 := km_in_of Yz0
    have Xz0 := (Ground.X Gz0).1
    have Vz0 := (Ground.X Gz0).2
    have TTz0 := km_tabs_of Yz0
    refine Ground.open Gz0 ?_
    intro Tz0 Bz0 Dz0 TEz0 TWz0
    try (refine guard_noD Dz0 (by decide +kernel) ?_; clear Dz0)
    (have hT9 : TabsAt ([(100, 96), (93, 89), (153, 149)] : List (Addr × Addr)) _ := List.forall_mem_cons.mpr ⟨⟨codeHd_of_K (c := 100) (P := 96) KXz0 (by kernel_rfl), TTz0 96 (by k_mem)⟩, List.forall_mem_cons.mpr ⟨⟨codeHd_of_K (c := 93) (P := 89) KXz0 (by kernel_rfl), TTz0 89 (by k_mem)⟩, List.forall_mem_cons.mpr ⟨⟨codeHd_of_K (c := 153) (P := 149) KXz0 (by kernel_rfl), TTz0 149 (by k_mem)⟩, fun _ h => nomatch h⟩⟩⟩)
    clear hmgz0
    wrow_args hprez0 hlayz0 hrdz0 hwlz0 hloz0
    all_goals (
      first | refine callC_kw (enter_call ?_) | refine enter_call ?_
      w_top on
      refine law_postG hT9 (fun _ _ => rfl) (by wrow_post) ?_
      w_call any hoz0 hdz0 hcdz0 hDz0 Tz0 Fz0
      clear hdz0
      kn_ghosts Fz0 Tz0
      k_drop
      skip)); (all_goals try k_fold))
  rename _ = (#[] : Array GenState) => hg0
  have hG0 := AllBare.of_eq hg0
  k_steps
  focus
    intro e9 it9 oe9 oi9 i9 z9 t9 tz9 vs9 k9 dl9 h9 tk9 g9 E9 hv9 hd9 F9 N9 off9 G9
    have q0 : 0 ≤ ((i9 : Nat) : Int).fmod 7 := Int.fmod_nonneg_of_pos _ (by decide)
    have q1 : ((i9 : Nat) : Int).fmod 7 < ((natZ dl9).length : Nat) := by rw [natZ, List.length_map, hd9]; exact Int.fmod_lt_of_pos _ (by decide)
    have q2 : (natZ dl9).length ≤ 1000 := by rw [natZ, List.length_map, hd9]; decide
    k_steps
    refine drawn_end (by k_asm) (by k_asm) off9 ?neD (by assumption) hv3 (Int.add_nonneg natZ_nonneg (Int.fmod_nonneg_of_pos _ (by decide))) hd9
    intro p hp
    simp only [List.mem_cons, List.not_mem_nil, or_false] at hp
    rcases hp with rfl | rfl | rfl | rfl | rfl <;> k_ne
  focus
    intro vs9 k9 dl9 o19 o29 h9 tk9 g9 hv9 hd9 F9 N9 G9
    dsimp only
    k_steps
    obtain ⟨number, spare, tabs, hnum, hspa, htab, n1, n2, n3, n4⟩ := nums_of dl9
    rename Fr _ _ _ _ => Fn
    try dsimp +zetaDelta only at Fn
    rw [hnum, hspa, htab] at Fn
    refine heaps_loop (by rfl) (by rfl) (by rfl) Fn (by k_asm) (by assumption) hd9 (by rfl) (by rfl) (by rfl) (by assumption) ?turn ?done
    case turn =>
      intro I8 i8 c8 t8 xs8 k8 Z8 o18 o28 oI8 h8 tk8 g8 E8 hi8 hn8 hl8 hnd8 hps8 hZ8 hZH8 F8 N8 off8 G8
      k_steps
      refine push_loop (n := c8 % 8) (by rfl) (by assumption) (fmod8 c8) (by omega) (by rfl) (by rfl) (by k_asm) (by exact map_h) (by k_asm) (by assumption) ?turn4 ?done4
      case turn4 =>
        intro I7 i7 u7 pcs7 ep7 X27 oI7 h7 tk7 g7 E7 hi7 h17 h27 h37 F7 N7 off7 G7
        have hz7 : (pcs7.map Pc.ref).length ≤ sizeLine := by
          have := congrArg List.length h27
          simp at this
          rw [List.length_map, sizeLine_eq]; omega
        k_steps
        exact push_end (by k_asm) (by k_asm) off7 (by assumption) (Nat.ne_of_lt LX9) (fun p hp => Nat.ne_of_lt (Nat.lt_trans (LD9 p hp) LX9)) (by assumption) h17 h27 h37
      case done4 =>
        intro pcs7 ep7 X27 o7 h7 tk7 g7 h17 h27 h37 F7 N7 G7
        dsimp only
        have hz7 : (xs8.map Value.ref).length ≤ 1000 := by rw [List.length_map]; omega
        have N7' := cb_drop N7 (news' := _ :: _) (fun p hp => (List.mem_cons.mp hp).elim (fun e => e ▸ .tail _ (.tail _ (List.mem_append_right _ (.tail _ (.head _))))) id)
        clear N7
        k_steps
        refine heaps_end (n := c8 % 8) (by k_asm) (cb_drop (by k_asm) put_head) off8 LD9 LX9 (by assumption) hn8 hl8 hnd8 hps8 (hps_in hps8 (by rw [List.length_map, List.length_take, hd9]; omega)) hZ8 hZH8 ?hbH h17 h27 h37
        intro q hq
        simp only [List.mem_cons, List.not_mem_nil, or_false] at hq
        rcases hq with rfl | rfl | rfl | rfl | rfl | rfl | rfl <;> k_ne
    case done =>
      intro xs8 k8 Z8 o18 o28 o38 h8 tk8 g8 hl8 hnd8 hps8 hZ8 hZH8 F8 N8 G8
      dsimp only
      have nd8 := law_nd N8 ⟨⟨by k_ne, by k_ne, by k_ne⟩, ⟨by k_ne, by k_ne, by k_ne⟩, ⟨by k_ne, by k_ne, by k_ne⟩, ⟨by k_ne, by k_ne, by k_ne⟩⟩
      have ne8 := law_neS N8 ⟨by k_ne, by k_ne, by k_ne, by k_ne, by k_ne, by k_ne⟩
      have Zk8 := law_zok hZ8 hZH8 hps8
      have N8' := law_led N8
      clear N8
      have ho8 : IsTab (tabObj #[]) #[] := ⟨rfl⟩
      have htr8 : TriplesOk (#[] : Array Value).toList := trivial
      have hn8 : ((dl9.take 4).map (· % 8)).length = 4 := by rw [List.length_map, List.length_take, hd9]; rfl
      have hs8 : ∀ n ∈ (dl9.take 4).map (· % 8), n ≤ 7 := by
        intro n hn
        obtain ⟨c, _, rfl⟩ := List.mem_map.mp hn
        omega
      generalize (dl9.take 4).map (· % 8) = ns8 at Zk8 hn8 hs8
      k_steps
      obtain ⟨wl, hwl6, hwl, hw5⟩ := wishes_of dl9
      obtain ⟨vals5, pr5, va5⟩ := P5.prIn m5
      rename (89 < _ ∧ _) => lA
      have nd9 := wish_nd nd8 ⟨by k_ne, by k_ne, by k_ne⟩
      refine wish_loop (number := number) (wl := wl) (by rfl) (by rfl) (by rfl) (by rfl) (by k_asm) (by exact wish_map0) (by k_asm) (by assumption) ?hv hwl6 hw5 (hax_of lA) nd9 (by assumption) ⟨ho5, htr5, by assumption, Z5.add (hax_of lA), hn8, hs8, pr5.mono (fun p hp => .tail _ (List.mem_append_left _ hp)), va5, l5, .head _, by decide, by omega⟩ ?turn
      case hv => rw [hwl]; repeat constructor
      case turn =>
        intro I7 i7 wish7 t7 oI7 oW7 p897 p967 o7 ps7 oS7 vS7 Z7 ns7 D7 Ts7 vals7 o17 o27 o37 o47 h7 tk7 g7 E7 hw7 hd7 ok7 hZI7 hpr7 hIb7 hIO7 F7 N7 G7
        have ho7 := ok7.ho
        have htr7 := ok7.htr
        have hS7 := ok7.hS
        have Zk7 := ok7.zok
        have hn7 := ok7.hn
        have hs7 := ok7.hs
        k_steps
        refine takes_loop1 (by rfl) (hpr7.mono fun p hp => .tail _ hp) ok7.va ok7.len (by assumption) hn7 hs7 (by assumption) (by assumption) (by rfl) (by rfl) (by rfl) (by decide +kernel) (by k_asm) (by k_asm) (by assumption) Zk7 ?turn1 ?done1
        case turn1 =>
          intro I6 oI6 a6 l6 m6 x6 ta6 tv6 Z5' cur6 h5' tk5' g5' E6 Q6 ha6 hx6 hcur6 hlt6 hm7 Zk5 back6 F5' N5' G5'
          have hz6 : ((l6 : Nat) : Int) = ((l6 : Nat) : Int) := rfl
          k_steps
          exact back6 _ _ _ _ F6 N6 G6 Zk6 kp6
        case done1 =>
          intro Z6 o16 o26 h6 tk6 g6 Zk6 kp6 F6 N6 G6
          try dsimp +zetaDelta only at F6
          rw [wish_absorb] at F6
          have hz6 := law_P2z hn7 hs7 (number := number) (by assumption) (by assumption)
          have hl6 := ans_le7 hn7 hs7 (number := number) (by assumption) (by assumption)
          have hn6 := (setAll_len (pairsOf (ansAt number (bitM ns7) [2, 1, 0])) ns7).trans hn7
          have ham6 := fun a ha => ans_mono hn7 hs7 (number := number) (by assumption) (by assumption) a ha
          generalize hpos : setAll ns7 (pairsOf (ansAt number (bitM ns7) [2, 1, 0])) = pos at Zk6 hz6 hl6 hn6 ham6
          dsimp only
          k_steps
          refine counts_src (by rfl) (by k_asm) (by k_asm) (by first | assumption | (dsimp only; assumption)) (xs := xs8) (ns := pos) (by repeat (first | exact List.Mem.head _ | apply List.Mem.tail)) (by assumption) hn6 ?turn2 ?done2
          case turn2 =>
            intro I9 C9 D9 i9 x9 n9 ys9 oI9 oC9 m9 h9 tk9 g9 E9 hx9 hn9 hys9 hoC9 hm9 F9 N9 off9 ne9 hG9
            refine wpAny_tests_nil ?_
            simp only [if_true]
            have H9 := Hp.in N9 (Zk6.hps i9 x9 n9 hx9 hn9) (fun p h => by repeat (first | exact h | apply List.mem_cons_of_mem))
            obtain ⟨d9, hsh9, tk09, tk19, ep9, pcs9, h19, h29, h39, h49⟩ := id H9
            k_steps
            exact counts_end (by k_asm) (by k_asm) off9 (by assumption) (by repeat (first | exact List.Mem.head _ | apply List.Mem.tail)) hn9 hys9
          case done2 =>
            intro D8 ys8 h8 tk8 g8 hys8 F8 N8 off8 hG8
            have nD8 := ne_nat <| Ne.symm (off8 (_, oS7) (.tail _ (.tail _ (.tail _ (.tail _ (.head _))))))
            have tl8 := fun oH oD => law_tailS (oH := oH) (oD := oD) Zk6 ne8
            have tl8' := tl8 (listOf (xs8.map Value.ref).toArray k8) (listOf vs9.toArray k9)
            k_steps
            · exact law_good (by k_asm) (by k_asm) (by (repeat (first | exact List.Mem.head _ | apply List.Mem.tail)); done) (by (repeat (first | exact List.Mem.head _ | apply List.Mem.tail)); done) (by (repeat (first | exact List.Mem.head _ | apply List.Mem.tail)); done) (by assumption) (by assumption)
            have hys8' : IntsAre ys8 (natZ pos) := by assumption
            have hpl8 : pos.length ≤ 1000 := by omega
            rename Obj.data _ = Data.cell (some (Value.ref D8)) => dS8
            refine tup_range (fun i => (List.range i).map fun a => (a, ((goneOf wish7 pos a : Nat) : Int))) (n := 4) (by rfl) (by k_asm) (by k_asm) (by assumption) (by assumption) (by rfl) (by decide) (by rfl) ?turn3 ?done3
            case turn3 =>
              intro I6 C6 D6 i6 t6 Ts6 X6 oI6 oC6 m6 h6 tk6 g6 E6 hi6 hl6 hp6 hX6 hoC6 hm6 F6 N6 off6 ne6 G6
              refine wpAny_tests_nil ?_
              simp only [if_true]
              have hi6' : i6 < pos.length := by omega
              obtain ⟨hb6, hc6, hd6⟩ := pow8_facts hi6
              have he6 : (8 : Int) ≠ 0 := by decide
              have hA6 := gone_eq (wish := wish7) hi6
              replace N6 := tup_front (o8 := lst ys8) N6 hd7 dS8 (by (repeat (first | exact List.Mem.head _ | apply List.Mem.tail)); done) (by (repeat (first | exact List.Mem.head _ | apply List.Mem.tail)); done) (by (repeat (first | exact List.Mem.head _ | apply List.Mem.tail)); done)
              k_steps
              rename (I6 < _ ∧ _) => lT6
              exact tup_add (by k_asm) (by k_asm) tup_sub off6 (by assumption) hl6 hp6 hX6 (tup_lt lT6) (by rw [List.range_succ, List.map_append]; rfl) trivial
            case done3 =>
              intro D6 Ts6 X6 h6 tk6 g6 hlt6 hpt6 hX6 F6 N6 off6 G6
              obtain ⟨vals6, pr6, va6⟩ := prIn_of N6 hpt6
              have e4 : (takes1 wish7 pos).take Ts6.length = takes1 wish7 pos := List.take_of_length_le (by rw [hlt6]; exact Nat.le_refl _)
              k_steps
              refine tup_pairs (prs := takes1 wish7 pos) (fun i => ((takes1 wish7 pos).take i).filter fun q => decide (q.2 > 0)) (by rfl) (by k_asm) (by k_asm) (by assumption) pr6 va6 (by rw [hlt6, List.length_map, List.length_range]; decide) (by rfl) ?turn4 ?done4
              case turn4 =>
                intro I4 C4 D4 i4 a4 v4 ta4 tv4 Ts4 X4 oI4 oC4 m4 h4 tk4 g4 E4 hi4 hl4 hp4 hX4 hoC4 hma4 hmb4 F4 N4 off4 ne4 G4
                k_steps
                · rename (I4 < _ ∧ _) => lT4
                  exact tup_add (by k_asm) (by k_asm) tup_sub0 off4 (by assumption) hl4 hp4 hX4 (tup_lt0 lT4) (filt_snoc hi4 (decide_eq_true (by assumption))) (pr6.mono fun p hp => .tail _ (List.mem_append_right _ hp))
                · exact tup_skip (by k_asm) (by k_asm) (fun p hp => hp) off4 (by assumption) hl4 hp4 hX4 (filt_same hi4 (decide_eq_false (by assumption))) (pr6.mono fun p hp => List.mem_append_right _ hp)
              case done4 =>
                intro D4 Ts4 X4 h4 tk4 g4 hl4 hp4 hX4 F4 N4 off4 G4
                rw [e4] at hl4 hp4
                have hl5 : (Ts4.take (number - 1)).length = (takes2 number wish7 pos).length := by rw [takes2, List.length_take, List.length_take, hl4]
                have hp5 : PairsAre X4 (Ts4.take (number - 1)) (takes2 number wish7 pos) := hp4.take (number - 1)
                have hnum5 : ((number : Nat) : Int) - 1 = ((number - 1 : Nat) : Int) := by omega
                have hz4 : (Ts4.map Value.ref).toArray.size ≤ sizeLine := by
                  have : Ts4.length ≤ 4 := by rw [hl4]; exact List.length_filter_le _ _
                  rw [List.size_toArray, List.length_map, sizeLine_eq]; omega
                have bD8 := off_neZ Zk6 off8 (by (repeat (first | exact List.Mem.head _ | apply List.Mem.tail | apply List.mem_append_right)); done) (by (repeat (first | exact List.Mem.head _ | apply List.Mem.tail | apply List.mem_append_right)); done) (by (repeat (first | exact List.Mem.head _ | apply List.Mem.tail | apply List.mem_append_right)); done) (by (repeat (first | exact List.Mem.head _ | apply List.Mem.tail | apply List.mem_append_right)); done) (by (repeat (first | exact List.Mem.head _ | apply List.Mem.tail | apply List.mem_append_right)); done) (by (repeat (first | exact List.Mem.head _ | apply List.Mem.tail | apply List.mem_append_right)); done) (by (repeat (first | exact List.Mem.head _ | apply List.Mem.tail | apply List.mem_append_right)); done)
                k_steps
                rename Fr _ _ _ _ => Fu
                try dsimp +zetaDelta only at Fu
                have F5u := fr_abs2 Fu
                refine tail_cut (o := o5') (oW := oW7) (k := k8) (sD := vs9.toArray) (kD := k9) (W := takesOf number wish7 pos) (x8 := (D8, lst ys8)) F5u Zk6 dS8 ?tailZ ?goZ
                case goZ =>
                  intro tail0
                  clear_value qk
                  k_steps
                  focus
                    rename takes2 _ _ _ = [] => hno5
                    refine tup_range (fun i => ((List.range i).filter fun a => decide ((pos.getD a 0 : Int) > 0)).map fun a => (a, (1 : Int))) (n := 4) (by rfl) (by k_asm) (by k_asm) (by assumption) (by assumption) (by rfl) (by decide) (by rfl) ?turn5 ?done5
                    case turn5 =>
                      intro I3 C3 D3 i3 t3 Ts3 X3 oI3 oC3 m3 h3 tk3 g3 E3 hi3 hlt3 hpt3 hX3 hoC3 hm3 F3 N3 off3 ne3 G3
                      have hi3' : i3 < pos.length := by omega
                      replace N3 := tup_front (o8 := lst ys8) N3 hd7 dS8 (by (repeat (first | exact List.Mem.head _ | apply List.Mem.tail | apply List.mem_append_right)); done) (by (repeat (first | exact List.Mem.head _ | apply List.Mem.tail | apply List.mem_append_right)); done) (by (repeat (first | exact List.Mem.head _ | apply List.Mem.tail | apply List.mem_append_right)); done)
                      k_steps
                      · rename (I3 < _ ∧ _) => lT3
                        exact tup_add (by k_asm) (by k_asm) tup_sub off3 (by assumption) hlt3 hpt3 hX3 (tup_lt lT3) (rng_snoc (decide_eq_true (by assumption))) trivial
                      · exact tup_skip (by k_asm) (by k_asm) tup_sub' off3 (by assumption) hlt3 hpt3 hX3 (rng_same (decide_eq_false (by assumption))) trivial
                    intro D3 Ts3 X3 h3 tk3 g3 hlt3 hpt3 hX3 F3 N3 off3 G3
                    have hl3 : (Ts3.take 1).length = (takes3 pos).length := by rw [takes3, List.length_take, List.length_take, hlt3]
                    have hp3 : PairsAre X3 (Ts3.take 1) (takes3 pos) := hpt3.take 1
                    have h13 : (1 : Int) = ((1 : Nat) : Int) := rfl
                    have hz3 : (Ts3.map Value.ref).toArray.size ≤ sizeLine := by
                      have : Ts3.length ≤ 4 := by rw [hlt3, List.length_map]; exact List.length_filter_le _ _
                      rw [List.size_toArray, List.length_map, sizeLine_eq]; omega
                    k_steps
                    rename Fr _ _ _ _ => Fu
                    try dsimp +zetaDelta only at Fu
                    have F5' := fr_abs1 Fu
                    obtain ⟨Z3, Ts0, vals0, N0, Zk3, pr0, va0, hl0, mD8, sZ3⟩ := takes_pack (o8 := lst ys8) (D₀ := D5) (X := X3) (W' := takesOf number wish7 pos) (by k_asm) Zk6 (by (repeat (first | exact List.Mem.head _ | apply List.Mem.tail | apply List.mem_append_right)); done) (by (repeat (first | exact List.Mem.head _ | apply List.Mem.tail | apply List.mem_append_right)); done) (by (repeat (first | exact List.Mem.head _ | apply List.Mem.tail | apply List.mem_append_right)); done) (by (repeat (first | exact List.Mem.head _ | apply List.Mem.tail | apply List.mem_append_right)); done) (by (repeat (first | exact List.Mem.head _ | apply List.Mem.tail | apply List.mem_append_right)); done) (by (repeat (first | exact List.Mem.head _ | apply List.Mem.tail | apply List.mem_append_right)); done) (by (repeat (first | exact List.Mem.head _ | apply List.Mem.tail | apply List.mem_append_right)); done) (by (repeat (first | exact List.Mem.head _ | apply List.Mem.tail | apply List.mem_append_right)); done) (by (repeat (first | exact List.Mem.head _ | apply List.Mem.tail | apply List.mem_append_right)); done) (fun p hp => by repeat (first | exact List.mem_append_left _ hp | apply List.mem_cons_of_mem)) (fun p hp => by repeat (first | exact hp | apply List.mem_cons_of_mem | apply List.mem_append_right)) hX3 (by (repeat (first | exact List.Mem.head _ | apply List.Mem.tail | apply List.mem_append_right)); done) (by (repeat (first | exact List.Mem.head _ | apply List.Mem.tail | apply List.mem_append_right)); done) (by (repeat (first | exact List.Mem.head _ | apply List.Mem.tail | apply List.mem_append_right)); done) (by (repeat (first | exact List.Mem.head _ | apply List.Mem.tail | apply List.mem_append_right)); done) (by (repeat (first | exact List.Mem.head _ | apply List.Mem.tail | apply List.mem_append_right)); done) (by (repeat (first | exact List.Mem.head _ | apply List.Mem.tail | apply List.mem_append_right)); done) (by (repeat (first | exact List.Mem.head _ | apply List.Mem.tail | apply List.mem_append_right)); done) (fun p hp => Nat.ne_of_lt (l5 p (.tail _ (List.mem_append_right _ hp)))) bD8 hl3 hp3 (if_pos hno5)
                    exact tail0 _ _ _ _ _ _ _ F5' N0 (by first | assumption | (dsimp only; assumption)) Zk3 pr0 va0 hl0 mD8 sZ3
                  focus
                    rename ¬ (takes2 _ _ _ = []) => hno5
                    obtain ⟨Z3, Ts0, vals0, N0, Zk3, pr0, va0, hl0, mD8, sZ3⟩ := takes_pack (o8 := lst ys8) (D₀ := D5) (X := X4) (W' := takesOf number wish7 pos) (by k_asm) Zk6 (by (repeat (first | exact List.Mem.head _ | apply List.Mem.tail | apply List.mem_append_right)); done) (by (repeat (first | exact List.Mem.head _ | apply List.Mem.tail | apply List.mem_append_right)); done) (by (repeat (first | exact List.Mem.head _ | apply List.Mem.tail | apply List.mem_append_right)); done) (by (repeat (first | exact List.Mem.head _ | apply List.Mem.tail | apply List.mem_append_right)); done) (by (repeat (first | exact List.Mem.head _ | apply List.Mem.tail | apply List.mem_append_right)); done) (by (repeat (first | exact List.Mem.head _ | apply List.Mem.tail | apply List.mem_append_right)); done) (by (repeat (first | exact List.Mem.head _ | apply List.Mem.tail | apply List.mem_append_right)); done) (by (repeat (first | exact List.Mem.head _ | apply List.Mem.tail | apply List.mem_append_right)); done) (by (repeat (first | exact List.Mem.head _ | apply List.Mem.tail | apply List.mem_append_right)); done) (fun p hp => by repeat (first | exact List.mem_append_left _ hp | apply List.mem_cons_of_mem)) (fun p hp => by repeat (first | exact hp | apply List.mem_cons_of_mem | apply List.mem_append_right)) hX4 (by (repeat (first | exact List.Mem.head _ | apply List.Mem.tail | apply List.mem_append_right)); done) (by (repeat (first | exact List.Mem.head _ | apply List.Mem.tail | apply List.mem_append_right)); done) (by (repeat (first | exact List.Mem.head _ | apply List.Mem.tail | apply List.mem_append_right)); done) (by (repeat (first | exact List.Mem.head _ | apply List.Mem.tail | apply List.mem_append_right)); done) (by (repeat (first | exact List.Mem.head _ | apply List.Mem.tail | apply List.mem_append_right)); done) (by (repeat (first | exact List.Mem.head _ | apply List.Mem.tail | apply List.mem_append_right)); done) (by (repeat (first | exact List.Mem.head _ | apply List.Mem.tail | apply List.mem_append_right)); done) (fun p hp => Nat.ne_of_lt (l5 p (.tail _ (List.mem_append_right _ hp)))) bD8 hl5 hp5 (if_neg hno5)
                    exact tail0 _ _ _ _ _ _ _ (by assumption) N0 (by first | assumption | (dsimp only; assumption)) Zk3 pr0 va0 hl0 mD8 sZ3
                case tailZ =>
                  intro h3 tk3 g3 D3 Z3 Ts0 vals0 F5' N0 G3' Zk3 pr0 va0 hl0 mD8 sZ3
                  k_unfold
                  dsimp only
                  k_steps
                  refine takes_loop2 (by rfl) pr0 va0 hl0 (takesOf_ok n1) (by assumption) hn6 hl6 (by rfl) (by rfl) (by rfl) (by decide +kernel) (by k_asm) (by k_asm) (by assumption) Zk3 ?turn7 ?done7
                  case turn7 =>
                    intro I2 oI2 a2 c2 m2 x2 ta2 tv2 Z2' cur2 h2' tk2' g2' E2 Q2 ha2 hx2 hm2 hcur2 hc2 hcm2 hm72 Zk2 hkZ2 back2 F2' N2' G2'
                    subst hm2
                    have hz2 : ((pos.getD a2 0 : Nat) : Int) - ((c2 : Nat) : Int) = ((pos.getD a2 0 - c2 : Nat) : Int) := by omega
                    have hlt2 : pos.getD a2 0 - c2 < pos.getD a2 0 := by omega
                    have ha2' : a2 < pos.length := by omega
                    have mD2 := hkZ2 _ mD8 (.inr (by intro e; cases e))
                    k_steps
                    exact back2 _ _ _ _ F6 N6 G6 Zk6 kp6
                  case done7 =>
                    intro Z2 o12 o22 h2 tk2 g2 Zk2 kp2 F2 N2 G2
                    try dsimp +zetaDelta only at F2
                    rw [wish_absorb2] at F2
                    have ok2 := takesOf_ok (number := number) (wish := wish7) (pos := pos) n1
                    have hn2 := (setAll_len (leftsOf pos (takesOf number wish7 pos)) pos).trans hn6
                    have hs2 := setAll_le7 ok2 hn6 hl6
                    have hfull := some_full hn6 (by assumption)
                    obtain ⟨hi2, hnz2⟩ := wish_next n1 n2 hn6 hl6 hz6 ham6 hfull hw7 ok7.i5 ok7.nzs
                    have hP2 : NotNil (pairsOf (ansAt number (bitM (setAll pos (leftsOf pos (takesOf number wish7 pos)))) [2, 1, 0])) := ⟨by
                      obtain ⟨a, ha, h0⟩ := hfull
                      exact law_P3' n1 n2 hn6 hl6 ok2 (takesOf_ne ha h0) hz6⟩
                    generalize setAll pos (leftsOf pos (takesOf number wish7 pos)) = new at Zk2 hn2 hs2 hP2 hnz2
                    dsimp only
                    k_steps
                    obtain ⟨valsN, prN, vaN⟩ := P5.prIn m5
                    have hIx := iter_off N7 (.tail _ (.tail _ (.tail _ (.tail _ (.tail _ (.tail _ (.tail _ (.head _)))))))) hIO7 Zk7 (fun p hp => .tail _ (.tail _ (.tail _ (.tail _ (.tail _ (.tail _ (.tail _ hp))))))) ((by assumption : xs8.length = 4).trans hn7.symm)
                    have keep2 : ∀ q ∈ (I7, oI7) :: Z7, (q.1 ∉ xs8 ∨ q.2.cls ≠ .ref 180) → q ∈ X5 ++ Z2 := fun q hq hc => List.mem_append_right _ (kp2 q (sZ3 q (kp6 q hq hc)) hc)
                    rename News _ _ _ _ => Nend
                    rename Fr _ _ _ _ => Fend
                    try dsimp +zetaDelta only at Fend
                    exact wish_end Fend ans_abs (cb_drop Nend (fun p hp => .tail _ hp)) (keep2 _ (.head _) (.inl hIx)) hIO7 hIb7 nd9 hd7 (by assumption)
                      ⟨by assumption, by assumption, dS8, Z5, hn2, hs2, prN.mono (fun p hp => List.mem_append_left _ hp), vaN, l5, keep2 _ ok7.tup (.inr (by intro e; cases e)), hi2, hnz2⟩
end SR
end
theorem PySem.Challenge.cw_sr0056_01_holds : PySem.Challenge.rw_sr0056_01.Holds :=
  SR.law_holds
