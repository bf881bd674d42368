import PyProof.Rows.All
import Wide.All
import OpenK.AllK
import Wide.FinOn
import PySem.Challenge.RW_in0102_01
set_option Elab.async false
set_option linter.all false

section
open PySem PySem.W PyProof.Rows
namespace Mine
set_option maxRecDepth 100000 in
set_option maxHeartbeats 8000000 in
open_top hd for PySem.Challenge.rw_in0102_01
end Mine
end

section
open PySem PySem.W PyProof.Rows
theorem Mine.clrHd (prog : Program) (w : World) (A : Around) (env : Env) (pos : Pos) (s : Shared) : True := by
  w_top off
  first
  | (have : wpAny (model prog w) A (PySem.eval (.Constant (.int 0) 0 pos) env) (fun _ _ => True) (fun _ _ => True) s := by (walk1; fail "x")); trivial
  | trivial
end

section
open PySem PySem.W PyProof.Rows PySem.Calls Builtin
set_option maxRecDepth 100000
set_option maxHeartbeats 4000000
namespace Mine
section
variable {prog : Program} {w : World} {h : Heap} {P : Params}
theorem lk_made (X : (hd.heap_39 P).In h) : Looks (model prog w) h (Bind.madeBy (.ref 58)) (some "dict.__new__") := Looks.of_peek X (by kernel_rfl)
theorem lk_base (X : (hd.heap_39 P).In h) : Looks (model prog w) h (Bind.staticBase (.ref 58)) (.ref 58) := Looks.of_peek X (by kernel_rfl)
theorem lk_subself (X : (hd.heap_39 P).In h) : Looks (model prog w) h (isSubtype (.ref 58) (.ref 58)) true := Looks.of_peek X (by kernel_rfl)
theorem lk_subdict (X : (hd.heap_39 P).In h) : Looks (model prog w) h (isSubtype (.ref 58) (.type "dict")) true := Looks.of_peek X (by kernel_rfl)
theorem lk_subdd (X : (hd.heap_39 P).In h) : Looks (model prog w) h (isSubtype (.ref 58) (.type "collections.defaultdict")) true := Looks.of_peek X (by kernel_rfl)
theorem lk_istype (X : (hd.heap_39 P).In h) : Looks (model prog w) h (isInstance (.ref 58) (.type "type")) true := Looks.of_peek X (by kernel_rfl)
theorem lk_call (X : (hd.heap_39 P).In h) : Looks (model prog w) h (specialOf (.ref 58) "__call__") (some (.builtin "type.__call__")) := looks_specialIn X (by kernel_rfl)
theorem lk_init (X : (hd.heap_39 P).In h) : Looks (model prog w) h (typeLookup (.ref 58) "__init__") (some (.builtin "collections.defaultdict.__init__")) := looks_findIn X (by kernel_rfl)
theorem lk_mro (X : (hd.heap_39 P).In h) : Looks (model prog w) h (mroOf (.ref 58)) [.ref 58, .type "collections.defaultdict", .type "dict", .type "object"] := Looks.of_peek X (by kernel_rfl)
theorem lk_isType (X : (hd.heap_39 P).In h) : Looks (model prog w) h (isType (.ref 58)) true := Looks.of_peek X (by kernel_rfl)
theorem lk_hasDel (X : (hd.heap_39 P).In h) : Looks (model prog w) h (classHasDel 58) false := Looks.of_peek X (by kernel_rfl)

noncomputable abbrev fdd (dx : Addr) (es : Array DictEntry) (ep : Nat) (f : Value) : Obj := { cls := .ref 58, dict := some dx, data := .dict es ep, slots := #[some f] }
noncomputable abbrev fdd0 (dx : Addr) : Obj := { cls := .ref 58, dict := some dx, data := .dict #[] }
variable {A : Around} {R : Result → Shared → Prop} {g : Array GenState} {d : Drawn} {t : Nat} {os : OsState}
theorem cls58 (X : (hd.heap_39 P).In h) : ∃ oc od cd sl, h.get? 58 = some ⟨oc, od, .cls cd, sl⟩ ∧ cd.hasDel = false := ⟨_, _, _, _, X 58 _ rfl, rfl⟩
theorem lk_chk_new (X : (hd.heap_39 P).In h) {f : Addr} : Looks (model prog w) h (checkBuiltinCall "dict.__new__" ⟨[.ref 58, .ref f], []⟩) () := Looks.of_peek X (by kernel_rfl)
theorem entry_dn : entryFor table "dict.__new__" = some Builtin.«dict.__new__» := entryFor_of_tree (by kernel_rfl)
theorem entry_ddi : entryFor table "collections.defaultdict.__init__" = some Builtin.«collections.defaultdict.__init__» := entryFor_of_tree (by kernel_rfl)
theorem entry_di : entryFor table "dict.__init__" = some Builtin.«dict.__init__» := entryFor_of_tree (by kernel_rfl)
theorem fdd_new (X : (hd.heap_39 P).In h) {f : Addr}
    (hq : R (.ok (.ret (.ref (h.objs.size + 1)))) ⟨(h.push emptyDict).push (fdd0 h.objs.size), g, d, t, os⟩) :
    codeAny (model prog w) A (.call (.builtin "dict.__new__") ⟨[.ref 58, .ref f], []⟩) R ⟨h, g, d, t, os⟩ := by
  have sub := lk_subdict (prog := prog) (w := w) X
  have ist := lk_isType (prog := prog) (w := w) X
  have mro := lk_mro (prog := prog) (w := w) X
  refine codeAny_call_builtin_at (Code.quiet_builtin _ (by decide +kernel)) entry_dn ((lk_chk_new X).at ?_)
  unfold Builtin.«dict.__new__»
  repeat lk
  have hC := Heap.get?_push_of_some { cls := .ref 58, dict := some (h.objs.size), data := .dict #[] } (Heap.get?_push_of_some emptyDict (X 58 _ rfl))
  repeat lk
  rw [Heap.size_push]
  exact hq

theorem sig_ddi : Manifest.signature? "collections.defaultdict.__init__" = some ⟨.any, "defaultdict", "defaultdict", .self, [⟨"args", .varPos, false⟩, ⟨"kwargs", .varKw, false⟩]⟩ := by kernel_rfl
theorem args_ddi (a b : Value) : argsOk "collections.defaultdict.__init__" ⟨[a, b], []⟩ := by unfold argsOk; rw [sig_ddi]; kernel_rfl
end
end Mine
end

section
open PySem PySem.W PyProof.Rows PySem.Calls Builtin
set_option maxRecDepth 100000
set_option maxHeartbeats 400000
namespace Mine
section
variable {prog : Program} {w : World} {h : Heap} {P : Params}
variable {A : Around} {R : Result → Shared → Prop} {g : Array GenState} {d : Drawn} {t : Nat} {os : OsState}
theorem xx1 : builtinKind "collections.defaultdict.__init__" = some .slot := by decide +kernel
theorem xx2 : splitId "collections.defaultdict.__init__" = some ("collections.defaultdict", "__init__") := by decide +kernel
theorem lk_chk_ddi (X : (hd.heap_39 P).In h) {x f : Addr} {dx : Addr} (hx : h.get? x = some (fdd0 dx)) : Looks (model prog w) h (checkBuiltinCall "collections.defaultdict.__init__" ⟨[.ref x, .ref f], []⟩) () := by
  intro A Q E s k q
  have t0 : Looks (model prog w) s.heap (typeOf (.ref x)) (.ref 58) := (Looks.ld (k _ _ hx)).andThen .now
  have t2 := (lk_subdd (prog := prog) (w := w) X).keeps k
  have t1 : Looks (model prog w) s.heap (isInstance (.ref x) (.type "collections.defaultdict")) true := by
    have := t0.andThen (f := fun t => isSubtype t (.type "collections.defaultdict")) t2
    exact this
  have ha := args_ddi (Value.ref x) (Value.ref f)
  have z := @check_slot (model prog w) A E s "collections.defaultdict.__init__" "collections.defaultdict" "__init__" (.ref x) [.ref f] [] Q xx1 xx2 t1 ha q
  exact z
theorem nd_update {α : Type} {M : Model} {A : Around} {Q : α → Shared → Prop} {E : Value → Shared → Prop} {s : Shared} {a : Addr} {p : Option Value} {f : Obj → Obj} {k : Unit → Sem α} {o : Obj} (ho : s.heap.get? a = some o)
    (h : wpAny M A (k ()) Q E { s with heap := s.heap.update a f }) : wpAny M A (.update a p f k) Q E s := fun Γ q hΓ => ⟨by rw [ho]; rfl, h Γ q hΓ⟩
theorem fn_call (X : (hd.heap_39 P).In h) {f : Addr} {of : Obj} (hf : h.get? f = some of) (hfc : of.cls = .type "function") : Looks (model prog w) h (specialOf (.ref f) "__call__") (some (.builtin "function.__call__")) := by
  have t0 : Looks (model prog w) h (typeOf (.ref f)) (.type "function") := by
    have := (Looks.ld (M := model prog w) (part := some headPart) hf).andThen (f := fun o => pure o.cls) (Looks.now (a := of.cls))
    rw [hfc] at this
    exact this
  exact t0.andThen (looks_findIn X (by kernel_rfl))
theorem k_no58 : ((hd.heap_39 P).all fun p => p.2.cls != .ref 58) = true := by kernel_rfl
theorem k_ne58 {a : Addr} {o : Obj} (e : (hd.heap_39 P).lookup a = some o) : o.cls ≠ .ref 58 := by
  have := List.all_eq_true.mp (k_no58 (P := P)) _ (mem_of_lookupK e)
  simpa using this
theorem K_same {h' : Heap} (X : (hd.heap_39 P).In h) {x : Addr} {o : Obj} (hx : h.get? x = some o) (hc : o.cls = .ref 58) (hs : Heap.SameBut x h h') : (hd.heap_39 P).In h' := by
  intro a o' e
  have hne : a ≠ x := by
    rintro rfl
    have e2 := X _ _ e
    rw [hx] at e2
    cases e2
    exact k_ne58 e hc
  rw [hs.2 a hne]
  exact X _ _ e
theorem lk_noOD (X : (hd.heap_39 P).In h) : Looks (model prog w) h (isSubtype (.ref 58) (.type "collections.OrderedDict")) false := Looks.of_peek X (by kernel_rfl)
theorem fdd_init (X : (hd.heap_39 P).In h) {x f dx : Addr} {of : Obj} (hx : h.get? x = some (fdd0 dx)) (hf : h.get? f = some of) (hfc : of.cls = .type "function")
    (hq : ∀ h', Heap.SameBut x h h' → h'.get? x = some (fdd dx #[] 0 (.ref f)) → R (.ok (.ret .none)) ⟨h', g, d, t, os⟩) :
    codeAny (model prog w) A (.call (.builtin "collections.defaultdict.__init__") ⟨[.ref x, .ref f], []⟩) R ⟨h, g, d, t, os⟩ := by
  refine codeAny_call_builtin_at (Code.quiet_builtin _ (by decide +kernel)) entry_ddi ((lk_chk_ddi X hx).at ?_)
  unfold Builtin.«collections.defaultdict.__init__»
  have tf := fn_call (prog := prog) (w := w) X hf hfc
  repeat lk
  refine nd_update hx ?_
  have hs := Heap.SameBut.update h x (fun o => { cls := o.cls, dict := o.dict, data := o.data, slots := (o.slots ++ Array.replicate (0 + 1 - o.slots.size) none).setIfInBounds 0 [Value.ref f].head? })
  have hx' := Heap.get?_update_self (fun o => { cls := o.cls, dict := o.dict, data := o.data, slots := (o.slots ++ Array.replicate (0 + 1 - o.slots.size) none).setIfInBounds 0 [Value.ref f].head? }) hx rfl
  generalize (h.update x (fun o => { cls := o.cls, dict := o.dict, data := o.data, slots := (o.slots ++ Array.replicate (0 + 1 - o.slots.size) none).setIfInBounds 0 [Value.ref f].head? })) = h' at hs hx' ⊢
  have z := hq h' hs hx'
  have X' := K_same X hx rfl hs
  have noOD := lk_noOD (prog := prog) (w := w) X'
  repeat (first | exact z | with_reducible refine wpAny_runValue ?_ | with_reducible refine codeAny_builtin entry_di ?_ | lk)

theorem fdd_make (X : (hd.heap_39 P).In h) {f : Addr} {of : Obj} (hf : h.get? f = some of) (hfc : of.cls = .type "function")
    (hq : ∀ h', (∀ b o, h.get? b = some o → h'.get? b = some o) → h'.get? h.objs.size = some emptyDict → h'.get? (h.objs.size + 1) = some (fdd h.objs.size #[] 0 (.ref f)) → R (.ok (.ret (.ref (h.objs.size + 1)))) ⟨h', g, d, t, os⟩) :
    codeAny (model prog w) A (.call (.ref 58) ⟨[.ref f], []⟩) R ⟨h, g, d, t, os⟩ := by
  have hC := X 58 _ rfl
  have call := lk_call (prog := prog) (w := w) X
  have made := lk_made (prog := prog) (w := w) X
  have mro := lk_mro (prog := prog) (w := w) X
  refine codeAny_of_tree ?_
  show wpAny _ _ (callAny (.ref 58) _) _ _ _
  refine nd_load hC ?_
  show wpAny _ _ (callAny.viaDunder (.ref 58) _) _ _ _
  unfold callAny.viaDunder
  refine wpAny_bind (call.at ?_)
  dsimp only
  rw [tc_bind]
  refine wpAny_bind (wpAny_pure (wpAny_bind (wpAny_pure ?_)))
  refine wpAny_pure (a := Fin.again (.call (.builtin "type.__call__") ⟨[.ref 58, .ref f], []⟩)) (And.intro rfl ?_)
  refine codeAny_call_builtin_at (Code.quiet_builtin _ (by decide +kernel)) entry_typeCall (check_slot tc_kind tc_split (lk_istype X) (tc_args _ _ _) ?_)
  unfold Builtin.«type.__call__»
  repeat (first | with_reducible refine wpAny_call ?_ | lk)
  refine fdd_new X ?_
  have k : ∀ b o, h.get? b = some o → ((h.push emptyDict).push (fdd0 h.objs.size)).get? b = some o := fun b o e => Heap.get?_push_of_some _ (Heap.get?_push_of_some _ e)
  have hx : ((h.push emptyDict).push (fdd0 h.objs.size)).get? (h.objs.size + 1) = some (fdd0 h.objs.size) := by heap_get
  have hdx : ((h.push emptyDict).push (fdd0 h.objs.size)).get? h.objs.size = some emptyDict := by heap_get
  have X1 := X.keeps k
  have t1 : Looks (model prog w) ((h.push emptyDict).push (fdd0 h.objs.size)) (typeOf (.ref (h.objs.size + 1))) (.ref 58) := (Looks.ld hx).andThen .now
  have s1 := lk_subself (prog := prog) (w := w) X1
  have i1 := lk_init (prog := prog) (w := w) X1
  have b1 : Looks (model prog w) ((h.push emptyDict).push (fdd0 h.objs.size)) (bindSpecial (.builtin "collections.defaultdict.__init__") (.ref (h.objs.size + 1))) (.builtin "collections.defaultdict.__init__", [.ref (h.objs.size + 1)]) := Looks.of_peek X1 (by kernel_rfl)
  have hf1 := k _ _ hf
  generalize hh1 : (h.push emptyDict).push (fdd0 h.objs.size) = h1 at *
  unfold isInstance callSpecial? specialOf
  repeat (first | with_reducible refine wpAny_call ?_ | lk)
  refine fdd_init X1 hx hf1 hfc fun h' hs hx' => ?_
  have ne : ∀ b o, h.get? b = some o → b ≠ h.objs.size + 1 := fun b o e => Nat.ne_of_lt (Nat.lt_succ_of_lt (Heap.lt_size e))
  have z := hq h' (fun b o e => (hs.2 b (ne b o e)).trans (k b o e)) ((hs.2 _ (Nat.ne_of_lt (Nat.lt_succ_self _))).trans hdx) hx'
  exact wpAny_pure (wpAny_pure z)
end
end Mine
end

section
open PySem PySem.W PyProof.Rows PySem.Calls Builtin
set_option maxRecDepth 100000
set_option maxHeartbeats 400000
namespace Mine
section
variable {prog : Program} {w : World} {P : Params} {A : Around} {s : Shared} {h₀ : Heap} {L : Addr} {m : Str → Option Value} {news : List (Addr × Obj)} {E : Value → Shared → Prop}
theorem fdd_N {f : Addr} {of : Obj} {Q : Value → Shared → Prop} (F : Fr h₀ L s.heap m) (X₀ : (hd.heap_39 P).In h₀) (N : News h₀ L s.heap news) (hf : (f, of) ∈ news) (hfc : of.cls = .type "function")
    (h : ∀ x dx h', Fr h₀ L h' m → News h₀ L h' ((x, fdd dx #[] 0 (.ref f)) :: (dx, emptyDict) :: news) → (∀ p ∈ news, p.1 < dx) → dx < x → x = dx + 1 → Q (.ref x) { s with heap := h' }) :
    wpAny (model prog w) A (call (.ref 58) [.ref f]) Q E s := by
  obtain ⟨hh, g, d, t, os⟩ := s
  have X := X₀.keeps F.keep
  refine wpAny_call (fdd_make X (N _ hf).1 hfc fun h' k hdx hx => ?_)
  have hL : L < hh.objs.size := F.ns.lt
  have fr : ∀ b, hh.objs.size ≤ b → h₀.get? b = none := fun b hb => Heap.get?_none_of_le (Nat.le_trans F.above (Nat.le_trans (Nat.le_of_lt hL) hb))
  refine h (hh.objs.size + 1) hh.objs.size h' ⟨F.ns.keeps k, fun b o e => k b o (F.keep b o e), F.above⟩ ?_ (fun p hp => Heap.lt_size (N p hp).1) (Nat.lt_succ_self _) rfl
  intro p hp
  rcases List.mem_cons.mp hp with rfl | hp
  · exact ⟨hx, Nat.ne_of_gt (Nat.lt_succ_of_lt hL), fr _ (Nat.le_succ _)⟩
  · rcases List.mem_cons.mp hp with rfl | hp
    · exact ⟨hdx, Nat.ne_of_gt hL, fr _ (Nat.le_refl _)⟩
    · exact ⟨k _ _ (N p hp).1, (N p hp).2⟩
end
end Mine
end

section
open PySem PySem.W PyProof.Rows PySem.Calls Builtin
set_option maxRecDepth 100000
set_option maxHeartbeats 400000
namespace Mine
section
variable {prog : Program} {w : World} {P : Params} {A : Around} {h : Heap} {g : Array GenState} {d : Drawn} {t : Nat} {os : OsState} {E : Value → Shared → Prop}
theorem nd_raise {α : Type} {M : Model} {A : Around} {Q : α → Shared → Prop} {E : Value → Shared → Prop} {s : Shared} {e : Value} (h : E e s) : wpAny M A (.raise e) Q E s := fun _ _ _ => h
noncomputable abbrev frzD (hs : Int) (tk : Tok) (gX : Addr) : Obj := { cls := .type "dict", data := .dict #[⟨hs, .str (Str.ofString "_frozen") tk, .ref gX⟩] 1 }
theorem inst58 {x dx : Addr} {es : Array DictEntry} {ep : Nat} {f : Value} {od : Obj} (hx : h.get? x = some (fdd dx es ep f)) (hdx : h.get? dx = some od) : W.InstAt h x (fdd dx es ep f) 58 (some od) := ⟨hx, rfl, rfl, hdx⟩
theorem find_miss : findObj (hd.heap_39 P) 58 (some emptyDict) (Str.ofString "_frozen") = some .missing := by kernel_rfl
theorem find_frz {hs : Int} {tk : Tok} {gX : Addr} : findObj (hd.heap_39 P) 58 (some (frzD hs tk gX)) (Str.ofString "_frozen") = some (.value (.ref gX)) := by kernel_rfl
theorem lk_ga (X : (hd.heap_39 P).In h) : Looks (model prog w) h (typeLookup (.ref 58) "__getattribute__") (some (.builtin "collections.defaultdict.__getattribute__")) := looks_findIn X (by kernel_rfl)
theorem lk_gat (X : (hd.heap_39 P).In h) : Looks (model prog w) h (typeLookup (.ref 58) "__getattr__") none := looks_findIn X (by kernel_rfl)
theorem lk_nomod (X : (hd.heap_39 P).In h) : Looks (model prog w) h (isSubtype (.ref 58) (.type "module")) false := Looks.of_peek X (by kernel_rfl)
theorem args_getattr3 (a b c : Value) : argsOk "getattr" ⟨[a, b, c], []⟩ := by unfold argsOk; kernel_rfl
theorem entry_gah : entryFor table "proto.getattr_hooked" = some Builtin.«proto.getattr_hooked» := entryFor_of_tree (by kernel_rfl)
theorem args_ga (a b : Value) : argsOk "collections.defaultdict.__getattribute__" ⟨[a, b], []⟩ := by unfold argsOk; kernel_rfl
theorem entry_ga : entryFor table "collections.defaultdict.__getattribute__" = some Builtin.«object.__getattribute__» := entryFor_alias (id' := "object.__getattribute__") (by kernel_rfl) rfl (by decide +kernel) (by kernel_rfl)
theorem kind_ga : builtinKind "collections.defaultdict.__getattribute__" = some .slot := by decide +kernel
theorem split_ga : splitId "collections.defaultdict.__getattribute__" = some ("collections.defaultdict", "__getattribute__") := by decide +kernel
theorem lk_bindga (X : (hd.heap_39 P).In h) (v : Value) : Looks (model prog w) h (bindSpecial (.builtin "collections.defaultdict.__getattribute__") v) (.builtin "collections.defaultdict.__getattribute__", [v]) := Looks.of_peek X (by kernel_rfl)
theorem getattr3_hit (X : (hd.heap_39 P).In h) {x dx : Addr} {es : Array DictEntry} {ep : Nat} {f : Value} {hs : Int} {tk tk' : Tok} {gX : Addr} {dflt : Value} {Q : Value → Shared → Prop}
    (hx : h.get? x = some (fdd dx es ep f)) (hdx : h.get? dx = some (frzD hs tk gX)) (hQ : Q (.ref gX) ⟨h, g, d, t, os⟩) :
    wpAny (model prog w) A (call (.builtin "getattr") [.ref x, .str (Str.ofString "_frozen") tk', dflt]) Q E ⟨h, g, d, t, os⟩ := by
  refine Calls.call_function_entry KB.kind_getattr KB.plain_getattr KB.entry_getattr (args_getattr3 _ _ _) ?_
  unfold Builtin.«getattr»
  have I := inst58 hx hdx
  have L0 : Looks (model prog w) h (typeOf (.ref x)) (.ref 58) := I.type
  have L1 := lk_ga (prog := prog) (w := w) X
  have L2 := lk_nomod (prog := prog) (w := w) X
  have L3 := looks_find (M := model prog w) X I find_frz
  have L4 := lk_gat (prog := prog) (w := w) X
  have L5 := lk_bindga (prog := prog) (w := w) X (.ref x)
  have L7 := lk_subdd (prog := prog) (w := w) X
  have L6 : Looks (model prog w) h (isInstance (.ref x) (.type "collections.defaultdict")) true := L0.andThen (f := fun t => isSubtype t (.type "collections.defaultdict")) L7
  repeat (first | with_reducible refine wpAny_attempt ?_ | with_reducible refine wpAny_call ?_ | lk)
  refine codeAny_call_builtin_at (Code.quiet_builtin _ (by decide +kernel)) entry_ga (@check_slot (model prog w) _ _ _ "collections.defaultdict.__getattribute__" "collections.defaultdict" "__getattribute__" (.ref x) _ [] _ kind_ga split_ga L6 (args_ga _ _) ?_)
  unfold Builtin.«object.__getattribute__»
  repeat (first | with_reducible refine wpAny_attempt ?_ | with_reducible refine wpAny_call ?_ | lk)
  exact ⟨_, rfl, hQ⟩
theorem lk_cut (X : (hd.heap_39 P).In h) : Looks (model prog w) h (typeNameCut 100 (.ref 58)) "FreezableDefaultDict" := Looks.of_peek X (by kernel_rfl)
theorem getattr3_miss (hh : A.handled = none) (X : (hd.heap_39 P).In h) {x dx : Addr} {es : Array DictEntry} {ep : Nat} {f : Value} {tk' : Tok} {dflt : Value} {Q : Value → Shared → Prop}
    (hx : h.get? x = some (fdd dx es ep f)) (hdx : h.get? dx = some emptyDict) (hQ : ∀ h' tk, (∀ b o, h.get? b = some o → h'.get? b = some o) → Q dflt ⟨h', g, d, tk, os⟩) :
    wpAny (model prog w) A (call (.builtin "getattr") [.ref x, .str (Str.ofString "_frozen") tk', dflt]) Q E ⟨h, g, d, t, os⟩ := by
  refine Calls.call_function_entry KB.kind_getattr KB.plain_getattr KB.entry_getattr (args_getattr3 _ _ _) ?_
  unfold Builtin.«getattr»
  have I := inst58 hx hdx
  have L0 : Looks (model prog w) h (typeOf (.ref x)) (.ref 58) := I.type
  have L1 := lk_ga (prog := prog) (w := w) X
  have L2 := lk_nomod (prog := prog) (w := w) X
  have L3 := looks_find (M := model prog w) X I find_miss
  have L4 := lk_gat (prog := prog) (w := w) X
  have L5 := lk_bindga (prog := prog) (w := w) X (.ref x)
  have L7 := lk_subdd (prog := prog) (w := w) X
  have L8 := lk_cut (prog := prog) (w := w) X
  have L6 : Looks (model prog w) h (isInstance (.ref x) (.type "collections.defaultdict")) true := L0.andThen (f := fun t => isSubtype t (.type "collections.defaultdict")) L7
  repeat (first | with_reducible refine wpAny_attempt ?_ | with_reducible refine wpAny_call ?_ | lk)
  refine codeAny_call_builtin_at (Code.quiet_builtin _ (by decide +kernel)) entry_ga (@check_slot (model prog w) _ _ _ "collections.defaultdict.__getattribute__" "collections.defaultdict" "__getattribute__" (.ref x) _ [] _ kind_ga split_ga L6 (args_ga _ _) ?_)
  unfold Builtin.«object.__getattribute__»
  repeat (first | with_reducible refine wpAny_raiseAttrError ?_ ?_ ?_ | with_reducible refine wpAny_attempt ?_ | with_reducible refine wpAny_call ?_ | lk)
  · exact hh
  · intro h' tk e He
    obtain ⟨t', u', he⟩ := He.there
    have T0 : Looks (model prog w) h' (typeOf (.ref e)) (.type "AttributeError") := (Looks.ld he).andThen .now
    have T1 : Looks (model prog w) h' (isInstance (.ref e) (.type "AttributeError")) true := T0.andThen (f := fun t => isSubtype t (.type "AttributeError")) (Looks.of_pure sub_AttributeError)
    unfold getattributeRaised
    have z := hQ h' tk He.keeps
    repeat (first | exact ⟨_, rfl, z⟩ | with_reducible refine nd_raise ?_ | lk)
  · decide +kernel
end
end Mine
end

section
open PySem PySem.W PyProof.Rows PySem.Calls Builtin
set_option maxRecDepth 100000
set_option maxHeartbeats 400000
namespace Mine
section
variable {prog : Program} {w : World} {P : Params} {A : Around} {h : Heap} {g : Array GenState} {d : Drawn} {t : Nat} {os : OsState} {E : Value → Shared → Prop}
noncomputable abbrev bmObj (x : Addr) : Obj := { cls := .type "builtin_function_or_method", data := .fields #[.builtin "collections.defaultdict.__missing__", .ref x] }
theorem lk_opq (X : (hd.heap_39 P).In h) : Looks (model prog w) h (opaqueClassAbove (.ref 58)) none := Looks.of_peek X (by kernel_rfl)
theorem lk_own_missing (X : (hd.heap_39 P).In h) : Looks (model prog w) h (classOwn (.type "collections.defaultdict") "__missing__") (some (.builtin "collections.defaultdict.__missing__")) := Looks.of_peek X (by kernel_rfl)
theorem lk_ty_missing : Looks (model prog w) h (typeOf (.builtin "collections.defaultdict.__missing__")) (.type "method_descriptor") := Looks.of_pure (by kernel_rfl)
theorem lk_get_md : Looks (model prog w) h (typeLookup (.type "method_descriptor") "__get__") (some (.builtin "method_descriptor.__get__")) := Looks.of_pure (by rw [typeLookup_type, builtinLookup_eq_fast]; kernel_rfl)
theorem kind_mdg : builtinKind "method_descriptor.__get__" = some .slot := by decide +kernel
theorem split_mdg : splitId "method_descriptor.__get__" = some ("method_descriptor", "__get__") := by decide +kernel
theorem entry_mdg : entryFor table "method_descriptor.__get__" = some Builtin.«method_descriptor.__get__» := entryFor_of_tree (by kernel_rfl)
theorem args_mdg (a b c : Value) : argsOk "method_descriptor.__get__" ⟨[a, b, c], []⟩ := by unfold argsOk; kernel_rfl
theorem told_missing : Manifest.toldItsClass.contains "collections.defaultdict.__missing__" = false := by decide +kernel
theorem md_get (X : (hd.heap_39 P).In h) {x : Addr} {ox : Obj} {R : Result → Shared → Prop} (hx : h.get? x = some ox) (hc : ox.cls = .ref 58)
    (hq : R (.ok (.ret (.ref h.objs.size))) ⟨h.push (bmObj x), g, d, t, os⟩) :
    codeAny (model prog w) A (.call (.builtin "method_descriptor.__get__") ⟨[.builtin "collections.defaultdict.__missing__", .ref x, .ref 58], []⟩) R ⟨h, g, d, t, os⟩ := by
  have L1 := lk_ty_missing (prog := prog) (w := w) (h := h)
  have L2 : Looks (model prog w) h (isInstance (.builtin "collections.defaultdict.__missing__") (.type "method_descriptor")) true := Looks.of_pure (by kernel_rfl)
  have L0 : Looks (model prog w) h (typeOf (.ref x)) (.ref 58) := by
    have := (Looks.ld (M := model prog w) (part := some headPart) hx).andThen (f := fun o => pure o.cls) (Looks.now (a := ox.cls))
    rw [hc] at this
    exact this
  have L7 := lk_subdd (prog := prog) (w := w) X
  have L6 : Looks (model prog w) h (isInstance (.ref x) (.type "collections.defaultdict")) true := L0.andThen (f := fun t => isSubtype t (.type "collections.defaultdict")) L7
  have hC := X 58 _ rfl
  refine codeAny_call_builtin_at (Code.quiet_builtin _ (by decide +kernel)) entry_mdg (@check_slot (model prog w) _ _ _ "method_descriptor.__get__" "method_descriptor" "__get__" (.builtin "collections.defaultdict.__missing__") _ [] _ kind_mdg split_mdg L2 (args_mdg _ _ _) ?_)
  unfold Builtin.«method_descriptor.__get__»
  repeat (first | simp only [told_missing, Bool.false_eq_true, if_false] | lk)
  exact hq
theorem lk_mro_after : (([Value.ref 58, .type "collections.defaultdict", .type "dict", .type "object"].dropWhile (· != .ref 58)).drop 1) = [.type "collections.defaultdict", .type "dict", .type "object"] := by decide +kernel
theorem super_getattr (X : (hd.heap_39 P).In h) {so x : Addr} {ox : Obj} {Q : Value → Shared → Prop} (hso : h.get? so = some (ks_superObj 58 x 58)) (hx : h.get? x = some ox) (hc : ox.cls = .ref 58) (hxC : x ≠ 58)
    (hq : Q (.ref h.objs.size) ⟨h.push (bmObj x), g, d, t + 1, os⟩) :
    wpAny (model prog w) A (getAttr (.ref so) (Str.ofString "__missing__") true) Q E ⟨h, g, d, t, os⟩ := by
  have L0 : Looks (model prog w) h (typeOf (.ref so)) (.type "super") := (Looks.ld hso).andThen .now
  have L1 : Looks (model prog w) h (typeLookup (.type "super") "__getattribute__") (some (.builtin "super.__getattribute__")) := Looks.of_pure F.ks_slot_super_ga.lookup
  have L2 : Looks (model prog w) h (bindSpecial (.builtin "super.__getattribute__") (.ref so)) (.builtin "super.__getattribute__", [.ref so]) := Looks.of_pure (F.ks_slot_super_ga.bind _)
  have L3 : Looks (model prog w) h (isInstance (.ref so) (.type "super")) true := L0.andThen (f := fun t => isSubtype t (.type "super")) (Looks.of_pure (by rw [isSubtype_type]; kernel_rfl))
  have L4 := lk_mro (prog := prog) (w := w) X
  have L5 := lk_own_missing (prog := prog) (w := w) X
  have L6 := lk_ty_missing (prog := prog) (w := w) (h := h)
  have L7 := lk_get_md (prog := prog) (w := w) (h := h)
  have L8 := lk_opq (prog := prog) (w := w) X
  have hne : (Value.ref x == Value.ref 58) = false := by simpa using hxC
  unfold getAttr getAttrBy
  repeat (first | with_reducible refine wpAny_attempt ?_ | with_reducible refine wpAny_call ?_ | lk)
  refine codeAny_call_builtin_at (Code.quiet_builtin _ (by decide +kernel)) F.ks_entry_super_ga (@check_slot (model prog w) _ _ _ "super.__getattribute__" "super" "__getattribute__" (.ref so) _ [] _ (by decide +kernel) (by decide +kernel) L3 (F.ks_gaArgs_super _ _) ?_)
  have hdt : (ks_superObj 58 x 58).data = .fields #[.ref 58, .ref x, .ref 58] := rfl
  have f0 : (#[.ref 58, .ref x, .ref 58] : Array Value)[0]? = some (.ref 58) := rfl
  have f1 : (#[.ref 58, .ref x, .ref 58] : Array Value)[1]? = some (.ref x) := rfl
  have f2 : (#[.ref 58, .ref x, .ref 58] : Array Value)[2]? = some (.ref 58) := rfl
  unfold Builtin.«super.__getattribute__»
  repeat (first | (with_reducible refine wpAny_field hso hdt f0 ?_) | (with_reducible refine wpAny_field hso hdt f1 ?_) | (with_reducible refine wpAny_field hso hdt f2 ?_) | (with_reducible refine Looks.at L4 ?_; rw [lk_mro_after]) | with_reducible refine ks_wpAny_notOpaque L8 ?_ | simp only [hne, Bool.false_eq_true, if_false] | with_reducible refine wpAny_attempt ?_ | with_reducible refine wpAny_call ?_ | lk)
  refine md_get X hx hc ?_
  repeat (first | exact hq | lk)
theorem entry_letgo : entryFor table "proto.let_go" = some Builtin.«proto.let_go» := entryFor_of_tree (by kernel_rfl)
theorem let_go {Q : Value → Shared → Prop} {s : Shared} (hq : Q .none s) : wpAny (model prog w) A (runValue (.builtin "proto.let_go" {})) Q E s := by
  refine wpAny_runValue (codeAny_builtin entry_letgo ?_)
  unfold Builtin.«proto.let_go»
  exact wpAny_pure hq
end
end Mine
end

section
open PySem PySem.W PyProof.Rows PySem.Calls Builtin
set_option maxRecDepth 100000
set_option maxHeartbeats 400000
namespace Mine
noncomputable def ents (w : World) (l : List (Str × Tok × Addr)) : List DictEntry := l.map fun e => ⟨hashStr w e.1, .str e.1 e.2.1, .ref e.2.2⟩
noncomputable def kid (l : List (Str × Tok × Addr)) (k : Str) : Option Addr := (l.find? (·.1 == k)).map (·.2.2)
section
variable {prog : Program} {w : World} {P : Params} {A : Around} {h : Heap} {g : Array GenState} {d : Drawn} {t : Nat} {os : OsState} {E : Value → Shared → Prop}
theorem ents_keys (l : List (Str × Tok × Addr)) : PySem.KeysOf (PySem.strKind prog w) (ents w l).toArray := by
  intro e he
  simp only [ents, List.mem_toArray, List.mem_map] at he
  obtain ⟨q, _, rfl⟩ := he
  exact ⟨q.1, by show Value.isStrOf q.1 (.str q.1 q.2.1) = true; simp [Value.isStrOf], rfl⟩
theorem ents_find (l : List (Str × Tok × Addr)) (k : Str) : (ents w l).toArray.findIdx? (fun e => (PySem.strKind prog w).is k e.key) = l.findIdx? (fun e => e.1 == k) := by
  rw [List.findIdx?_toArray, ents, List.findIdx?_map]
  congr 1
theorem dget {l : List (Str × Tok × Addr)} {x : Addr} {o : Obj} {ep : Nat} {k : Str} {tk : Tok} {Q : Option Value → Shared → Prop} (hx : h.get? x = some o) (ho : o.data = .dict (ents w l).toArray ep)
    (hQ : Q ((kid l k).map Value.ref) ⟨h, g, d, t + 1, os⟩) : wpAny (model prog w) A (dictGet x (.str k tk)) Q E ⟨h, g, d, t, os⟩ := by
  unfold dictGet
  refine wpAny_holding (wpAny_bind (wpAny_pyHash_str (wpAny_bind ?_)))
  refine wpAny_dictFind_of (knd := PySem.strKind prog w) (k := k) (by show Value.isStrOf k (.str k tk) = true; simp [Value.isStrOf]) hx ho (ents_keys l) ?_
  rw [ents_find]
  cases hf : l.findIdx? (fun e => e.1 == k) with
  | none =>
    have : kid l k = none := by
      unfold kid
      rw [List.findIdx?_eq_none_iff] at hf
      have : l.find? (fun e => e.1 == k) = none := List.find?_eq_none.mpr fun e he => by simpa using hf e he
      rw [this]; rfl
    rw [this] at hQ
    exact wpAny_pure hQ
  | some i =>
    have hk : kid l k = (l[i]?).map (·.2.2) := by
      unfold kid
      obtain ⟨hi, hp, hn⟩ := List.findIdx?_eq_some_iff_getElem.mp hf
      have : l.find? (fun e => e.1 == k) = some l[i] := List.find?_eq_some_iff_getElem.mpr ⟨hp, i, hi, rfl, fun j hj => by simpa using hn j hj⟩
      rw [this, List.getElem?_eq_getElem hi]
    refine wpAny_bind (wpAny_dictEntries hx ho ?_)
    have : ((ents w l).toArray[i]?).map (·.val) = (kid l k).map Value.ref := by
      rw [hk, List.getElem?_toArray, ents, List.getElem?_map, Option.map_map, Option.map_map]; rfl
    rw [this]
    exact wpAny_pure hQ
theorem entry_dgi : entryFor table "dict.__getitem__" = some Builtin.«dict.__getitem__» := entryFor_of_tree (by kernel_rfl)
theorem lk_gi (X : (hd.heap_39 P).In h) : Looks (model prog w) h (typeLookup (.ref 58) "__getitem__") (some (.builtin "dict.__getitem__")) := looks_findIn X (by kernel_rfl)
theorem lk_bindgi (X : (hd.heap_39 P).In h) (v : Value) : Looks (model prog w) h (bindSpecial (.builtin "dict.__getitem__") v) (.builtin "dict.__getitem__", [v]) := Looks.of_peek X (by kernel_rfl)
theorem args_dgi (a b : Value) : argsOk "dict.__getitem__" ⟨[a, b], []⟩ := by unfold argsOk; kernel_rfl
theorem ty58 {x : Addr} {ox : Obj} (hx : h.get? x = some ox) (hc : ox.cls = .ref 58) : Looks (model prog w) h (typeOf (.ref x)) (.ref 58) := by
  have := (Looks.ld (M := model prog w) (part := some headPart) hx).andThen (f := fun o => pure o.cls) (Looks.now (a := ox.cls))
  rw [hc] at this
  exact this
theorem kind_dgi : builtinKind "dict.__getitem__" = some .method := by decide +kernel
theorem split_dgi : splitId "dict.__getitem__" = some ("dict", "__getitem__") := by decide +kernel
theorem check_meth {M : Model} {s : Shared} {i owner n : String} {self : Value} {rest : List Value} {kw : List (Str × Value)} {Q : Unit → Shared → Prop}
    (hk : builtinKind i = some .method) (hs : splitId i = some (owner, n)) (hi : Looks M s.heap (isInstance self (.type owner)) true) (ha : argsOk i ⟨self :: rest, kw⟩) (q : Q () s) :
    wpAny M A (checkBuiltinCall i ⟨self :: rest, kw⟩) Q E s := by
  simp only [checkBuiltinCall, hk, hs]
  refine wpAny_bind (hi.here ?_)
  simp only [Bool.not_true, Bool.false_eq_true, if_false]
  cases hsig : Manifest.signature? i with
  | none => exact wpAny_pure q
  | some sig =>
    simp only [argsOk, hsig] at ha
    have h2 : Bind.checkArgs i sig ⟨self :: rest, kw⟩ = pure () := ha
    show wpAny M A (Bind.checkArgs i sig ⟨self :: rest, kw⟩) Q E s
    rw [h2]; exact wpAny_pure q
theorem getItem_hit (X : (hd.heap_39 P).In h) {l : List (Str × Tok × Addr)} {x dx : Addr} {ep : Nat} {f : Value} {k : Str} {tk : Tok} {a : Addr} {Q : Value → Shared → Prop} (hx : h.get? x = some (fdd dx (ents w l).toArray ep f))
    (hk : kid l k = some a) (hQ : Q (.ref a) ⟨h, g, d, t + 1, os⟩) : wpAny (model prog w) A (getItem (.ref x) (.str k tk)) Q E ⟨h, g, d, t, os⟩ := by
  have L0 := ty58 (prog := prog) (w := w) hx rfl
  have L1 := lk_gi (prog := prog) (w := w) X
  have L2 := lk_bindgi (prog := prog) (w := w) X (.ref x)
  have L3 := lk_subdict (prog := prog) (w := w) X
  have L4 : Looks (model prog w) h (isInstance (.ref x) (.type "dict")) true := L0.andThen (f := fun t => isSubtype t (.type "dict")) L3
  have hC := X 58 _ rfl
  unfold getItem
  repeat (first | with_reducible refine wpAny_attempt ?_ | with_reducible refine wpAny_call ?_ | lk)
  refine codeAny_call_builtin_at (Code.quiet_builtin _ (by decide +kernel)) entry_dgi (@check_meth _ _ (model prog w) _ "dict.__getitem__" "dict" "__getitem__" (.ref x) _ [] _ kind_dgi split_dgi L4 (args_dgi _ _) ?_)
  unfold Builtin.«dict.__getitem__»
  repeat (first | with_reducible refine dget hx rfl ?_ | with_reducible refine wpAny_call ?_ | lk)
  rw [hk]
  repeat lk
  exact hQ
theorem lk_missing (X : (hd.heap_39 P).In h) : Looks (model prog w) h (typeLookup (.ref 58) "__missing__") (some (.ref 48)) := looks_findIn X (by kernel_rfl)
theorem lk_bindmi (X : (hd.heap_39 P).In h) (v : Value) : Looks (model prog w) h (bindSpecial (.ref 48) v) (.ref 48, [v]) := Looks.of_peek X (by kernel_rfl)
theorem getItem_miss (X : (hd.heap_39 P).In h) {l : List (Str × Tok × Addr)} {x dx : Addr} {ep : Nat} {f : Value} {k : Str} {tk : Tok} {Q : Value → Shared → Prop} (hx : h.get? x = some (fdd dx (ents w l).toArray ep f))
    (hx1 : (x == sysModules) = false) (hk : kid l k = none) (hQ : codeAny (model prog w) A.in1 (.call (.ref 48) ⟨[.ref x, .str k tk], []⟩) (fun r s' => match r with | .ok (.ret v) => Q v s' | .ok _ => False | .error e => E e s') ⟨h, g, d, t + 1, os⟩) :
    wpAny (model prog w) A (getItem (.ref x) (.str k tk)) Q E ⟨h, g, d, t, os⟩ := by
  have L0 := ty58 (prog := prog) (w := w) hx rfl
  have L1 := lk_gi (prog := prog) (w := w) X
  have L2 := lk_bindgi (prog := prog) (w := w) X (.ref x)
  have L3 := lk_subdict (prog := prog) (w := w) X
  have L4 : Looks (model prog w) h (isInstance (.ref x) (.type "dict")) true := L0.andThen (f := fun t => isSubtype t (.type "dict")) L3
  have L5 := lk_missing (prog := prog) (w := w) X
  have L6 := lk_bindmi (prog := prog) (w := w) X (.ref x)
  have hC := X 58 _ rfl
  unfold getItem
  repeat (first | with_reducible refine wpAny_attempt ?_ | with_reducible refine wpAny_call ?_ | lk)
  refine codeAny_call_builtin_at (Code.quiet_builtin _ (by decide +kernel)) entry_dgi (@check_meth _ _ (model prog w) _ "dict.__getitem__" "dict" "__getitem__" (.ref x) _ [] _ kind_dgi split_dgi L4 (args_dgi _ _) ?_)
  unfold Builtin.«dict.__getitem__» Builtin.Dict.missed
  rw [Around.under_plainId (by decide +kernel)]
  repeat (first | (with_reducible refine dget hx rfl ?_; rw [hk]) | simp only [hx1, Bool.false_eq_true, if_false] | with_reducible refine wpAny_call ?_ | lk)
  refine codeAny_mono hQ fun r s' z => ?_
  obtain ⟨h2, g2, d2, t2, os2⟩ := s'
  rcases r with e | f
  · exact z
  · cases f with
    | ret v => repeat (first | exact z | lk)
    | _ => exact z.elim
theorem entry_dsd : entryFor table "dict.setdefault" = some Builtin.«dict.setdefault» := entryFor_of_tree (by kernel_rfl)
theorem entry_ddm : entryFor table "collections.defaultdict.__missing__" = some Builtin.«collections.defaultdict.__missing__» := entryFor_of_tree (by kernel_rfl)
theorem lk_noOD' (X : (hd.heap_39 P).In h) : Looks (model prog w) h (isSubtype (.ref 58) (.type "collections.OrderedDict")) false := Looks.of_peek X (by kernel_rfl)
theorem kid_none {l : List (Str × Tok × Addr)} {k : Str} (hk : kid l k = none) : l.findIdx? (fun e => e.1 == k) = none := by
  rw [List.findIdx?_eq_none_iff]
  intro e he
  unfold kid at hk
  have := List.find?_eq_none.mp (Option.map_eq_none_iff.mp hk) e he
  simpa using this
theorem dfind_none {l : List (Str × Tok × Addr)} {x : Addr} {o : Obj} {ep : Nat} {k : Str} {tk : Tok} {Q : Option Nat → Shared → Prop} (hx : h.get? x = some o) (ho : o.data = .dict (ents w l).toArray ep) (hk : kid l k = none)
    (hQ : Q none ⟨h, g, d, t, os⟩) : wpAny (model prog w) A (dictFind x (.str k tk) (hashStr w k)) Q E ⟨h, g, d, t, os⟩ := by
  refine wpAny_dictFind_of (knd := PySem.strKind prog w) (k := k) (by show Value.isStrOf k (.str k tk) = true; simp [Value.isStrOf]) hx ho (ents_keys l) ?_
  rw [ents_find, kid_none hk]
  exact hQ
theorem ents_push (l : List (Str × Tok × Addr)) (k : Str) (tk : Tok) (a : Addr) : (ents w l).toArray.push ⟨hashStr w k, .str k tk, .ref a⟩ = (ents w (l ++ [(k, tk, a)])).toArray := by
  simp [ents]
theorem setdefault_new (X : (hd.heap_39 P).In h) {l : List (Str × Tok × Addr)} {x dx a : Addr} {ep : Nat} {f : Value} {k : Str} {tk : Tok} {R : Result → Shared → Prop} (hx : h.get? x = some (fdd dx (ents w l).toArray ep f))
    (hx1 : (x == sysModules) = false) (hk : kid l k = none) (hl : l.length ≤ 100)
    (hR : ∀ h', Heap.SameBut x h h' → h'.get? x = some (fdd dx (ents w (l ++ [(k, tk, a)])).toArray (ep + 1) f) → R (.ok (.ret (.ref a))) ⟨h', g, d, t + 1, os⟩) :
    codeAny (model prog w) A (.builtin "dict.setdefault" ⟨[.ref x, .str k tk, .ref a], []⟩) R ⟨h, g, d, t, os⟩ := by
  have L0 := ty58 (prog := prog) (w := w) hx rfl
  have L3 := lk_noOD' (prog := prog) (w := w) X
  have L4 : Looks (model prog w) h (isInstance (.ref x) (.type "collections.OrderedDict")) false := L0.andThen (f := fun t => isSubtype t (.type "collections.OrderedDict")) L3
  refine codeAny_builtin entry_dsd ?_
  unfold Builtin.«dict.setdefault»
  repeat (first | (with_reducible refine dfind_none hx rfl hk ?_) | simp only [hx1, Bool.false_eq_true, if_false] | with_reducible refine wpAny_call ?_ | with_reducible refine wpAny_pyHash_str ?_ | (with_reducible refine wpAny_updateDictKeys hx rfl ?_ ?_ ?_) | lk)
  · refine hR _ (Heap.SameBut.update ..) ?_
    rw [Heap.get?_update_self _ hx rfl]
    show some (fdd dx ((ents w l).toArray.push _) (ep + 1) f) = _
    rw [show ({ hash := hashStr w k, key := Value.str k tk, val := (some (Value.ref a)).getD Value.none } : DictEntry) = ⟨hashStr w k, .str k tk, .ref a⟩ from rfl, ents_push]
  · simp only [ents, List.size_toArray, List.length_map, sizeLine_eq]; omega
  · simp
theorem plain_ddm : plainId "collections.defaultdict.__missing__" = true := by decide +kernel
theorem nd_call {α : Type} {M : Model} {A : Around} {Q : α → Shared → Prop} {E : Value → Shared → Prop} {s : Shared} {c : Code} {l : List Value} {k : Result → Sem α}
    (hc : codeAny M A c (fun r s' => wpAny M A (k r) Q E s') s) : wpAny M A (.call c none false l k) Q E s := fun Γ p hΓ =>
  wpCode_mono (fun r s' h' => h' Γ _ hΓ) (hc _ p rfl (hΓ.enter c none p (by intro x; cases x)))
end
end Mine
end

section
open PySem PySem.W PyProof.Rows PySem.Calls Builtin
set_option maxRecDepth 100000
set_option maxHeartbeats 400000
namespace Mine
section
variable {prog : Program} {w : World} {P : Params} {A : Around} {h : Heap} {g : Array GenState} {d : Drawn} {t : Nat} {os : OsState} {E : Value → Shared → Prop}
theorem lk_istypet (X : (hd.heap_39 P).In h) : Looks (model prog w) h (typeOf (.ref 58)) (.type "type") := Looks.of_peek X (by kernel_rfl)
theorem dm_run (X : (hd.heap_39 P).In h) {x dx fa : Addr} {es : Array DictEntry} {ep : Nat} {k : Str} {tk : Tok} {of : Obj} {fd : FuncData} {R : Result → Shared → Prop} (hx : h.get? x = some (fdd dx es ep (.ref fa)))
    (hf : h.get? fa = some of) (hfd : of.data = .func fd)
    (hQ : codeAny (model prog w) A.in1 (.call (.ref fa) ⟨[], []⟩) (fun r s' => match r with | .ok (.ret v) => codeAny (model prog w) A (.builtin "dict.setdefault" ⟨[.ref x, .str k tk, v], []⟩) R s' | .ok _ => False | .error e => R (.error e) s') ⟨h, g, d, t, os⟩) :
    codeAny (model prog w) A (.builtin "collections.defaultdict.__missing__" ⟨[.ref x, .str k tk], []⟩) R ⟨h, g, d, t, os⟩ := by
  refine codeAny_builtin entry_ddm ?_
  rw [Around.under_plainId plain_ddm]
  unfold Builtin.«collections.defaultdict.__missing__»
  obtain ⟨oc, od, odt, osl⟩ := of
  dsimp only at hfd
  subst hfd
  repeat (first | with_reducible refine nd_call ?_ | with_reducible refine wpAny_call ?_ | lk)
  refine codeAny_mono hQ fun r s' z => ?_
  obtain ⟨h2, g2, d2, t2, os2⟩ := s'
  rcases r with e | f
  · exact nd_raise z
  · cases f with
    | ret v => exact nd_pure (wpAny_pure (And.intro (Code.quiet_builtin _ (by decide +kernel)) z))
    | _ => exact z.elim
theorem bm_call (X : (hd.heap_39 P).In h) {x q dx : Addr} {es : Array DictEntry} {ep : Nat} {f : Value} {k : Str} {tk : Tok} {Q : Value → Shared → Prop} (hq : h.get? q = some (bmObj x)) (hx : h.get? x = some (fdd dx es ep f))
    (hQ : codeAny (model prog w) A (.builtin "collections.defaultdict.__missing__" ⟨[.ref x, .str k tk], []⟩) (fun r s' => match r with | .ok (.ret v) => Q v s' | .ok _ => False | .error e => E e s') ⟨h, g, d, t, os⟩) :
    wpAny (model prog w) A (call (.ref q) [.str k tk]) Q E ⟨h, g, d, t, os⟩ := by
  have L0 := ty58 (prog := prog) (w := w) hx rfl
  have hC := X 58 _ rfl
  have L1 := lk_istypet (prog := prog) (w := w) X
  have L2 := lk_nomod (prog := prog) (w := w) X
  refine wpAny_call (codeAny_of_tree ?_)
  show wpAny _ _ (callAny (.ref q) _) _ _ _
  unfold callAny
  repeat (first | lk)
  exact ⟨Code.quiet_builtin _ (by decide +kernel), hQ⟩
end
end Mine
end

section
open PySem PySem.W PyProof.Rows PySem.Calls Builtin
set_option maxRecDepth 100000
set_option maxHeartbeats 400000
namespace Mine
noncomputable abbrev Led := List (Addr × Obj)
noncomputable def Off (a b : Led) : Prop := ∀ p ∈ a, ∀ q ∈ b, p.1 ≠ q.1
structure GG where
  p : Program
  loose : List Str
  mean : ExcName → Option Value
  mg : Str → Option Value
  mb : Str → Option Value
structure Sit (w : World) (G : GG) (A : Around) (L : Addr) (base h₀ : Heap) : Prop where
  fr : ∃ env outer A₀, Below A₀ base outer h₀ ∧ A.frames = some (env :: outer) ∧ env.frame = some L ∧ env.scope.kind = .function
  X : (hd.heap_39 w.params).In h₀
  T : Top G.p G.loose G.mean G.mg G.mb h₀
  hh : A.handled = none
  C1 : CodeHd base 75 71
  C2 : CodeHd base 54 50
noncomputable def Does (w : World) (G : GG) (base : Heap) (n : Nat) (c : Code) (pre : Led) (post : Value → Led → Prop) : Prop :=
  ∀ (A : Around) (L : Addr) (h₀ : Heap) (m : Str → Option Value) (mine : Led) (s : Shared) (R : Result → Shared → Prop),
    Sit w G A L base h₀ → A.depth + n < recursionLimit → A.units + 8 * n < cLine → Fr h₀ L s.heap m → News h₀ L s.heap (mine ++ pre) → Off mine pre →
    (∀ r σ' h' tk', Fr h₀ L h' m → News h₀ L h' (mine ++ σ') → Off mine σ' → post r σ' → R (.ok (.ret r)) { s with heap := h', toks := tk' }) →
    codeAny (model Challenge.rw_in0102_01.row.prog w) A c R s
theorem News.sub {h₀ h : Heap} {L : Addr} {a b : Led} (N : News h₀ L h a) (hs : ∀ p ∈ b, p ∈ a) : News h₀ L h b := fun p hp => N p (hs p hp)
theorem Does.mono {w : World} {G : GG} {base : Heap} {n n' : Nat} {c : Code} {pre : Led} {post post' : Value → Led → Prop} (h : Does w G base n c pre post) (hn : n ≤ n') (hp : ∀ r σ, post r σ → post' r σ) : Does w G base n' c pre post' :=
  fun A L h₀ m mine s R S hd hu F N O k => h A L h₀ m mine s R S (by omega) (by omega) F N O fun r σ' h' tk' F' N' O' p => k r σ' h' tk' F' N' O' (hp r σ' p)
noncomputable def upd (l : Led) (a : Addr) (o : Obj) : Led := l.map fun p => if p.1 = a then (a, o) else p
theorem mem_upd_ne {l : Led} {a b : Addr} {o o' : Obj} (h : (b, o') ∈ l) (hne : b ≠ a) : (b, o') ∈ upd l a o :=
  List.mem_map.mpr ⟨(b, o'), h, by simp [hne]⟩
theorem mem_upd_self {l : Led} {a : Addr} {o o' : Obj} (h : (a, o') ∈ l) : (a, o) ∈ upd l a o :=
  List.mem_map.mpr ⟨(a, o'), h, by simp⟩
theorem of_mem_upd {l : Led} {a : Addr} {o : Obj} {p : Addr × Obj} (h : p ∈ upd l a o) : (p = (a, o) ∧ ∃ o', (a, o') ∈ l) ∨ (p ∈ l ∧ p.1 ≠ a) := by
  obtain ⟨q, hq, rfl⟩ := List.mem_map.mp h
  by_cases e : q.1 = a
  · left; simp only [e, if_true, true_and]; exact ⟨q.2, e ▸ hq⟩
  · right; simp only [e, if_false]; exact ⟨hq, e⟩
theorem upd_keys (l : Led) (a : Addr) (o : Obj) : (upd l a o).map (·.1) = l.map (·.1) := by
  unfold upd; rw [List.map_map]; apply List.map_congr_left; intro p _; by_cases e : p.1 = a <;> simp [e]
theorem upd_off {l : Led} {a : Addr} {o : Obj} (h : ∀ p ∈ l, p.1 ≠ a) : upd l a o = l := by
  unfold upd; conv => rhs; rw [← List.map_id l]
  apply List.map_congr_left; intro p hp; simp [h p hp]
theorem upd_append (l l' : Led) (a : Addr) (o : Obj) : upd (l ++ l') a o = upd l a o ++ upd l' a o := List.map_append
theorem upd_cons (p : Addr × Obj) (l : Led) (a : Addr) (o : Obj) : upd (p :: l) a o = (if p.1 = a then (a, o) else p) :: upd l a o := rfl
theorem News.upd {h₀ h h' : Heap} {L a : Addr} {o o' : Obj} {l : Led} (N : News h₀ L h l) (hm : (a, o) ∈ l) (hs : Heap.SameBut a h h') (ho : h'.get? a = some o') : News h₀ L h' (upd l a o') := by
  intro p hp
  rcases of_mem_upd hp with ⟨rfl, _⟩ | ⟨hp, hne⟩
  · exact ⟨ho, (N _ hm).2⟩
  · exact ⟨(hs.2 _ hne).trans (N p hp).1, (N p hp).2⟩
theorem Fr.upd {h₀ h h' : Heap} {L a : Addr} {m : Str → Option Value} {o : Obj} {l : Led} (F : Fr h₀ L h m) (N : News h₀ L h l) (hm : (a, o) ∈ l) (hs : Heap.SameBut a h h') : Fr h₀ L h' m :=
  ⟨let ⟨oL, es, ep, hL, r⟩ := F.ns; ⟨oL, es, ep, (hs.2 L fun e => (N _ hm).2.1 e.symm).trans hL, r⟩,
   fun b o' e => (hs.2 b fun e' => by have := (N _ hm).2.2; rw [← e', e] at this; cases this).trans (F.keep b o' e), F.above⟩
theorem News.fun {h₀ h : Heap} {L a : Addr} {o o' : Obj} {l : Led} (N : News h₀ L h l) (h1 : (a, o) ∈ l) (h2 : (a, o') ∈ l) : o = o' :=
  Option.some.inj ((N _ h1).1.symm.trans (N _ h2).1)

/-- the table of the code of a lambda, made or not -/
noncomputable def tab71 : Option Addr → Array Value
  | none => #[]
  | some c => #[rawInt 46, rawInt 32, .ref c]
noncomputable def tab50 : Option Addr → Array Value
  | none => #[]
  | some c => #[rawInt 9, rawInt 23, .ref c]
structure St where
  tb : Option Addr
  tc : Option Addr
  its : Array Value
  n : Nat
  objs : Led
noncomputable abbrev St.led (Rn : Addr) (S : St) : Led := (71, tabObj (tab71 S.tb)) :: (50, tabObj (tab50 S.tc)) :: (Rn, W.listOf S.its S.n) :: S.objs
noncomputable def CodeOk (q : Str) (l : Led) (c : Addr) : Prop := ∃ oc vs t, (c, oc) ∈ l ∧ oc.data = .fields vs ∧ vs[1]? = some (.str q t)
noncomputable def q71 : Str := Str.ofString "_law_tree" ++ Str.ofString ".<locals>." ++ Str.ofString "<lambda>"
noncomputable def q50 : Str := Str.ofString "FreezableDefaultDict.freeze" ++ Str.ofString ".<locals>." ++ Str.ofString "<lambda>"
structure St.Ok (Rn : Addr) (S : St) : Prop where
  r71 : @Ne Nat Rn 71
  r50 : @Ne Nat Rn 50
  off : ∀ p ∈ S.objs, @Ne Nat p.1 71 ∧ @Ne Nat p.1 50 ∧ @Ne Nat p.1 Rn
  big : ∀ p ∈ S.objs, @LT.lt Nat _ 71 p.1
  cb : ∀ c, S.tb = some c → CodeOk q71 S.objs c
  cc : ∀ c, S.tc = some c → CodeOk q50 S.objs c
  fns : ∀ a o o', (a, o) ∈ S.objs → (a, o') ∈ S.objs → o = o'
end Mine
end

section
open PySem PySem.W PyProof.Rows
namespace Mine
theorem lim0 {d b l : Nat} (h : d + b < l) : d < l := Nat.lt_of_le_of_lt (Nat.le_add_right d b) h
theorem lim2 {d b l x y : Nat} (h : d + b < l) (e : x + y ≤ b) : d + x + y < l := by
  rw [Nat.add_assoc]; exact Nat.lt_of_le_of_lt (Nat.add_le_add_left e d) h
theorem lim3 {d b l x y z : Nat} (h : d + b < l) (e : x + y + z ≤ b) : d + x + y + z < l := by
  rw [Nat.add_assoc d x y]; exact lim2 h e
theorem limk0 {d x b l : Nat} (h : d + x + b < l) : d < l := lim0 (lim0 h)
theorem limk {d k a b l x y : Nat} (h : d + a * (k + 1) + b < l) (e : x + y ≤ a + b) : d + x + y < l := by
  rw [Nat.add_assoc] at h
  exact lim2 h (Nat.le_trans e (Nat.add_le_add_right (Nat.le_mul_of_pos_right a (Nat.succ_pos k)) b))
theorem limk' {d k a b l x : Nat} (h : d + a * (k + 1) + b < l) (e : x ≤ a) : d + x + a * k + b < l := by
  rw [Nat.add_assoc] at h
  refine lim3 h (Nat.add_le_add_right ?_ b)
  rw [Nat.mul_succ, Nat.add_comm x]
  exact Nat.add_le_add_left e _
theorem lim_le {a b c : Nat} (h : a + b ≤ c) : b ≤ c := Nat.le_trans (Nat.le_add_left b a) h
theorem om_c0 {c : Int} (h : 0 ≤ c) (g : c < 1) : c = 0 := Int.le_antisymm (Int.lt_add_one_iff.mp g) h
theorem om_m3 {c : Int} (h : ¬ c = 0) (h1 : 0 ≤ c) (h2 : c < 3) : c = 1 ∨ c = 2 := by omega
theorem om_sz {a n : Nat} (h : a + (n + 1) ≤ 4) : a ≤ 20 := Nat.le_trans (Nat.le_add_right ..) (Nat.le_trans h (by decide))
theorem om_sz2 {a n : Nat} (h : a + (n + 1) ≤ 4) : a + 1 + n ≤ 4 := by rw [Nat.add_right_comm]; exact h
theorem om_d0 {c : Int} (h : 0 ≤ c) : 0 ≤ c / 3 := Int.ediv_nonneg h (by decide)
theorem om_d3 {c p : Int} (h : c < p * 3) : c / 3 < p := Int.ediv_lt_of_lt_mul (by decide) h
theorem om_row {a b c S i : Nat} (h : a ≤ 11) (hs : 4000 ≤ S) (hb : b ≤ 1) (hc : c ≤ min i a) : c + b ≤ S :=
  Nat.le_trans (Nat.add_le_add (Nat.le_trans hc (Nat.le_trans (Nat.min_le_right ..) h)) hb) (Nat.le_trans (by decide) hs)
theorem not_and1 {a b : Prop} (h : ¬ a) : ¬ (a ∧ b) := fun x => h x.1
theorem min3 {i n m : Nat} (h : n ≤ m) : min i n ≤ m := Nat.le_trans (Nat.min_le_right ..) h
theorem om_k6 {a k : Nat} (h : a + (k + 1) = 6) : k ≤ 6 := Nat.le_trans (Nat.le_succ k) (Nat.le_trans (Nat.le_add_left (k + 1) a) (Nat.le_of_eq h))
theorem om_k6' {a k : Nat} (h : a + (k + 1) = 6) : a + 1 + k = 6 := (Nat.add_right_comm a 1 k).trans h
theorem om_v3 {v p S : Nat} (h : v ≤ 3 * p) (hp : p ≤ 729) (hs : 4000 ≤ S) : v ≤ S := Nat.le_trans h (Nat.le_trans (Nat.mul_le_mul_left 3 hp) (Nat.le_trans (by decide) hs))
theorem om_v4 {v x p S : Nat} (h : v ≤ 3 * p) (hp : p ≤ 729) (hs : 4000 ≤ S) (hx : x ≤ p) : v + x ≤ S :=
  Nat.le_trans (Nat.add_le_add (Nat.le_trans h (Nat.mul_le_mul_left 3 hp)) (Nat.le_trans hx hp)) (Nat.le_trans (by decide) hs)
theorem om_u20 {a k u : Nat} (h : a + (k + 1) = 6) (hu : u ≤ 10 + a) : u ≤ 20 := by
  have g : 10 + a ≤ 10 + 6 := Nat.add_le_add_left (Nat.le_trans (Nat.le_add_right a (k + 1)) (Nat.le_of_eq h)) 10
  exact Nat.le_trans hu (Nat.le_trans g (by decide))
theorem om_u1 {a u c : Nat} (hu : u ≤ 10 + a) (hc : c ≤ 1) : u + c ≤ 10 + (a + 1) := by rw [← Nat.add_assoc]; exact Nat.add_le_add hu hc
theorem om_no {a : Nat} (h : a + 0 = 6) (g : a ≤ 5) : False := absurd (Nat.le_trans (Nat.le_of_eq h.symm) g) (by decide)
theorem om_lt {i j n : Nat} (h : j < min i n) : j < n := Nat.lt_of_lt_of_le h (Nat.min_le_right ..)
theorem om_ir {i j n : Nat} (h : j < min i n) (e : i = j) : False := absurd e (Nat.ne_of_gt (Nat.lt_of_lt_of_le h (Nat.min_le_left ..)))
theorem om_le1 {a b : Nat} (h : a + 1 ≤ b) : a ≤ b - 1 := Nat.le_sub_one_of_lt h
/-- the sum of one turn's runs stays under its bound -/
theorem om_b0 {s q f t two : Nat} (h : s + q < 50000) (hf : f ≤ 3 * (two - 1)) (h2 : two ≤ t) (h1 : 1 ≤ two) (h3 : q = 4 * t) : s + f + 1 + t < 50000 := by omega
theorem om_b1 {s q f t two s1 : Nat} (h : s + q < 50000) (hf : f ≤ 3 * (two - 1)) (h2 : two ≤ t) (h1 : 1 ≤ two) (h3 : q = 4 * t) (i1 : s1 = s + f) : s1 < 100000 := by
  subst i1; exact Nat.lt_trans (lim0 (lim0 (om_b0 h hf h2 h1 h3))) (by decide)
theorem om_b2 {s q f t two s1 s2 e : Nat} (h : s + q < 50000) (hf : f ≤ 3 * (two - 1)) (h2 : two ≤ t) (h1 : 1 ≤ two) (h3 : q = 4 * t) (i1 : s1 = s + f) (i2 : s2 = s1 + e) (he : e ≤ 1) : s2 + t < 50000 := by
  subst i1 i2; exact Nat.lt_of_le_of_lt (Nat.add_le_add_right (Nat.add_le_add_left he _) t) (om_b0 h hf h2 h1 h3)
theorem om_b3 {s f e c : Nat} : s + f + e + c = s + (f + (e + c)) := by rw [Nat.add_assoc (s + f), Nat.add_assoc s]
theorem om_ts : ∀ {t : Nat}, t < 2 → t = 0 ∨ t = 1
  | 0, _ => .inl rfl
  | 1, _ => .inr rfl
  | _ + 2, h => absurd (Nat.lt_of_succ_lt_succ (Nat.lt_of_succ_lt_succ h)) (Nat.not_lt_zero _)
theorem om_63 {n : Nat} (h : ¬ ((63 : Nat) : Int) < (n : Int)) : n ≤ 63 := Nat.le_of_not_lt fun g => h (Int.ofNat_lt.mpr g)
theorem om_t1 {t : Nat} (g : t < 2) : t ≤ 1000 := Nat.le_trans (Nat.le_of_lt g) (by decide)
theorem om_a1 {s t : Nat} (h : s ≤ 168 * t) (g : t < 2) : s < 1000 := Nat.lt_of_le_of_lt (Nat.le_trans h (Nat.mul_le_mul_left 168 (Nat.le_of_lt_succ g))) (by decide)
theorem om_a2 {s t d : Nat} (h : s ≤ 168 * t) (g : t < 2) (hd : d ≤ 56) : s + d + 2 * d < 10000 :=
  Nat.lt_of_le_of_lt (Nat.add_le_add (Nat.add_le_add (Nat.le_trans h (Nat.mul_le_mul_left 168 (Nat.le_of_lt_succ g))) hd) (Nat.mul_le_mul_left 2 hd)) (by decide)
theorem om_a3 {s d e : Nat} (h : d ≤ 56) (g : e ≤ 56) (hs : s = 0 + 3 * d + 3 * e) : s ≤ 1000 :=
  Nat.le_trans (Nat.le_of_eq hs) (Nat.le_trans (Nat.add_le_add (Nat.add_le_add (Nat.le_refl 0) (Nat.mul_le_mul_left 3 h)) (Nat.mul_le_mul_left 3 g)) (by decide))
theorem om_a4 {d h f : Nat} (hd : d ≤ 56) (e : d = h + f) : h ≤ 100 := Nat.le_trans (Nat.le_add_right h f) (Nat.le_trans (Nat.le_of_eq e.symm) (Nat.le_trans hd (by decide)))
theorem om_a5 {s s2 d e c1 c2 h0 h1 f0 f1 g0 g1 : Nat} (hd : d ≤ 56) (he : e ≤ 56) (hs : s = 0 + 3 * d + 3 * e) (h2 : s2 = s + c1 + c2) (e0 : d = h0 + f0) (e1 : e = h1 + f1) (b1 : c1 = g0) (b2 : c2 = g1) (q1 : g0 ≤ h0) (q2 : g1 ≤ h1) : s2 ≤ 1000 := by
  subst b1 b2 h2
  exact Nat.le_trans (Nat.add_le_add (Nat.add_le_add (Nat.le_trans (Nat.le_of_eq hs) (Nat.add_le_add (Nat.add_le_add (Nat.le_refl 0) (Nat.mul_le_mul_left 3 hd)) (Nat.mul_le_mul_left 3 he))) (Nat.le_trans q1 (om_a4 hd e0))) (Nat.le_trans q2 (om_a4 he e1))) (by decide)
theorem om_a6 {s s2 d e c1 c2 h0 h1 f0 f1 g0 g1 : Nat} (hs : s = 0 + 3 * d + 3 * e) (h2 : s2 = s + c1 + c2) (e0 : d = h0 + f0) (e1 : e = h1 + f1) (b1 : c1 = g0) (b2 : c2 = g1) : (s2 : Int) = 3 * ((h0 : Int) + (f0 : Int) + ((h1 : Int) + (f1 : Int))) + (g0 : Int) + (g1 : Int) := by
  subst b1 b2 h2 hs e0 e1
  rw [Nat.zero_add, ← Nat.mul_add]; rfl
theorem lt2 {a b c : Nat} (h : a + 1 + 1 < b) (g : b < c) : a + 1 + 1 < c := Nat.lt_trans h g
theorem two_ne {a x : Nat} (h : a + 1 + 1 < x) : x ≠ a + 1 ∧ x ≠ a + 1 + 1 := ⟨Nat.ne_of_gt (Nat.lt_of_succ_lt h), Nat.ne_of_gt h⟩
theorem lt_two {a x : Nat} (h : a + 1 + 1 < x) : a < x := Nat.lt_of_succ_lt (Nat.lt_of_succ_lt h)
theorem fa2 {α : Type} {P : α → Prop} {a b : α} (h1 : P a) (h2 : P b) : ∀ p ∈ [a, b], P p := fun p hp => by
  rcases List.mem_cons.mp hp with rfl | hp
  · exact h1
  · rw [List.mem_singleton.mp hp]; exact h2
theorem fa4 {α : Type} {P : α → Prop} {a b c d : α} (h1 : P a) (h2 : P b) (h3 : P c) (h4 : P d) : ∀ p ∈ [a, b, c, d], P p := fun p hp => by
  rcases List.mem_cons.mp hp with rfl | hp
  · exact h1
  rcases List.mem_cons.mp hp with rfl | hp
  · exact h2
  · exact fa2 h3 h4 p hp
theorem fa5 {α : Type} {P : α → Prop} {a b c d e : α} (h1 : P a) (h2 : P b) (h3 : P c) (h4 : P d) (h5 : P e) : ∀ p ∈ [a, b, c, d, e], P p := fun p hp => by
  rcases List.mem_cons.mp hp with rfl | hp
  · exact h1
  · exact fa4 h2 h3 h4 h5 p hp
theorem fa6 {α : Type} {P : α → Prop} {a b c d e f : α} (h1 : P a) (h2 : P b) (h3 : P c) (h4 : P d) (h5 : P e) (h6 : P f) : ∀ p ∈ [a, b, c, d, e, f], P p := fun p hp => by
  rcases List.mem_cons.mp hp with rfl | hp
  · exact h1
  · exact fa5 h2 h3 h4 h5 h6 p hp
theorem fa9 {α : Type} {P : α → Prop} {a b c d e f g i j : α} (h1 : P a) (h2 : P b) (h3 : P c) (h4 : P d) (h5 : P e) (h6 : P f) (h7 : P g) (h8 : P i) (h9 : P j) : ∀ p ∈ [a, b, c, d, e, f, g, i, j], P p := fun p hp => by
  rcases List.mem_cons.mp hp with rfl | hp
  · exact h1
  rcases List.mem_cons.mp hp with rfl | hp
  · exact h2
  rcases List.mem_cons.mp hp with rfl | hp
  · exact h3
  · exact fa6 h4 h5 h6 h7 h8 h9 p hp
theorem i1000 {i n : Nat} (h : i ≤ n) (g : n ≤ 100) : i < 1000 := Nat.lt_of_le_of_lt h (Nat.lt_of_le_of_lt g (by decide))
theorem j1000 {i n : Nat} (h : i ≤ n) (g : n ≤ 100) : i + 1 < 1000 := Nat.lt_of_le_of_lt (Nat.succ_le_succ (Nat.le_trans h g)) (by decide)
theorem i4000 {i n S : Nat} (h : i ≤ n) (g : n ≤ 100) (hs : 4000 ≤ S) : i ≤ S := Nat.le_trans h (Nat.le_trans g (Nat.le_trans (by decide) hs))
theorem n4000 {n S : Nat} (g : n ≤ 100) (hs : 4000 ≤ S) : n ≤ S := Nat.le_trans g (Nat.le_trans (by decide) hs)
theorem s4000 {a n i S : Nat} (h : a ≤ 100) (g : n ≤ 100) (hs : 4000 ≤ S) : a + (n - i) ≤ S := Nat.le_trans (Nat.add_le_add h (Nat.le_trans (Nat.sub_le n i) g)) (Nat.le_trans (by decide) hs)
theorem dec1 {n i m : Nat} (h : i < n) : n - (i + 1) + m < n - i + m := Nat.add_lt_add_right (Nat.sub_succ_lt_self n i h) m
theorem dec2 {n i m : Nat} (h : i < n) : m + (n - (i + 1)) < m + (n - i) := Nat.add_lt_add_left (Nat.sub_succ_lt_self n i h) m
theorem dec3 {n i m j : Nat} (h : i < n) (g : j < m) : n - (i + 1) + (m - (j + 1)) < n - i + (m - j) := Nat.add_lt_add (Nat.sub_succ_lt_self n i h) (Nat.sub_succ_lt_self m j g)
theorem end1 {n i : Nat} (h : i < n) (g : ¬ i + 1 < n) : i + 1 = n := Nat.le_antisymm h (Nat.le_of_not_lt g)
theorem end0 {n i : Nat} (h : i ≤ n) (g : ¬ i < n) : i = n := Nat.le_antisymm h (Nat.le_of_not_lt g)
/-- the bounds of a run over a tree, by the nodes counted -/
theorem om_f1 {s s1 q sm t x y : Nat} (h : s + 2 * q < 10000) (hc : q = 1 + sm) (h1 : x = t + y) (h2 : x ≤ sm) (hs : s1 = s + 2 * t) : s1 + 2 * y < 10000 := by
  subst hs h1 hc
  refine Nat.lt_of_le_of_lt ?_ h
  rw [Nat.add_assoc, ← Nat.mul_add]
  exact Nat.add_le_add_left (Nat.mul_le_mul_left 2 (Nat.le_trans h2 (Nat.le_add_left ..))) s
theorem om_f2 {s s1 s2 q sm : Nat} (h : s + 2 * q < 10000) (hc : q = 1 + sm) (hs : s1 = s + 2 * sm) (h2 : s2 = s1) : s2 + 1 < 100000 := by
  subst h2 hs hc
  refine Nat.lt_trans (Nat.lt_of_le_of_lt ?_ h) (by decide)
  rw [Nat.mul_add, Nat.add_comm (2 * 1)]
  exact Nat.add_le_add_left (Nat.le_succ (2 * sm + 1)) s
theorem om_f4 {s s1 s2 s3 s4 q sm : Nat} (hc : q = 1 + sm) (hs : s1 = s + 2 * sm) (h2 : s2 = s1) (h3 : s3 = s2 + 1) (h4 : s4 = s3 + 1) : s4 = s + 2 * q := by
  subst h4 h3 h2 hs hc
  rw [Nat.mul_add, Nat.add_comm (2 * 1)]; rfl
theorem skip1 {α : Type} {a b : α} {l : List α} : ∀ p ∈ a :: l, p ∈ a :: b :: l := fun p hp => by
  rcases List.mem_cons.mp hp with rfl | hp
  · exact .head _
  · exact .tail _ (.tail _ hp)
theorem skip2 {α : Type} {a b c : α} {l : List α} : ∀ p ∈ a :: l, p ∈ a :: b :: c :: l := fun p hp => by
  rcases List.mem_cons.mp hp with rfl | hp
  · exact .head _
  · exact .tail _ (.tail _ (.tail _ hp))
theorem skip3 {α : Type} {a b c d : α} {l : List α} : ∀ p ∈ a :: l, p ∈ a :: b :: c :: d :: l := fun p hp => by
  rcases List.mem_cons.mp hp with rfl | hp
  · exact .head _
  · exact .tail _ (.tail _ (.tail _ (.tail _ hp)))
theorem swap1 {α : Type} {a b : α} {l : List α} : ∀ p ∈ a :: b :: l, p ∈ b :: a :: l := fun p hp => by
  rcases List.mem_cons.mp hp with rfl | hp
  · exact .tail _ (.head _)
  rcases List.mem_cons.mp hp with rfl | hp
  · exact .head _
  · exact .tail _ (.tail _ hp)
theorem off_set {I : Addr} {pre post : List (Addr × Obj)} {a : Addr} {o o' : Obj} (h : ∀ q ∈ pre ++ (a, o) :: post, q.1 ≠ I) : ∀ q ∈ pre ++ (a, o') :: post, q.1 ≠ I := fun q hq => by
  rcases List.mem_append.mp hq with hq | hq
  · exact h q (List.mem_append_left _ hq)
  rcases List.mem_cons.mp hq with rfl | hq
  · exact h (a, o) (List.mem_append_right _ (.head _))
  · exact h q (List.mem_append_right _ (.tail _ hq))
theorem off_set2 {I : Addr} {pre post : List (Addr × Obj)} {a b : Addr} {o o' u u' : Obj} (h : ∀ q ∈ pre ++ (a, o) :: (b, u) :: post, q.1 ≠ I) : ∀ q ∈ pre ++ (a, o') :: (b, u') :: post, q.1 ≠ I := fun q hq => by
  rcases List.mem_append.mp hq with hq | hq
  · exact h q (List.mem_append_left _ hq)
  rcases List.mem_cons.mp hq with rfl | hq
  · exact h (a, o) (List.mem_append_right _ (.head _))
  rcases List.mem_cons.mp hq with rfl | hq
  · exact h (b, u) (List.mem_append_right _ (.tail _ (.head _)))
  · exact h q (List.mem_append_right _ (.tail _ (.tail _ hq)))
end Mine
end

section
open PySem PySem.W PyProof.Rows PySem.Calls Builtin
set_option maxRecDepth 100000
set_option maxHeartbeats 1000000
set_option pp.deepTerms false
set_option pp.deepTerms.threshold 6
namespace Mine
/-- the lambda that stands in the second line of a def of the top: its parameters, body, scope -/
noncomputable def lam71 (P : Params) : Arguments × Expr × Scope := match (hd.heap_39 P).lookup 76 with
  | some ⟨_, _, .func fd, _⟩ => (match fd.body with
    | .stmts [_, .Return (some (.Call _ [.Lambda a b sc _] _ _)) _] => (a, b, sc)
    | _ => (default, default, default))
  | _ => (default, default, default)
noncomputable def lamO (P : Params) (cR c' : Addr) (pm ctv : Value) : Obj := kla_obj (Str.ofString "<lambda>") q71 (lam71 P).1 (lam71 P).2.1 (lam71 P).2.2 [(Str.ofString "runs", cR)] pm c' ctv
noncomputable def LamOk (P : Params) (l : Led) (Rn : Addr) (o : Obj) : Prop := ∃ cR c' pm ctv oc, o = lamO P cR c' pm ctv ∧ (cR, oc) ∈ l ∧ oc.data = .cell (some (.ref Rn)) ∧ CodeOk q71 l c'
noncomputable def LamE (P : Params) (l : Led) (Rn : Addr) (o : Obj) (c' : Addr) : Prop := ∃ cR pm ctv oc, o = lamO P cR c' pm ctv ∧ (cR, oc) ∈ l ∧ oc.data = .cell (some (.ref Rn))
theorem lam_eq (P : Params) : ∃ a b sc, lam71 P = (a, b, sc) := ⟨_, _, _, rfl⟩
local macro_rules | `(tactic| k_all) => `(tactic| assumption)
local macro_rules | `(tactic| walk_at "call ref") => `(tactic| (k_here; (with_reducible show wpAny _ _ (call (Value.ref 58) [Value.ref _]) _ _ _); k_dflt (refine' fdd_N ?k1 ?k2 ?k3 ?k4 ?k5 ?_; (case k1 => k_asm); (case k2 => k_asm); (case k3 => k_asm); (case k4 => k_mem); (case k5 => exact rfl); k_whole); intro x' dx' h' F' N' l1 l2 lx; (try k_lt l1); (try k_lt2 l2)))
local macro_rules | `(tactic| walk_at "enterC") => `(tactic| k_dflt (refine' code_defC ?k1 ?k2 ?k3 ?k4 ?k5 ?kA ?kF ?kK ?k6 ?k7 ?k8 ?k9 ?kB ?kD ?_ ?c2 ?c3 ?c4; (case kA => exact rfl); (case kF => assumption); (case kK => assumption); (case k1 => k_asm); (case k2 => k_asm); (case k3 => k_asm); (case k4 => k_asm); (case k5 => k_asm); (case k6 => k_is); (case k7 => k_is); (case k8 => ((try dsimp only); omega)); (case k9 => first | exact BindsTo.of_eq rfl | exact binds_K (by k_in) rfl (by k_is) rfl rfl rfl | fail "k_enter: no rule for these arguments"); (case kB => exact rfl); (case kD => decide +kernel); (case c2 => exact rfl); (case c3 => exact rfl); (case c4 => exact rfl); k_whole; intro g' L' h' tk' cells' FG' F' N' Y' B' X' T' l1; (try k_lt l1); k_cells Y'; (try simp only [List.cons_append, List.nil_append] at N'); (try dsimp only); (try k_lift B'); (try k_fold)))
variable {w : World} {G : GG} {A A₀ : Around} {env : Env} {outer : List Env} {base h₀ : Heap} {L : Addr} {m : Str → Option Value} {news : Led} {s : Shared} {Rn : Addr} {its : Array Value} {n : Nat} {R : Result → Shared → Prop}
theorem tree_none (hA : A.frames = some (env :: outer)) (hf : env.frame = some L) (hke : env.scope.kind = .function) (hh : A.handled = none)
   (B : Below A₀ base outer h₀) (F : Fr h₀ L s.heap m) (X : (hd.heap_39 w.params).In h₀) (N : News h₀ L s.heap ((71, tabObj #[]) :: (Rn, W.listOf its n) :: news)) (T : Top G.p G.loose G.mean G.mg G.mb h₀)
   (C : CodeHd base 75 71) (hp : A.depth + 3 < recursionLimit) (hsz : its.size < 100000) (hRn : ∀ p ∈ news, p.1 ≠ Rn) (h71 : ∀ p ∈ news, p.1 ≠ 71) (hR71 : @Ne Nat Rn 71)
   (ret : ∀ (x dx f c' : Addr) (lo : Nat) (o : Obj) (v : Value) (extra : Led) (h' : Heap) (tk' : Nat), Fr h₀ L h' m →
      News h₀ L h' ((x, fdd dx #[] 0 (.ref f)) :: (dx, emptyDict) :: (f, o) :: (71, tabObj (tab71 (some c'))) :: (Rn, W.listOf (its.push v) (n + 1)) :: (extra ++ news)) →
      LamE w.params extra Rn o c' → CodeOk q71 extra c' → (∀ p ∈ news, @LT.lt Nat _ p.1 lo) → @LT.lt Nat _ 71 lo → @LT.lt Nat _ Rn lo → @LT.lt Nat _ lo x → @LT.lt Nat _ lo dx → @LT.lt Nat _ lo f → (∀ p ∈ extra, @LT.lt Nat _ lo p.1) → @LT.lt Nat _ f dx → @LT.lt Nat _ dx x → x = dx + 1 → (∀ p ∈ extra, @LT.lt Nat _ p.1 f) →
      R (.ok (.ret (.ref x))) { s with heap := h', toks := tk' }) :
   codeAny (model Challenge.rw_in0102_01.row.prog w) A (.call (.ref 76) ⟨[.ref Rn], []⟩) R s := by
  obtain ⟨hd9, dp, fr, gd, un⟩ := A
  dsimp only at hA hh hp
  subst hA hh
  revert X; k_fill; intro X
  walk_at "enterC"
  k_steps
  rename_i g1 L1 h1 tk1 FG1 B1 X1 T1 l1 o1 d1 h2 F2 N2 f1 c1 oc1 vs1 t1 ct1 h3 tk3 F3 N3 d2 d3 l2 l3 x1 dx1 h4 F4 N4 lx l4 l5 kF kN Tc kX
  have lo1 := l1.1
  have lo2 := l1.2.1
  have hm : ∀ p ∈ ((x1, fdd dx1 #[] 0 (.ref f1)) :: (dx1, emptyDict) :: (f1, lamO w.params (L1 + 1) c1 ((G.mg (Str.ofString "__name__")).getD Value.none) ct1) :: (71, tabObj (tab71 (some c1))) :: (Rn, W.listOf (its.push (.int its.size (tk1 + 1))) (n + 1)) :: ([(c1, oc1), (L1 + 1, o1)] ++ news) : Led), h4.get? p.1 = some p.2 ∧ p.1 ≠ L ∧ h₀.get? p.1 = none := by
    refine List.forall_mem_cons.mpr ⟨kN _ (by k_mem), List.forall_mem_cons.mpr ⟨kN _ (by k_mem), List.forall_mem_cons.mpr ⟨kN _ (.tail _ (.tail _ (.head _))), List.forall_mem_cons.mpr ⟨kN _ (.tail _ (.tail _ (.tail _ (.tail _ (.tail _ (.head _)))))), List.forall_mem_cons.mpr ⟨kN _ (.tail _ (.tail _ (.tail _ (.tail _ (.tail _ (.tail _ (.head _))))))), ?_⟩⟩⟩⟩⟩
    refine List.forall_mem_cons.mpr ⟨kN _ (by k_mem), List.forall_mem_cons.mpr ⟨kN _ (by k_mem), fun p hp => kN p (.tail _ (.tail _ (.tail _ (.tail _ (.tail _ (.tail _ (.tail _ hp)))))))⟩⟩
  have hc : CodeOk q71 [(c1, oc1), (L1 + 1, o1)] c1 := ⟨oc1, vs1, t1, .head _, d2, d3⟩
  exact ret x1 dx1 f1 c1 (L1 : Nat) _ _ [(c1, oc1), (L1 + 1, o1)] h4 tk3 kF hm ⟨L1 + 1, _, ct1, o1, rfl, .tail _ (.head _), d1⟩ hc (tb_ltOf l1.2.2) lo1 lo2 (by dsimp only at *; omega) (by dsimp only at *; omega) (by dsimp only at *; omega) (List.forall_mem_cons.mpr ⟨by dsimp only at *; omega, List.forall_mem_cons.mpr ⟨Nat.lt_succ_self _, fun _ h => nomatch h⟩⟩) l4.1 l5 lx (List.forall_mem_cons.mpr ⟨l3, List.forall_mem_cons.mpr ⟨by dsimp only at *; omega, fun _ h => nomatch h⟩⟩)
end Mine
end

section
open PySem PySem.W PyProof.Rows
theorem Mine.clrTreeA (prog : Program) (w : World) (A : Around) (env : Env) (pos : Pos) (s : Shared) : True := by
  w_top off
  first
  | (have : wpAny (model prog w) A (PySem.eval (.Constant (.int 0) 0 pos) env) (fun _ _ => True) (fun _ _ => True) s := by (walk1; fail "x")); trivial
  | trivial
end

section
open PySem PySem.W PyProof.Rows PySem.Calls Builtin
set_option maxRecDepth 100000
set_option maxHeartbeats 1000000
set_option pp.deepTerms false
set_option pp.deepTerms.threshold 6
namespace Mine
local macro_rules | `(tactic| k_all) => `(tactic| assumption)
local macro_rules | `(tactic| walk_at "call ref") => `(tactic| (k_here; (with_reducible show wpAny _ _ (call (Value.ref 58) [Value.ref _]) _ _ _); k_dflt (refine' fdd_N ?k1 ?k2 ?k3 ?k4 ?k5 ?_; (case k1 => k_asm); (case k2 => k_asm); (case k3 => k_asm); (case k4 => k_mem); (case k5 => exact rfl); k_whole); intro x' dx' h' F' N' l1 l2 lx; (try k_lt l1); (try k_lt2 l2)))
local macro_rules | `(tactic| walk_at "enterC") => `(tactic| k_dflt (refine' code_defC ?k1 ?k2 ?k3 ?k4 ?k5 ?kA ?kF ?kK ?k6 ?k7 ?k8 ?k9 ?kB ?kD ?_ ?c2 ?c3 ?c4; (case kA => exact rfl); (case kF => assumption); (case kK => assumption); (case k1 => k_asm); (case k2 => k_asm); (case k3 => k_asm); (case k4 => k_asm); (case k5 => k_asm); (case k6 => k_is); (case k7 => k_is); (case k8 => ((try dsimp only); omega)); (case k9 => first | exact BindsTo.of_eq rfl | exact binds_K (by k_in) rfl (by k_is) rfl rfl rfl | fail "k_enter: no rule for these arguments"); (case kB => exact rfl); (case kD => decide +kernel); (case c2 => exact rfl); (case c3 => exact rfl); (case c4 => exact rfl); k_whole; intro g' L' h' tk' cells' FG' F' N' Y' B' X' T' l1; (try k_lt l1); k_cells Y'; (try simp only [List.cons_append, List.nil_append] at N'); (try dsimp only); (try k_lift B'); (try k_fold)))
variable {w : World} {G : GG} {A A₀ : Around} {env : Env} {outer : List Env} {base h₀ : Heap} {L : Addr} {m : Str → Option Value} {news : Led} {s : Shared} {Rn : Addr} {its : Array Value} {n : Nat} {R : Result → Shared → Prop}
theorem tree_hit {c0 : Addr} (hA : A.frames = some (env :: outer)) (hf : env.frame = some L) (hke : env.scope.kind = .function) (hh : A.handled = none)
   (B : Below A₀ base outer h₀) (F : Fr h₀ L s.heap m) (X : (hd.heap_39 w.params).In h₀) (N : News h₀ L s.heap ((71, tabObj #[rawInt 46, rawInt 32, .ref c0]) :: (Rn, W.listOf its n) :: news)) (T : Top G.p G.loose G.mean G.mg G.mb h₀)
   (C : CodeHd base 75 71) (hp : A.depth + 3 < recursionLimit) (hsz : its.size < 100000) (hRn : ∀ p ∈ news, p.1 ≠ Rn) (h71 : ∀ p ∈ news, p.1 ≠ 71) (hR71 : @Ne Nat Rn 71)
   (ret : ∀ (x dx f c' : Addr) (lo : Nat) (o : Obj) (v : Value) (extra : Led) (h' : Heap) (tk' : Nat), Fr h₀ L h' m →
      News h₀ L h' ((x, fdd dx #[] 0 (.ref f)) :: (dx, emptyDict) :: (f, o) :: (71, tabObj (tab71 (some c'))) :: (Rn, W.listOf (its.push v) (n + 1)) :: (extra ++ news)) →
      LamE w.params extra Rn o c' → c' = c0 → (∀ p ∈ news, @LT.lt Nat _ p.1 lo) → @LT.lt Nat _ 71 lo → @LT.lt Nat _ Rn lo → @LT.lt Nat _ lo x → @LT.lt Nat _ lo dx → @LT.lt Nat _ lo f → (∀ p ∈ extra, @LT.lt Nat _ lo p.1) → @LT.lt Nat _ f dx → @LT.lt Nat _ dx x → x = dx + 1 → (∀ p ∈ extra, @LT.lt Nat _ p.1 f) →
      R (.ok (.ret (.ref x))) { s with heap := h', toks := tk' }) :
   codeAny (model Challenge.rw_in0102_01.row.prog w) A (.call (.ref 76) ⟨[.ref Rn], []⟩) R s := by
  obtain ⟨hd9, dp, fr, gd, un⟩ := A
  dsimp only at hA hh hp
  subst hA hh
  revert X; k_fill; intro X
  walk_at "enterC"
  k_steps
  rename_i g1 L1 h1 tk1 FG1 B1 X1 T1 l1 o1 d1 h2 F2 N2 f1 ct1 h3 tk3 F3 N3 l2 x1 dx1 h4 F4 N4 lx l4 l5 kF kN Tc kX
  have lo1 := l1.1
  have lo2 := l1.2.1
  have hm : ∀ p ∈ ((x1, fdd dx1 #[] 0 (.ref f1)) :: (dx1, emptyDict) :: (f1, lamO w.params (L1 + 1) c0 ((G.mg (Str.ofString "__name__")).getD Value.none) ct1) :: (71, tabObj (tab71 (some c0))) :: (Rn, W.listOf (its.push (.int its.size (tk1 + 1))) (n + 1)) :: ([(L1 + 1, o1)] ++ news) : Led), h4.get? p.1 = some p.2 ∧ p.1 ≠ L ∧ h₀.get? p.1 = none := by
    refine List.forall_mem_cons.mpr ⟨kN _ (by k_mem), List.forall_mem_cons.mpr ⟨kN _ (by k_mem), List.forall_mem_cons.mpr ⟨kN _ (.tail _ (.tail _ (.head _))), List.forall_mem_cons.mpr ⟨kN _ (.tail _ (.tail _ (.tail _ (.tail _ (.head _))))), List.forall_mem_cons.mpr ⟨kN _ (.tail _ (.tail _ (.tail _ (.tail _ (.tail _ (.head _)))))), ?_⟩⟩⟩⟩⟩
    refine List.forall_mem_cons.mpr ⟨kN _ (by k_mem), fun p hp => kN p (.tail _ (.tail _ (.tail _ (.tail _ (.tail _ (.tail _ hp))))))⟩
  have l21 := l2.1
  exact ret x1 dx1 f1 c0 (L1 : Nat) _ _ [(L1 + 1, o1)] h4 tk3 kF hm ⟨L1 + 1, _, ct1, o1, rfl, .head _, d1⟩ rfl (tb_ltOf l1.2.2) lo1 lo2 (by have := l4.1; dsimp only at *; omega) (by have := l4.1; dsimp only at *; omega) (by dsimp only at *; omega) (List.forall_mem_cons.mpr ⟨Nat.lt_succ_self _, fun _ h => nomatch h⟩) l4.1 l5 lx (List.forall_mem_cons.mpr ⟨l21, fun _ h => nomatch h⟩)
end Mine
end

section
open PySem PySem.W PyProof.Rows
theorem Mine.clrTreeB (prog : Program) (w : World) (A : Around) (env : Env) (pos : Pos) (s : Shared) : True := by
  w_top off
  first
  | (have : wpAny (model prog w) A (PySem.eval (.Constant (.int 0) 0 pos) env) (fun _ _ => True) (fun _ _ => True) s := by (walk1; fail "x")); trivial
  | trivial
end

section
open PySem PySem.W PyProof.Rows PySem.Calls Builtin
set_option maxRecDepth 100000
set_option maxHeartbeats 1000000
set_option pp.deepTerms false
set_option pp.deepTerms.threshold 6
namespace Mine
theorem LamOk.mono {P : Params} {l l' : Led} {Rn : Addr} {o : Obj} (h : LamOk P l Rn o) (hs : ∀ p ∈ l, p ∈ l') : LamOk P l' Rn o :=
  let ⟨cR, c', pm, ctv, oc, e, a, b, ⟨oc2, vs, t, c, d, f⟩⟩ := h; ⟨cR, c', pm, ctv, oc, e, hs _ a, b, ⟨oc2, vs, t, hs _ c, d, f⟩⟩
theorem CodeOk.mono {q : Str} {l l' : Led} {c : Addr} (h : CodeOk q l c) (hs : ∀ p ∈ l, p ∈ l') : CodeOk q l' c := let ⟨oc, vs, t, a, b, d⟩ := h; ⟨oc, vs, t, hs _ a, b, d⟩
structure NewT (P : Params) (Rn : Addr) (S S' : St) (x : Addr) : Prop where
  ok : S'.Ok Rn
  tb : S'.tb.isSome = true
  tc : S'.tc = S.tc
  its : S'.its.size = S.its.size + 1
  old : ∀ p ∈ S.objs, p ∈ S'.objs
  node : ∃ dx f o, (x, fdd dx #[] 0 (.ref f)) ∈ S'.objs ∧ (dx, emptyDict) ∈ S'.objs ∧ (f, o) ∈ S'.objs ∧ LamOk P S'.objs Rn o ∧ x = dx + 1 ∧ (∀ p ∈ S.objs, p.1 ≠ dx)
  new : ∀ p ∈ S.objs, p.1 ≠ x
theorem tree_does {w : World} {G : GG} {base : Heap} {Rn : Addr} {S : St} (hS : S.Ok Rn) (hsz : S.its.size < 100000) :
    Does w G base 3 (.call (.ref 76) ⟨[.ref Rn], []⟩) (S.led Rn) (fun r σ' => ∃ x S', r = .ref x ∧ σ' = S'.led Rn ∧ NewT w.params Rn S S' x) := by
  intro A L h₀ m mine s R Si hd hu F N O k
  obtain ⟨env, outer, A₀, B, hA, hf, hke⟩ := Si.fr
  have N' : News h₀ L s.heap ((71, tabObj (tab71 S.tb)) :: (Rn, W.listOf S.its S.n) :: ((50, tabObj (tab50 S.tc)) :: (mine ++ S.objs))) := News.sub N (by
    intro p hp; simp only [List.mem_cons, List.mem_append, St.led] at hp ⊢; grind)
  have hRn : ∀ p ∈ ((50, tabObj (tab50 S.tc)) :: (mine ++ S.objs) : Led), p.1 ≠ Rn := by
    intro p hp
    rcases List.mem_cons.mp hp with rfl | hp
    · exact hS.r50.symm
    · rcases List.mem_append.mp hp with hp | hp
      · exact O p hp (Rn, W.listOf S.its S.n) (.tail _ (.tail _ (.head _)))
      · exact (hS.off p hp).2.2
  have h71 : ∀ p ∈ ((50, tabObj (tab50 S.tc)) :: (mine ++ S.objs) : Led), p.1 ≠ 71 := by
    intro p hp
    rcases List.mem_cons.mp hp with rfl | hp
    · exact (by decide : (50 : Nat) ≠ 71)
    · rcases List.mem_append.mp hp with hp | hp
      · exact O p hp (71, tabObj (tab71 S.tb)) (.head _)
      · exact (hS.off p hp).1
  have fin : ∀ (x dx f c' : Addr) (lo : Nat) (o : Obj) (v : Value) (extra : Led) (h' : Heap) (tk' : Nat), Fr h₀ L h' m →
      News h₀ L h' ((x, fdd dx #[] 0 (.ref f)) :: (dx, emptyDict) :: (f, o) :: (71, tabObj (tab71 (some c'))) :: (Rn, W.listOf (S.its.push v) (S.n + 1)) :: (extra ++ ((50, tabObj (tab50 S.tc)) :: (mine ++ S.objs)))) →
      LamE w.params extra Rn o c' → (CodeOk q71 extra c' ∨ S.tb = some c') → (∀ p ∈ ((50, tabObj (tab50 S.tc)) :: (mine ++ S.objs) : Led), @LT.lt Nat _ p.1 lo) → @LT.lt Nat _ 71 lo → @LT.lt Nat _ Rn lo → @LT.lt Nat _ lo x → @LT.lt Nat _ lo dx → @LT.lt Nat _ lo f → (∀ p ∈ extra, @LT.lt Nat _ lo p.1) → @LT.lt Nat _ f dx → @LT.lt Nat _ dx x → x = dx + 1 → (∀ p ∈ extra, @LT.lt Nat _ p.1 f) →
      R (.ok (.ret (.ref x))) { s with heap := h', toks := tk' } := by
    intro x dx f c' lo o v extra h' tk' F2 N2 L2 C2 a1 a2 a3 a4 a5 a6 a7 a8 a9 ax a10
    have big : ∀ q ∈ ((x, fdd dx #[] 0 (.ref f)) :: (dx, emptyDict) :: (f, o) :: extra : Led), @LT.lt Nat _ lo q.1 := by
      intro q hq
      rcases List.mem_cons.mp hq with rfl | hq
      · exact a4
      rcases List.mem_cons.mp hq with rfl | hq
      · exact a5
      rcases List.mem_cons.mp hq with rfl | hq
      · exact a6
      exact a7 q hq
    have sm : ∀ p ∈ S.objs, @LT.lt Nat _ p.1 lo := fun p hp => a1 p (.tail _ (List.mem_append_right _ hp))
    have smm : ∀ p ∈ mine, @LT.lt Nat _ p.1 lo := fun p hp => a1 p (.tail _ (List.mem_append_left _ hp))
    have eS : (x, fdd dx #[] 0 (.ref f)) :: (dx, emptyDict) :: (f, o) :: (extra ++ S.objs) = ((x, fdd dx #[] 0 (.ref f)) :: (dx, emptyDict) :: (f, o) :: extra) ++ S.objs := rfl
    have N3 : News h₀ L h' (mine ++ St.led Rn ⟨some c', S.tc, S.its.push v, S.n + 1, (x, fdd dx #[] 0 (.ref f)) :: (dx, emptyDict) :: (f, o) :: (extra ++ S.objs)⟩) := News.sub N2 (by
      intro p hp; simp only [List.mem_cons, List.mem_append, St.led] at hp ⊢; grind)
    have Nf := N3
    refine k (.ref x) (St.led Rn ⟨some c', S.tc, S.its.push v, S.n + 1, (x, fdd dx #[] 0 (.ref f)) :: (dx, emptyDict) :: (f, o) :: (extra ++ S.objs)⟩) h' tk' F2 N3 ?_ ⟨x, ⟨some c', S.tc, S.its.push v, S.n + 1, _⟩, rfl, rfl, ?_⟩
    · intro p hp q hq
      rcases List.mem_cons.mp hq with rfl | hq
      · exact O p hp (71, tabObj (tab71 S.tb)) (.head _)
      rcases List.mem_cons.mp hq with rfl | hq
      · exact O p hp (50, tabObj (tab50 S.tc)) (.tail _ (.head _))
      rcases List.mem_cons.mp hq with rfl | hq
      · exact O p hp (Rn, W.listOf S.its S.n) (.tail _ (.tail _ (.head _)))
      rw [eS] at hq
      rcases List.mem_append.mp hq with hq | hq
      · exact Nat.ne_of_lt (Nat.lt_trans (smm p hp) (big q hq))
      · exact O p hp q (.tail _ (.tail _ (.tail _ hq)))
    · have old : ∀ p ∈ S.objs, p ∈ ((x, fdd dx #[] 0 (.ref f)) :: (dx, emptyDict) :: (f, o) :: (extra ++ S.objs) : Led) := fun p hp => .tail _ (.tail _ (.tail _ (List.mem_append_right _ hp)))
      have oldx : ∀ p ∈ extra, p ∈ ((x, fdd dx #[] 0 (.ref f)) :: (dx, emptyDict) :: (f, o) :: (extra ++ S.objs) : Led) := fun p hp => .tail _ (.tail _ (.tail _ (List.mem_append_left _ hp)))
      have hcode : CodeOk q71 ((x, fdd dx #[] 0 (.ref f)) :: (dx, emptyDict) :: (f, o) :: (extra ++ S.objs)) c' := by
        rcases C2 with C2 | C2
        · exact C2.mono oldx
        · exact (hS.cb c' C2).mono old
      have ok' : St.Ok Rn ⟨some c', S.tc, S.its.push v, S.n + 1, (x, fdd dx #[] 0 (.ref f)) :: (dx, emptyDict) :: (f, o) :: (extra ++ S.objs)⟩ := by
        refine ⟨hS.r71, hS.r50, ?_, ?_, ?_, ?_, ?_⟩
        · intro p hp
          rw [eS] at hp
          rcases List.mem_append.mp hp with hp | hp
          · have := big p hp
            have a50 : @LT.lt Nat _ 50 lo := a1 (50, tabObj (tab50 S.tc)) (.head _)
            exact ⟨by omega, by omega, by omega⟩
          · exact hS.off p hp
        · intro p hp
          rw [eS] at hp
          rcases List.mem_append.mp hp with hp | hp
          · have := big p hp; omega
          · exact hS.big p hp
        · intro c hc; cases hc; exact hcode
        · intro c hc; exact (hS.cc c hc).mono old
        · intro a o1 o2 h1 h2
          exact News.fun Nf (List.mem_append_right _ (.tail _ (.tail _ (.tail _ h1)))) (List.mem_append_right _ (.tail _ (.tail _ (.tail _ h2))))
      obtain ⟨cR, pm, ctv, oc, e1, e2, e3⟩ := L2
      exact ⟨ok', rfl, rfl, by simp, old, ⟨dx, f, o, .head _, .tail _ (.head _), .tail _ (.tail _ (.head _)), ⟨cR, c', pm, ctv, oc, e1, oldx _ e2, e3, hcode⟩, ax, fun p hp => Nat.ne_of_lt (Nat.lt_trans (sm p hp) a5)⟩, fun p hp => Nat.ne_of_lt (Nat.lt_trans (sm p hp) a4)⟩
  cases htb : S.tb with
  | none =>
    rw [htb] at N'
    exact tree_none hA hf hke Si.hh B F Si.X N' Si.T Si.C1 hd hsz hRn h71 hS.r71 fun x dx f c' lo o v extra h' tk' F2 N2 L2 C2 => fin x dx f c' lo o v extra h' tk' F2 N2 L2 (.inl C2)
  | some c0 =>
    rw [htb] at N'
    exact tree_hit hA hf hke Si.hh B F Si.X N' Si.T Si.C1 hd hsz hRn h71 hS.r71 fun x dx f c' lo o v extra h' tk' F2 N2 L2 C2 => fin x dx f c' lo o v extra h' tk' F2 N2 L2 (.inr (C2 ▸ htb))
end Mine
end

section
open PySem PySem.W PyProof.Rows PySem.Calls Builtin
set_option maxRecDepth 100000
set_option maxHeartbeats 1000000
set_option pp.deepTerms false
set_option pp.deepTerms.threshold 6
namespace Mine
theorem Sit.in {w : World} {G : GG} {A : Around} {L : Addr} {base h₀ : Heap} (S : Sit w G A L base h₀) : Sit w G A.in1 L base h₀ := ⟨S.fr, S.X, S.T, S.hh, S.C1, S.C2⟩
theorem lam_does {w : World} {G : GG} {base : Heap} {Rn : Addr} {S : St} {f : Addr} {o : Obj} (hS : S.Ok Rn) (hsz : S.its.size < 100000) (hfo : (f, o) ∈ S.objs) (hL : LamOk w.params S.objs Rn o) :
    Does w G base 6 (.call (.ref f) ⟨[], []⟩) (S.led Rn) (fun r σ' => ∃ x S', r = .ref x ∧ σ' = S'.led Rn ∧ NewT w.params Rn S S' x) := by
  intro A L h₀ m mine s R Si hd hu F N O k
  obtain ⟨env, outer, A₀, B, hA, hf, hke⟩ := Si.fr
  have X := Si.X
  have T := Si.T
  have hh := Si.hh
  have C1 := Si.C1
  have C2 := Si.C2
  obtain ⟨cR, c', pm, ctv, oc, rfl, hcR, hoc, oc2, vs, tt, hm2, hd2, hv2⟩ := hL
  have ho : (f, lamO w.params cR c' pm ctv) ∈ mine ++ S.led Rn := List.mem_append_right _ (.tail _ (.tail _ (.tail _ hfo)))
  have hc : (cR, oc) ∈ mine ++ S.led Rn := List.mem_append_right _ (.tail _ (.tail _ (.tail _ hcR)))
  have hm : (c', oc2) ∈ mine ++ S.led Rn := List.mem_append_right _ (.tail _ (.tail _ (.tail _ hm2)))
  unfold lamO at ho
  obtain ⟨z, hz⟩ : ∃ z, lam71 w.params = z := ⟨_, rfl⟩
  rw [hz] at ho
  conv at hz => lhs; whnf
  subst hz
  dsimp only at ho
  obtain ⟨hd9, dp, fr, gd, un⟩ := A
  dsimp only at hA hh hd hu
  subst hA hh
  revert X; k_fill; intro X
  k_dflt (refine' kla_code ?k1 ?k2 ?k3 ?k4 ?k5 ?kA ?kF ?kK ho ?k7 ?k8 ?k9 ?kB ?_ ?c2 ?c3 ?c4 ?c5; (case kA => exact rfl); (case kF => assumption); (case kK => assumption); (case k1 => k_asm); (case k2 => k_asm); (case k3 => k_asm); (case k4 => k_asm); (case k5 => k_asm); (case k7 => exact codeRec_news N hm hd2 hv2); (case k8 => ((try dsimp only); omega)); (case k9 => exact rfl); (case c5 => decide); (case kB => exact locs rfl); (case c2 => exact rfl); (case c3 => exact rfl); (case c4 => exact rfl); k_whole; intro g' L' h' FG' F' N' B' X' T'; (try dsimp only); (try k_fold))
  k_steps
  refine wpAny_call (tree_does hS hsz _ L' g' _ mine _ _ ⟨⟨_, _, _, B', rfl, rfl, rfl⟩, X', T', rfl, C1, C2⟩ (by dsimp only [Around.deeper]; omega) (by dsimp only [Around.deeper]; omega) F' N' O ?_)
  rintro r σ' h2 tk2 F2 N2 O2 ⟨x, S', rfl, rfl, hN⟩
  dsimp only
  k_steps
  rename_i kF kN Tc kX
  exact k (.ref x) _ _ _ kF kN O2 ⟨x, S', rfl, rfl, hN⟩
end Mine
end

section
open PySem PySem.W PyProof.Rows
theorem Mine.clrLamA (prog : Program) (w : World) (A : Around) (env : Env) (pos : Pos) (s : Shared) : True := by
  w_top off
  first
  | (have : wpAny (model prog w) A (PySem.eval (.Constant (.int 0) 0 pos) env) (fun _ _ => True) (fun _ _ => True) s := by (walk1; fail "x")); trivial
  | trivial
end

section
open PySem PySem.W PyProof.Rows PySem.Calls Builtin
set_option maxRecDepth 100000
set_option maxHeartbeats 400000
set_option pp.deepTerms false
set_option pp.deepTerms.threshold 6
namespace Mine
section
variable {w : World} {A A₀ : Around} {s : Shared} {base h₀ : Heap} {outer : List Env} {L : Addr} {m mg mb : Str → Option Value} {env : Env} {news : List (Addr × Obj)} {p : Program} {loose : List Str} {mean : ExcName → Option Value}
theorem at_evalArgs {M : Model} {c : Code} {E : Value → Shared → Prop} {f : Value} {x : Sem Value} {rest : List (Bool × Sem Value)} {Q : Args → Shared → Prop}
    (h : PySem.wpAt M A c (spliced ((false, x) :: rest)) (fun vs s' => Q ⟨vs, []⟩ s') E s) : PySem.wpAt M A c (evalArgs f true ((false, x) :: rest) []) Q E s := by
  unfold evalArgs
  show PySem.wpAt M A c (spliced ((false, x) :: rest) >>= _) Q E s
  refine PySem.wpAt_bind (PySem.wpAt_mono h (fun vs s' h' => ?_) fun _ _ x => x)
  refine ks_wpAt_holding ?_
  exact PySem.wpAt_of_wpAny (wpAny_bind (wpAny_pure (wpAny_bind (wpAny_pure (wpAny_pure h')))))
theorem at_callWith {M : Model} {c : Code} {E : Value → Shared → Prop} {pos : Pos} {id : String} {args : List (Bool × Sem Value)} {Q : Value → Shared → Prop} (hplain : args.any (·.1) = false)
    (h : PySem.wpAt M A c (evalArgs (.builtin id) true args []) (fun a s₁ => wpAny M A (call (.builtin id) ([] ++ a.pos) a.kw) Q E s₁) E s) :
    PySem.wpAt M A c (callWith pos (.builtin id) [] args []) Q E s := by
  unfold callWith
  refine PySem.wpAt_bind (ks_wpAt_holding (PySem.wpAt_mono h (fun a s₁ h₁ => PySem.wpAt_of_wpAny (wpAny_bind (wpAny_standAt ?_))) fun _ _ x => x))
  simp only [hplain, List.any_nil, Bool.or_false]
  refine wpAny_bind (wpAny_pure ?_)
  exact wpAny_bind (wpAny_mono h₁ (fun r s₂ hr => wpAny_bind (wpAny_holding (wpAny_point (wpAny_pure hr)))) fun _ _ x => x)
theorem at_spliced_cons {M : Model} {c : Code} {E : Value → Shared → Prop} {x : Sem Value} {rest : List (Bool × Sem Value)} {Q : List Value → Shared → Prop}
    (h : PySem.wpAt M A c x (fun v s₁ => PySem.wpAt M A c (spliced rest) (fun vs s₂ => Q (v :: vs) s₂) E s₁) E s) : PySem.wpAt M A c (spliced ((false, x) :: rest)) Q E s := by
  rw [spliced]
  refine PySem.wpAt_bind (PySem.wpAt_mono h (fun v s₁ h₁ => ?_) fun _ _ x => x)
  simp only [Bool.false_eq_true, if_false]
  exact PySem.wpAt_bind (PySem.wpAt_of_wpAny (wpAny_pure (PySem.wpAt_bind (ks_wpAt_holding (PySem.wpAt_mono h₁ (fun vs s₂ h₂ => PySem.wpAt_of_wpAny (wpAny_pure h₂)) fun _ _ x => x)))))
theorem at_spliced_nil {M : Model} {c : Code} {E : Value → Shared → Prop} {Q : List Value → Shared → Prop} (h : Q [] s) : PySem.wpAt M A c (spliced []) Q E s := PySem.wpAt_of_wpAny (wpAny_pure h)
theorem fr_keeps {h₀ h h' : Heap} {L : Addr} {m : Str → Option Value} (F : Fr h₀ L h m) (k : ∀ b o, h.get? b = some o → h'.get? b = some o) : Fr h₀ L h' m := ⟨F.ns.keeps k, fun b o e => k b o (F.keep b o e), F.above⟩
theorem news_keeps {h₀ h h' : Heap} {L : Addr} {l : Led} (N : News h₀ L h l) (k : ∀ b o, h.get? b = some o → h'.get? b = some o) : News h₀ L h' l := fun p hp => ⟨k _ _ (N p hp).1, (N p hp).2⟩
theorem callWith_bm {prog : Program} {E : Value → Shared → Prop} {pos : Pos} {q x : Addr} {args : List (Bool × Sem Value)} {Q : Value → Shared → Prop} (hplain : args.any (·.1) = false)
    (h : wpAny (model prog w) A (evalArgs (.ref q) true args []) (fun a s₁ => s₁.heap.get? q = some (bmObj x) ∧ wpAny (model prog w) A (call (.ref q) ([] ++ a.pos) a.kw) Q E s₁) E s) :
    wpAny (model prog w) A (callWith pos (.ref q) [] args []) Q E s := by
  unfold callWith
  refine wpAny_bind (wpAny_holding (wpAny_mono h (fun a s₁ h₁ => wpAny_bind (wpAny_standAt ?_)) fun _ _ x => x))
  obtain ⟨hq, h₁⟩ := h₁
  simp only [hplain, List.any_nil, Bool.or_false]
  have hk : wpAny (model prog w) A (keeperOf (.ref q)) (fun k s' => k = .machine ∧ s' = s₁) E s₁ := by
    obtain ⟨h2, g2, d2, t2, os2⟩ := s₁
    unfold keeperOf
    repeat lk
    exact ⟨rfl, rfl⟩
  refine wpAny_bind (wpAny_mono hk (fun k s' e => ?_) fun _ _ x => x)
  obtain ⟨rfl, rfl⟩ := e
  exact wpAny_bind (wpAny_mono h₁ (fun r s₂ hr => wpAny_bind (wpAny_holding (wpAny_point (wpAny_pure hr)))) fun _ _ x => x)
noncomputable def NodeAt (w : World) (Rn : Addr) (l : Led) (x : Addr) (ks : List (Str × Tok × Addr)) : Prop :=
  ∃ dx ep f o, (x, fdd dx (ents w ks).toArray ep (.ref f)) ∈ l ∧ (dx, emptyDict) ∈ l ∧ (f, o) ∈ l ∧ LamOk w.params l Rn o ∧ x = dx + 1
structure Grown (w : World) (Rn : Addr) (S S' : St) (x y : Addr) (ks : List (Str × Tok × Addr)) (k : Str) (tk : Tok) : Prop where
  ok : S'.Ok Rn
  tb : S'.tb.isSome = true
  tc : S'.tc = S.tc
  its : S'.its.size = S.its.size + 1
  nx : NodeAt w Rn S'.objs x (ks ++ [(k, tk, y)])
  ny : NodeAt w Rn S'.objs y []
  new : ∀ p ∈ S.objs, p.1 ≠ y
  old : ∀ p ∈ S.objs, p.1 ≠ x → p ∈ S'.objs
theorem ok_upd {Rn x : Addr} {S : St} {o o' : Obj} (hS : S.Ok Rn) (hx : (x, o) ∈ S.objs) (hd : ∀ vs, o.data ≠ .fields vs) : St.Ok Rn { S with objs := upd S.objs x o' } := by
  have hk : ∀ p ∈ upd S.objs x o', ∃ q ∈ S.objs, q.1 = p.1 := by
    intro p hp
    have : p.1 ∈ (upd S.objs x o').map (·.1) := List.mem_map_of_mem hp
    rw [upd_keys] at this
    obtain ⟨q, hq, e⟩ := List.mem_map.mp this
    exact ⟨q, hq, e⟩
  have code : ∀ q c, CodeOk q S.objs c → CodeOk q (upd S.objs x o') c := by
    rintro q c ⟨oc, vs, t, a, b, d⟩
    refine ⟨oc, vs, t, mem_upd_ne a ?_, b, d⟩
    rintro rfl
    exact hd vs (hS.fns _ _ _ hx a ▸ b)
  refine ⟨hS.r71, hS.r50, fun p hp => ?_, fun p hp => ?_, fun c hc => code _ _ (hS.cb c hc), fun c hc => code _ _ (hS.cc c hc), fun a o1 o2 h1 h2 => ?_⟩
  · obtain ⟨q, hq, e⟩ := hk p hp; rw [← e]; exact hS.off q hq
  · obtain ⟨q, hq, e⟩ := hk p hp; rw [← e]; exact hS.big q hq
  · rcases of_mem_upd h1 with ⟨e1, _⟩ | ⟨h1, n1⟩
    · rcases of_mem_upd h2 with ⟨e2, _⟩ | ⟨h2, n2⟩
      · cases e1; cases e2; rfl
      · cases e1; exact absurd rfl n2
    · rcases of_mem_upd h2 with ⟨e2, _⟩ | ⟨h2, n2⟩
      · cases e2; exact absurd rfl n1
      · exact hS.fns _ _ _ h1 h2
theorem led_upd {Rn x : Addr} {S : St} {o o' : Obj} {mine : Led} (hS : S.Ok Rn) (hx : (x, o) ∈ S.objs) (O : Off mine (S.led Rn)) : upd (mine ++ S.led Rn) x o' = mine ++ St.led Rn { S with objs := upd S.objs x o' } := by
  have h1 : ∀ p ∈ mine, p.1 ≠ x := fun p hp => O p hp _ (.tail _ (.tail _ (.tail _ hx)))
  obtain ⟨a1, a2, a3⟩ := hS.off _ hx
  rw [upd_append, upd_off h1]
  have e1 : ¬ ((71 : Addr) = x) := fun e => a1 e.symm
  have e2 : ¬ ((50 : Addr) = x) := fun e => a2 e.symm
  have e3 : ¬ (Rn = x) := fun e => a3 e.symm
  rw [upd_cons, upd_cons, upd_cons, if_neg e1, if_neg e2, if_neg e3]
theorem off_upd {Rn x : Addr} {S : St} {o' : Obj} {mine : Led} (O : Off mine (S.led Rn)) : Off mine (St.led Rn { S with objs := upd S.objs x o' }) := by
  intro p hp q hq
  rcases List.mem_cons.mp hq with rfl | hq
  · exact O p hp _ (.head _)
  rcases List.mem_cons.mp hq with rfl | hq
  · exact O p hp _ (.tail _ (.head _))
  rcases List.mem_cons.mp hq with rfl | hq
  · exact O p hp _ (.tail _ (.tail _ (.head _)))
  have : q.1 ∈ (upd S.objs x o').map (·.1) := List.mem_map_of_mem hq
  rw [upd_keys] at this
  obtain ⟨q', hq', e⟩ := List.mem_map.mp this
  rw [← e]
  exact O p hp _ (.tail _ (.tail _ (.tail _ hq')))
theorem LamOk.upd {P : Params} {Rn x : Addr} {S : St} {o o' ol : Obj} (hS : S.Ok Rn) (hx : (x, o) ∈ S.objs) (hd : ∀ vs, o.data ≠ .fields vs) (hc : ∀ v, o.data ≠ .cell v) (h : LamOk P S.objs Rn ol) : LamOk P (upd S.objs x o') Rn ol := by
  obtain ⟨cR, c', pm, ctv, oc, e, a, b, ⟨oc2, vs, t, c, d, f⟩⟩ := h
  refine ⟨cR, c', pm, ctv, oc, e, mem_upd_ne a ?_, b, ⟨oc2, vs, t, mem_upd_ne c ?_, d, f⟩⟩
  · rintro rfl; exact hc _ (hS.fns _ _ _ hx a ▸ b)
  · rintro rfl; exact hd vs (hS.fns _ _ _ hx c ▸ d)
theorem LamOk.fn {P : Params} {Rn : Addr} {l : Led} {ol : Obj} (h : LamOk P l Rn ol) : ∃ fd, ol.data = .func fd := by
  obtain ⟨cR, c', pm, ctv, oc, e, _⟩ := h; rw [e]; exact ⟨_, rfl⟩
theorem miss_run {Rn : Addr} {S : St} {G : GG} {base : Heap} {x : Addr} {ks : List (Str × Tok × Addr)} {k : Str} {tk : Tok} (hS : S.Ok Rn) (hsz : S.its.size < 100000) (hx : NodeAt w Rn S.objs x ks) (hk : kid ks k = none) (hl : ks.length ≤ 100)
    (A : Around) (L : Addr) (h₀ : Heap) (m : Str → Option Value) (mine : Led) (s : Shared) (R : Result → Shared → Prop)
    (Si : Sit w G A L base h₀) (hd : A.depth + 10 < recursionLimit) (hu : A.units + 80 < cLine) (F : Fr h₀ L s.heap m) (N : News h₀ L s.heap (mine ++ S.led Rn)) (O : Off mine (S.led Rn))
    (kk : ∀ y S' h' tk', Fr h₀ L h' m → News h₀ L h' (mine ++ S'.led Rn) → Off mine (S'.led Rn) → Grown w Rn S S' x y ks k tk → R (.ok (.ret (.ref y))) { s with heap := h', toks := tk' }) :
   codeAny (model Challenge.rw_in0102_01.row.prog w) A (.call (.ref 48) ⟨[.ref x, .str k tk], []⟩) R s := by
  obtain ⟨env, outer, A₀, B, hA, hf, hke⟩ := Si.fr
  have X := Si.X
  have T := Si.T
  have hh := Si.hh
  have C1 := Si.C1
  have C2 := Si.C2
  obtain ⟨dx, ep, fa, ofa, hx, hdx, hfa, hL, hxd⟩ := hx
  have mx : (x, fdd dx (ents w ks).toArray ep (.ref fa)) ∈ mine ++ S.led Rn := List.mem_append_right _ (.tail _ (.tail _ (.tail _ hx)))
  have mdx : (dx, emptyDict) ∈ mine ++ S.led Rn := List.mem_append_right _ (.tail _ (.tail _ (.tail _ hdx)))
  have hx58 : x ≠ 58 := by rintro rfl; have := hS.big _ hx; dsimp only at this; omega
  obtain ⟨hd9, dp, fr, gd, un⟩ := A
  dsimp only at hA hh hd hu
  subst hA hh
  revert X; k_fill; intro X
  k_dflt (refine' ks_code_super ?k1 ?k2 ?k3 ?k4 ?k5 ?kA ?kF ?kK ?k6 ?k7 ?k8 ?k9 ?kB ?_ ?c1 ?c2 ?c3 ?c4; (case kA => exact rfl); (case kF => exact hf); (case kK => exact hke); (case k1 => k_asm); (case k2 => k_asm); (case k3 => k_asm); (case k4 => k_asm); (case k5 => k_asm); (case k6 => k_is); (case k7 => k_is); (case k8 => (dsimp only; omega)); (case k9 => exact BindsTo.of_eq rfl); (case kB => exact locs rfl); (case c1 => decide); (case c2 => exact rfl); (case c3 => exact rfl); (case c4 => exact rfl); intro g' L' h' FG' F' N' B' X' T' l1; (try dsimp only))
  refine ks_wpAt_execs_cons (ks_wpAt_Return_some ?_)
  show PySem.wpAt _ _ _ (do callWith _ (← PySem.eval _ _) [] _ _) _ _ _
  refine PySem.wpAt_bind ?_
  show PySem.wpAt _ _ _ (do callWith _ (← PySem.eval _ _) [] _ _) _ _ _
  refine PySem.wpAt_bind (PySem.wpAt_of_wpAny ?_)
  walk1
  refine at_callWith rfl (at_evalArgs (at_spliced_cons (PySem.wpAt_of_wpAny ?_)))
  show wpAny _ _ (PySem.eval _ _) _ _ _
  walk1
  refine at_spliced_cons (PySem.wpAt_of_wpAny ?_)
  show wpAny _ _ (PySem.eval _ _) _ _ _
  walk1
  refine at_spliced_cons ?_
  show PySem.wpAt _ _ _ (do let o ← attributeBase _ _ _ _; standAt _; let r ← holding [o] (getAttr o _ true); letTemporaryGo _ o r; pure r) _ _ _
  have I : W.InstAt h' x (fdd dx (ents w ks).toArray ep (.ref fa)) 58 (some emptyDict) := inst58 (N' _ mx).1 (N' _ mdx).1
  refine PySem.wpAt_bind ?_
  k_dflt (refine ks_node (D := 58) (C := 58) F' X' N' T' (by k_is) rfl rfl I (by k_is) rfl (by decide) (by k_is) (by k_is) (by k_is) (by k_is) (by decide) rfl rfl rfl rfl rfl rfl ?_)
  intro so h2 F2 N2 l2
  refine PySem.wpAt_of_wpAny (wpAny_bind (wpAny_standAt (wpAny_bind (wpAny_holding ?_))))
  refine super_getattr (X'.keeps F2.keep) (N2 _ (.head _)).1 (N2 _ (.tail _ mx)).1 rfl hx58 ?_
  refine wpAny_bind (wpAny_bind (wpAny_holding (let_go (wpAny_pure (wpAny_pure (at_spliced_nil ?_))))))
  have F3 := F2.push (bmObj x)
  have N3 := N2.push F2 (bmObj x)
  have lq : ∀ p ∈ mine ++ S.led Rn, p.1 < h2.objs.size := fun p hp => Heap.lt_size (N2 p (.tail _ hp)).1
  generalize hq9 : h2.objs.size = q at N3 lq ⊢
  generalize h2.push (bmObj x) = h3 at F3 N3 ⊢
  dsimp only [List.nil_append]
  refine getattr3_miss rfl (X'.keeps F3.keep) (N3 _ (.tail _ (.tail _ mx))).1 (N3 _ (.tail _ (.tail _ mdx))).1 (fun h4 tk4 k4 => ?_)
  have F4 := fr_keeps F3 k4
  have N4 := news_keeps N3 k4
  refine PySem.wpAt_of_wpAny ?_
  refine callWith_bm (x := x) rfl (Calls.evalArgs_plain (Calls.spliced_cons ?_))
  show wpAny _ _ (PySem.eval _ _) _ _ _
  walk1
  refine Calls.spliced_nil ?_
  refine ⟨(N4 _ (.head _)).1, ?_⟩
  have X4 := X'.keeps F4.keep
  have mfa : (fa, ofa) ∈ mine ++ S.led Rn := List.mem_append_right _ (.tail _ (.tail _ (.tail _ hfa)))
  obtain ⟨cR9, c9, pm9, ctv9, oc9, e9, _⟩ := id hL
  refine bm_call X4 (N4 _ (.head _)).1 (N4 _ (.tail _ (.tail _ mx))).1 ?_
  refine dm_run X4 (N4 _ (.tail _ (.tail _ mx))).1 (N4 _ (.tail _ (.tail _ mfa))).1 (by rw [e9]; rfl) ?_
  refine lam_does hS hsz hfa hL _ L' g' _ ((q, bmObj x) :: (so, ks_superObj 58 x 58) :: mine) _ _ ⟨⟨_, _, _, B', rfl, rfl, rfl⟩, X', T', rfl, C1, C2⟩ (by dsimp only [Around.deeper, Around.in1]; omega) (by dsimp only [Around.deeper, Around.in1]; omega) F4 N4 ?_ ?_
  · intro p hp r hr
    rcases List.mem_cons.mp hp with rfl | hp
    · exact Nat.ne_of_gt (lq r (List.mem_append_right _ hr))
    rcases List.mem_cons.mp hp with rfl | hp
    · exact Nat.ne_of_gt (l2 r (List.mem_append_right _ hr))
    exact O p hp r hr
  rintro r σ' h5 tk5 F5 N5 O5 ⟨y, S1, rfl, rfl, hN⟩
  have hx1 := hN.old _ hx
  have mx5 : (x, fdd dx (ents w ks).toArray ep (.ref fa)) ∈ ((q, bmObj x) :: (so, ks_superObj 58 x 58) :: mine) ++ S1.led Rn := List.mem_append_right _ (.tail _ (.tail _ (.tail _ hx1)))
  have hsys : (x == sysModules) = false := by
    have := hN.ok.big _ hx1
    dsimp only at this
    rw [beq_eq_false_iff_ne]
    exact fun e => by rw [e] at this; exact absurd this (by decide)
  refine setdefault_new (X'.keeps F5.keep) (N5 _ mx5).1 hsys hk hl (fun h6 hs hx6 => ?_)
  have F6 := Fr.upd F5 N5 mx5 hs
  have N6 := News.upd N5 mx5 hs hx6
  rw [led_upd hN.ok hx1 O5] at N6
  have O6 : Off ((q, bmObj x) :: (so, ks_superObj 58 x 58) :: mine) (St.led Rn { S1 with objs := upd S1.objs x (fdd dx (ents w (ks ++ [(k, tk, y)])).toArray (ep + 1) (.ref fa)) }) := off_upd O5
  have ok6 : St.Ok Rn { S1 with objs := upd S1.objs x (fdd dx (ents w (ks ++ [(k, tk, y)])).toArray (ep + 1) (.ref fa)) } := ok_upd hN.ok hx1 (fun vs e => by cases e)
  dsimp only
  generalize hob : upd S1.objs x (fdd dx (ents w (ks ++ [(k, tk, y)])).toArray (ep + 1) (.ref fa)) = ob6 at N6 O6 ok6 ⊢
  k_steps
  rename_i kF kN Tc kX
  refine kk y { S1 with objs := ob6 } h6 _ kF (News.sub kN fun p hp => .tail _ (.tail _ hp)) (fun p hp => O6 p (.tail _ (.tail _ hp))) ?_
  have nd : dx ≠ x := by rintro rfl; have := hS.fns _ _ _ hx hdx; cases this
  have nf : fa ≠ x := by
    rintro rfl
    have e := hS.fns _ _ _ hx hfa
    obtain ⟨fd, e2⟩ := hL.fn
    rw [← e] at e2; cases e2
  obtain ⟨dy, fy, oy, hy, hdy, hfy, hLy, hyd, nyo⟩ := hN.node
  have nxy : y ≠ x := fun e => hN.new _ hx e.symm
  have ndy : dy ≠ x := fun e => nyo _ hx e.symm
  have nfy : fy ≠ x := by
    rintro rfl
    have e := hN.ok.fns _ _ _ hx1 hfy
    obtain ⟨fd, e2⟩ := hLy.fn
    rw [← e] at e2; cases e2
  have lu : ∀ {ol}, LamOk w.params S1.objs Rn ol → LamOk w.params ob6 Rn ol := fun h => hob ▸ LamOk.upd hN.ok hx1 (fun vs e => by cases e) (fun v e => by cases e) h
  have mn : ∀ {a o}, (a, o) ∈ S1.objs → a ≠ x → (a, o) ∈ ob6 := fun h n => hob ▸ mem_upd_ne h n
  refine ⟨ok6, hN.tb, hN.tc, hN.its, ⟨dx, ep + 1, fa, ofa, hob ▸ mem_upd_self hx1, mn (hN.old _ hdx) nd, mn (hN.old _ hfa) nf, lu (hL.mono hN.old), hxd⟩, ⟨dy, 0, fy, oy, mn hy nxy, mn hdy ndy, mn hfy nfy, lu hLy, hyd⟩, hN.new, fun p hp hne => mn (hN.old p hp) hne⟩
end
end Mine
end

section
open PySem PySem.W PyProof.Rows
theorem Mine.clrFddH (prog : Program) (w : World) (A : Around) (env : Env) (pos : Pos) (s : Shared) : True := by
  w_top off
  first
  | (have : wpAny (model prog w) A (PySem.eval (.Constant (.int 0) 0 pos) env) (fun _ _ => True) (fun _ _ => True) s := by (walk1; fail "x")); trivial
  | trivial
end

section
open PySem PySem.W PyProof.Rows PySem.Calls Builtin
set_option maxRecDepth 100000
set_option maxHeartbeats 400000
namespace Mine
section
variable {prog : Program} {w : World} {P : Params} {A : Around} {h : Heap} {g : Array GenState} {d : Drawn} {t : Nat} {os : OsState} {E : Value → Shared → Prop}
theorem lk_df (X : (hd.heap_39 P).In h) : Looks (model prog w) h (typeLookup (.ref 58) "default_factory") (some (.builtin "collections.defaultdict.default_factory")) := looks_findIn X (by kernel_rfl)
theorem canon_ga : (Manifest.canonical "collections.defaultdict.__getattribute__" != "object.__getattribute__") = false := by decide +kernel
theorem ty_df : Looks (model prog w) h (typeOf (.builtin "collections.defaultdict.default_factory")) (.type "member_descriptor") := Looks.of_pure (by kernel_rfl)
theorem find_df {od : Obj} : findObj (hd.heap_39 P) 58 (some od) (Str.ofString "default_factory") = some (.bind (.builtin "member_descriptor.__get__") (.builtin "collections.defaultdict.default_factory")) := by kernel_rfl
theorem entry_df : entryFor table "collections.defaultdict.default_factory" = some Builtin.«collections.defaultdict.default_factory» := entryFor_of_tree (by kernel_rfl)
theorem gm_factory (X : (hd.heap_39 P).In h) {x dx fa : Addr} {es : Array DictEntry} {ep : Nat} {od : Obj} {pl : Sem Bool} {Q : Value × List Value → Shared → Prop}
    (hx : h.get? x = some (fdd dx es ep (.ref fa))) (hdx : h.get? dx = some od) (hQ : Q (.ref fa, []) ⟨h, g, d, t + 1, os⟩) :
    wpAny (model prog w) A (getMethod (.ref x) (Str.ofString "default_factory") pl) Q E ⟨h, g, d, t, os⟩ := by
  have I := inst58 hx hdx
  have L0 : Looks (model prog w) h (typeOf (.ref x)) (.ref 58) := I.type
  have L1 := lk_ga (prog := prog) (w := w) X
  have L3 := looks_find (M := model prog w) X I find_df
  have L4 := lk_gat (prog := prog) (w := w) X
  have L5 := lk_bindga (prog := prog) (w := w) X (.ref x)
  have L7 := lk_subdd (prog := prog) (w := w) X
  have L6 : Looks (model prog w) h (isInstance (.ref x) (.type "collections.defaultdict")) true := L0.andThen (f := fun t => isSubtype t (.type "collections.defaultdict")) L7
  have L8 := lk_df (prog := prog) (w := w) X
  have L9 := ty_df (prog := prog) (w := w) (h := h)
  unfold getMethod
  repeat (first | simp only [canon_ga, Bool.false_eq_true, if_false] | with_reducible refine wpAny_attempt ?_ | with_reducible refine wpAny_call ?_ | lk)
  refine codeAny_call_builtin_at (Code.quiet_builtin _ (by decide +kernel)) entry_ga (@check_slot (model prog w) _ _ _ "collections.defaultdict.__getattribute__" "collections.defaultdict" "__getattribute__" (.ref x) _ [] _ kind_ga split_ga L6 (args_ga _ _) ?_)
  unfold Builtin.«object.__getattribute__»
  repeat (first | with_reducible refine wpAny_attempt ?_ | with_reducible refine wpAny_call ?_ | lk)
  have L10 : Looks (model prog w) h (isInstance (.builtin "collections.defaultdict.default_factory") (.type "member_descriptor")) true := Looks.of_pure (by kernel_rfl)
  have hC := X 58 _ rfl
  refine codeAny_call_builtin_at (Code.quiet_builtin _ (by decide +kernel)) KF.entry_mem (@check_slot (model prog w) _ _ _ "member_descriptor.__get__" "member_descriptor" "__get__" (.builtin "collections.defaultdict.default_factory") _ [] _ (by decide +kernel) (by decide +kernel) L10 (KF.args_mem _ _ _) ?_)
  unfold Builtin.«member_descriptor.__get__» Getset_descriptor.descrGet
  repeat (first | with_reducible refine wpAny_attempt ?_ | with_reducible refine wpAny_call ?_ | lk)
  refine ⟨Code.quiet_builtin _ (by decide +kernel), codeAny_builtin entry_df ?_⟩
  unfold Builtin.«collections.defaultdict.default_factory»
  repeat (first | exact hQ | with_reducible refine wpAny_attempt ?_ | with_reducible refine wpAny_call ?_ | lk)
end
end Mine
end

section
open PySem PySem.W PyProof.Rows PySem.Calls Builtin
set_option maxRecDepth 100000
set_option maxHeartbeats 400000
namespace Mine
section
variable {prog : Program} {w : World} {P : Params} {A : Around} {h : Heap} {g : Array GenState} {d : Drawn} {t : Nat} {os : OsState} {E : Value → Shared → Prop}
theorem nd_update' {α : Type} {M : Model} {A : Around} {Q : α → Shared → Prop} {E : Value → Shared → Prop} {s : Shared} {a : Addr} {p : Option Value} {f : Obj → Obj} {k : Unit → Sem α} {o : Obj} (ho : s.heap.get? a = some o) (hf : (f o).isFreed = false)
    (hk : ∀ h', Heap.SameBut a s.heap h' → h'.get? a = some (f o) → wpAny M A (k ()) Q E { s with heap := h' }) : wpAny M A (.update a p f k) Q E s :=
  nd_update ho (hk _ (Heap.SameBut.update ..) (Heap.get?_update_self _ ho hf))
theorem lk_sa (X : (hd.heap_39 P).In h) : Looks (model prog w) h (typeLookup (.ref 58) "__setattr__") (some (.builtin "object.__setattr__")) := looks_findIn X (by kernel_rfl)
theorem lk_bindsa (X : (hd.heap_39 P).In h) (v : Value) : Looks (model prog w) h (bindSpecial (.builtin "object.__setattr__") v) (.builtin "object.__setattr__", [v]) := Looks.of_peek X (by kernel_rfl)
theorem lk_frz (X : (hd.heap_39 P).In h) : Looks (model prog w) h (typeLookup (.ref 58) "_frozen") none := looks_findIn X (by kernel_rfl)
theorem lk_subobj (X : (hd.heap_39 P).In h) : Looks (model prog w) h (isSubtype (.ref 58) (.type "object")) true := Looks.of_peek X (by kernel_rfl)
theorem args_osa (a b c : Value) : argsOk "object.__setattr__" ⟨[a, b, c], []⟩ := by unfold argsOk; kernel_rfl
theorem entry_osa' : entryFor table "object.__setattr__" = some Builtin.«object.__setattr__» := entryFor_of_tree (by kernel_rfl)
theorem fdd_setattr (X : (hd.heap_39 P).In h) {x dx : Addr} {es : Array DictEntry} {ep : Nat} {f v : Value} {Q : Unit → Shared → Prop}
    (hx : h.get? x = some (fdd dx es ep f)) (hdx : h.get? dx = some emptyDict) (hQ : ∀ h' hs tk tk', Heap.SameBut dx h h' → h'.get? dx = some { cls := .type "dict", data := .dict #[⟨hs, .str (Str.ofString "_frozen") tk, v⟩] 1 } → Q () ⟨h', g, d, tk', os⟩) :
    wpAny (model prog w) A (setAttr (.ref x) (Str.ofString "_frozen") v) Q E ⟨h, g, d, t, os⟩ := by
  have L0 := ty58 (prog := prog) (w := w) hx rfl
  have L1 := lk_sa (prog := prog) (w := w) X
  have L2 := lk_bindsa (prog := prog) (w := w) X (.ref x)
  have L3 := lk_subobj (prog := prog) (w := w) X
  have L4 : Looks (model prog w) h (isInstance (.ref x) (.type "object")) true := L0.andThen (f := fun t => isSubtype t (.type "object")) L3
  have L5 := lk_frz (prog := prog) (w := w) X
  have L6 := lk_mro (prog := prog) (w := w) X
  unfold setAttr
  repeat (first | with_reducible refine wpAny_attempt ?_ | with_reducible refine wpAny_call ?_ | lk)
  refine codeAny_call_builtin_at (Code.quiet_builtin _ (by decide +kernel)) entry_osa' (@check_slot (model prog w) _ _ _ "object.__setattr__" "object" "__setattr__" (.ref x) _ [] _ (by decide +kernel) (by decide +kernel) L4 (args_osa _ _ _) ?_)
  unfold Builtin.«object.__setattr__»
  have hC := X 58 _ rfl
  repeat (first | with_reducible refine wpAny_attempt ?_ | with_reducible refine wpAny_call ?_ | lk)
  refine nd_update' hdx rfl fun h' hs hdx' => ?_
  have z := hQ h' _ _ (t + 1 + 1) hs hdx'
  repeat (first | exact z | with_reducible refine wpAny_lookBehind hdx' rfl ?_ | lk)
end
end Mine
end

section
open PySem PySem.W PyProof.Rows PySem.Calls Builtin
set_option maxRecDepth 100000
set_option maxHeartbeats 1000000
set_option pp.deepTerms false
set_option pp.deepTerms.threshold 6
namespace Mine
noncomputable def lam50 (P : Params) : Arguments × Expr × Scope := match (hd.heap_39 P).lookup 55 with
  | some ⟨_, _, .func fd, _⟩ => (match fd.body with
    | .stmts [.Assign _ (.Lambda a b sc _) _] => (a, b, sc)
    | _ => (default, default, default))
  | _ => (default, default, default)
noncomputable def frzO (P : Params) (cS c' : Addr) (pm ctv : Value) : Obj := kla_obj (Str.ofString "<lambda>") q50 (lam50 P).1 (lam50 P).2.1 (lam50 P).2.2 [(Str.ofString "self", cS)] pm c' ctv
noncomputable def FrzLam (P : Params) (l : Led) (x : Addr) (og : Obj) : Prop := ∃ cS c' pm ctv oc, og = frzO P cS c' pm ctv ∧ (cS, oc) ∈ l ∧ oc.data = .cell (some (.ref x)) ∧ CodeOk q50 l c'
noncomputable def NodeFz (w : World) (Rn : Addr) (l : Led) (x : Addr) (ks : List (Str × Tok × Addr)) : Prop :=
  ∃ dx ep f o hs tk gX og, (x, fdd dx (ents w ks).toArray ep (.ref f)) ∈ l ∧ (dx, frzD hs tk gX) ∈ l ∧ (f, o) ∈ l ∧ LamOk w.params l Rn o ∧ (gX, og) ∈ l ∧ FrzLam w.params l x og ∧ x = dx + 1
theorem frz_does {w : World} {G : GG} {base : Heap} {Rn : Addr} {S : St} {x dx f gX : Addr} {es : Array DictEntry} {ep : Nat} {o og od : Obj} {k : Str} {tk : Tok} (hS : S.Ok Rn) (hsz : S.its.size < 100000)
    (hx : (x, fdd dx es ep (.ref f)) ∈ S.objs) (hdx : (dx, od) ∈ S.objs) (hfo : (f, o) ∈ S.objs) (hL : LamOk w.params S.objs Rn o) (hgo : (gX, og) ∈ S.objs) (hG : FrzLam w.params S.objs x og) :
    Does w G base 10 (.call (.ref gX) ⟨[.str k tk], []⟩) (S.led Rn) (fun r σ' => ∃ x S', r = .ref x ∧ σ' = S'.led Rn ∧ NewT w.params Rn S S' x) := by
  intro A L h₀ m mine s R Si hd hu F N O kk
  obtain ⟨env, outer, A₀, B, hA, hf, hke⟩ := Si.fr
  have X := Si.X
  have T := Si.T
  have hh := Si.hh
  have C1 := Si.C1
  have C2 := Si.C2
  obtain ⟨cS, c', pm, ctv, oc, rfl, hcS, hoc, oc2, vs, tt, hm2, hd2, hv2⟩ := hG
  have up : ∀ p ∈ S.objs, p ∈ mine ++ S.led Rn := fun p hp => List.mem_append_right _ (.tail _ (.tail _ (.tail _ hp)))
  have ho := up _ hgo
  have hc := up _ hcS
  have hm := up _ hm2
  have mx := up _ hx
  have mdx := up _ hdx
  have mfo := up _ hfo
  unfold frzO at ho
  obtain ⟨z, hz⟩ : ∃ z, lam50 w.params = z := ⟨_, rfl⟩
  rw [hz] at ho
  conv at hz => lhs; whnf
  subst hz
  dsimp only at ho
  obtain ⟨hd9, dp, fr, gd, un⟩ := A
  dsimp only at hA hh hd hu
  subst hA hh
  revert X; k_fill; intro X
  k_dflt (refine' kla_code ?k1 ?k2 ?k3 ?k4 ?k5 ?kA ?kF ?kK ho ?k7 ?k8 ?k9 ?kB ?_ ?c2 ?c3 ?c4 ?c5; (case kA => exact rfl); (case kF => assumption); (case kK => assumption); (case k1 => k_asm); (case k2 => k_asm); (case k3 => k_asm); (case k4 => k_asm); (case k5 => k_asm); (case k7 => exact codeRec_news N hm hd2 hv2); (case k8 => ((try dsimp only); omega)); (case k9 => exact rfl); (case c5 => decide); (case kB => exact locs rfl); (case c2 => exact rfl); (case c3 => exact rfl); (case c4 => exact rfl); k_whole; intro g' L' h' FG' F' N' B' X' T'; (try dsimp only); (try k_fold))
  k_steps
  refine gm_factory (X'.keeps F'.keep) (N' _ mx).1 (N' _ mdx).1 ?_
  have hfn : FnAt f h' := by
    obtain ⟨cR, c1, pm1, ctv1, oc1, e1, _⟩ := id hL
    rw [e1] at mfo
    exact FnAt.of N' mfo
  refine callWith_F0 hfn ?_
  refine wpAny_call (lam_does hS hsz hfo hL _ L' g' _ mine _ _ ⟨⟨_, _, _, B', rfl, rfl, rfl⟩, X', T', rfl, C1, C2⟩ (by dsimp only [Around.deeper]; omega) (by dsimp only [Around.deeper]; omega) F' N' O ?_)
  rintro r σ' h2 tk2 F2 N2 O2 ⟨y, S', rfl, rfl, hN⟩
  dsimp only
  k_steps
  rename_i kF kN Tc kX
  exact kk (.ref y) _ _ _ kF kN O2 ⟨y, S', rfl, rfl, hN⟩
end Mine
end

section
open PySem PySem.W PyProof.Rows
theorem Mine.clrFrzA (prog : Program) (w : World) (A : Around) (env : Env) (pos : Pos) (s : Shared) : True := by
  w_top off
  first
  | (have : wpAny (model prog w) A (PySem.eval (.Constant (.int 0) 0 pos) env) (fun _ _ => True) (fun _ _ => True) s := by (walk1; fail "x")); trivial
  | trivial
end

section
open PySem PySem.W PyProof.Rows PySem.Calls Builtin
set_option maxRecDepth 100000
set_option maxHeartbeats 400000
set_option pp.deepTerms false
set_option pp.deepTerms.threshold 6
namespace Mine
section
variable {w : World} {A A₀ : Around} {s : Shared} {base h₀ : Heap} {outer : List Env} {L : Addr} {m mg mb : Str → Option Value} {env : Env} {news : List (Addr × Obj)} {p : Program} {loose : List Str} {mean : ExcName → Option Value}
theorem missfz_run {Rn : Addr} {S : St} {G : GG} {base : Heap} {x : Addr} {ks : List (Str × Tok × Addr)} {k : Str} {tk : Tok} (hS : S.Ok Rn) (hsz : S.its.size < 100000) (hx : NodeFz w Rn S.objs x ks)
    (A : Around) (L : Addr) (h₀ : Heap) (m : Str → Option Value) (mine : Led) (s : Shared) (R : Result → Shared → Prop)
    (Si : Sit w G A L base h₀) (hd : A.depth + 20 < recursionLimit) (hu : A.units + 160 < cLine) (F : Fr h₀ L s.heap m) (N : News h₀ L s.heap (mine ++ S.led Rn)) (O : Off mine (S.led Rn))
    (kk : ∀ y S' h' tk', Fr h₀ L h' m → News h₀ L h' (mine ++ S'.led Rn) → Off mine (S'.led Rn) → NewT w.params Rn S S' y → R (.ok (.ret (.ref y))) { s with heap := h', toks := tk' }) :
   codeAny (model Challenge.rw_in0102_01.row.prog w) A (.call (.ref 48) ⟨[.ref x, .str k tk], []⟩) R s := by
  obtain ⟨env, outer, A₀, B, hA, hf, hke⟩ := Si.fr
  have X := Si.X
  have T := Si.T
  have hh := Si.hh
  have C1 := Si.C1
  have C2 := Si.C2
  obtain ⟨dx, ep, fa, ofa, hsf, tkf, gX, og, hx, hdx, hfa, hL, hgX, hG, hxd⟩ := hx
  have mx : (x, fdd dx (ents w ks).toArray ep (.ref fa)) ∈ mine ++ S.led Rn := List.mem_append_right _ (.tail _ (.tail _ (.tail _ hx)))
  have mdx : (dx, frzD hsf tkf gX) ∈ mine ++ S.led Rn := List.mem_append_right _ (.tail _ (.tail _ (.tail _ hdx)))
  have hx58 : x ≠ 58 := by rintro rfl; have := hS.big _ hx; dsimp only at this; omega
  obtain ⟨hd9, dp, fr, gd, un⟩ := A
  dsimp only at hA hh hd hu
  subst hA hh
  revert X; k_fill; intro X
  k_dflt (refine' ks_code_super ?k1 ?k2 ?k3 ?k4 ?k5 ?kA ?kF ?kK ?k6 ?k7 ?k8 ?k9 ?kB ?_ ?c1 ?c2 ?c3 ?c4; (case kA => exact rfl); (case kF => exact hf); (case kK => exact hke); (case k1 => k_asm); (case k2 => k_asm); (case k3 => k_asm); (case k4 => k_asm); (case k5 => k_asm); (case k6 => k_is); (case k7 => k_is); (case k8 => (dsimp only; omega)); (case k9 => exact BindsTo.of_eq rfl); (case kB => exact locs rfl); (case c1 => decide); (case c2 => exact rfl); (case c3 => exact rfl); (case c4 => exact rfl); intro g' L' h' FG' F' N' B' X' T' l1; (try dsimp only))
  refine ks_wpAt_execs_cons (ks_wpAt_Return_some ?_)
  show PySem.wpAt _ _ _ (do callWith _ (← PySem.eval _ _) [] _ _) _ _ _
  refine PySem.wpAt_bind ?_
  show PySem.wpAt _ _ _ (do callWith _ (← PySem.eval _ _) [] _ _) _ _ _
  refine PySem.wpAt_bind (PySem.wpAt_of_wpAny ?_)
  walk1
  refine at_callWith rfl (at_evalArgs (at_spliced_cons (PySem.wpAt_of_wpAny ?_)))
  show wpAny _ _ (PySem.eval _ _) _ _ _
  walk1
  refine at_spliced_cons (PySem.wpAt_of_wpAny ?_)
  show wpAny _ _ (PySem.eval _ _) _ _ _
  walk1
  refine at_spliced_cons ?_
  show PySem.wpAt _ _ _ (do let o ← attributeBase _ _ _ _; standAt _; let r ← holding [o] (getAttr o _ true); letTemporaryGo _ o r; pure r) _ _ _
  have I : W.InstAt h' x (fdd dx (ents w ks).toArray ep (.ref fa)) 58 (some (frzD hsf tkf gX)) := inst58 (N' _ mx).1 (N' _ mdx).1
  refine PySem.wpAt_bind ?_
  k_dflt (refine ks_node (D := 58) (C := 58) F' X' N' T' (by k_is) rfl rfl I (by k_is) rfl (by decide) (by k_is) (by k_is) (by k_is) (by k_is) (by decide) rfl rfl rfl rfl rfl rfl ?_)
  intro so h2 F2 N2 l2
  refine PySem.wpAt_of_wpAny (wpAny_bind (wpAny_standAt (wpAny_bind (wpAny_holding ?_))))
  refine super_getattr (X'.keeps F2.keep) (N2 _ (.head _)).1 (N2 _ (.tail _ mx)).1 rfl hx58 ?_
  refine wpAny_bind (wpAny_bind (wpAny_holding (let_go (wpAny_pure (wpAny_pure (at_spliced_nil ?_))))))
  have F3 := F2.push (bmObj x)
  have N3 := N2.push F2 (bmObj x)
  have lq : ∀ p ∈ mine ++ S.led Rn, p.1 < h2.objs.size := fun p hp => Heap.lt_size (N2 p (.tail _ hp)).1
  generalize hq9 : h2.objs.size = q at N3 lq ⊢
  generalize h2.push (bmObj x) = h3 at F3 N3 ⊢
  dsimp only [List.nil_append]
  refine getattr3_hit (X'.keeps F3.keep) (N3 _ (.tail _ (.tail _ mx))).1 (N3 _ (.tail _ (.tail _ mdx))).1 ?_
  refine PySem.wpAt_of_wpAny ?_
  have mgX : (gX, og) ∈ mine ++ S.led Rn := List.mem_append_right _ (.tail _ (.tail _ (.tail _ hgX)))
  obtain ⟨cS9, c9, pm9, ctv9, oc9, e9, _⟩ := id hG
  obtain ⟨fdG, hfdG⟩ : ∃ fd, og.data = .func fd := by rw [e9]; exact ⟨_, rfl⟩
  refine Calls.callWith_function (o := og) (fd := fdG) (Calls.evalArgs_plain (Calls.spliced_cons ?_))
  show wpAny _ _ (PySem.eval _ _) _ _ _
  walk1
  refine Calls.spliced_nil ?_
  refine ⟨⟨(N3 _ (.tail _ (.tail _ mgX))).1, hfdG⟩, ?_⟩
  refine wpAny_call (frz_does hS hsz hx hdx hfa hL hgX hG _ L' g' _ ((q, bmObj x) :: (so, ks_superObj 58 x 58) :: mine) _ _ ⟨⟨_, _, _, B', rfl, rfl, rfl⟩, X', T', rfl, C1, C2⟩ (by dsimp only [Around.deeper, Around.in1]; omega) (by dsimp only [Around.deeper, Around.in1]; omega) F3 N3 ?_ ?_)
  · intro p hp r hr
    rcases List.mem_cons.mp hp with rfl | hp
    · exact Nat.ne_of_gt (lq r (List.mem_append_right _ hr))
    rcases List.mem_cons.mp hp with rfl | hp
    · exact Nat.ne_of_gt (l2 r (List.mem_append_right _ hr))
    exact O p hp r hr
  rintro r σ' h5 tk5 F5 N5 O5 ⟨y, S1, rfl, rfl, hN⟩
  dsimp only
  k_steps
  rename_i kF kN Tc kX
  exact kk y S1 h5 _ kF (News.sub kN fun p hp => .tail _ (.tail _ hp)) (fun p hp => O5 p (.tail _ (.tail _ hp))) hN
end
end Mine
end

section
open PySem PySem.W PyProof.Rows
theorem Mine.clrMissFz (prog : Program) (w : World) (A : Around) (env : Env) (pos : Pos) (s : Shared) : True := by
  w_top off
  first
  | (have : wpAny (model prog w) A (PySem.eval (.Constant (.int 0) 0 pos) env) (fun _ _ => True) (fun _ _ => True) s := by (walk1; fail "x")); trivial
  | trivial
end

section
open PySem PySem.W PyProof.Rows PySem.Calls Builtin
set_option maxRecDepth 100000
set_option maxHeartbeats 1000000
set_option pp.deepTerms false
set_option pp.deepTerms.threshold 6
namespace Mine
noncomputable def FrzE (P : Params) (l : Led) (x : Addr) (og : Obj) (c' : Addr) : Prop := ∃ cS pm ctv oc, og = frzO P cS c' pm ctv ∧ (cS, oc) ∈ l ∧ oc.data = .cell (some (.ref x))
local macro_rules | `(tactic| k_all) => `(tactic| assumption)
variable {w : World} {G : GG} {A A₀ : Around} {env : Env} {outer : List Env} {base h₀ : Heap} {L : Addr} {m : Str → Option Value} {news : Led} {s : Shared} {R : Result → Shared → Prop}
theorem freeze_none {x dx fa : Addr} {es : Array DictEntry} {ep : Nat} (hA : A.frames = some (env :: outer)) (hf : env.frame = some L) (hke : env.scope.kind = .function) (hh : A.handled = none)
   (B : Below A₀ base outer h₀) (F : Fr h₀ L s.heap m) (X : (hd.heap_39 w.params).In h₀) (N : News h₀ L s.heap ((50, tabObj #[]) :: news)) (T : Top G.p G.loose G.mean G.mg G.mb h₀)
   (C : CodeHd base 54 50) (hp : A.depth + 3 < recursionLimit) (h50 : ∀ p ∈ news, p.1 ≠ 50) (hx : (x, fdd dx es ep (.ref fa)) ∈ news) (hdx : (dx, emptyDict) ∈ news)
   (ret : ∀ (gX c' : Addr) (lo : Nat) (og : Obj) (extra : Led) (h' : Heap) (tk' : Nat) (hs : Int) (tk : Tok), Fr h₀ L h' m →
      News h₀ L h' ((gX, og) :: (50, tabObj (tab50 (some c'))) :: (extra ++ upd news dx (frzD hs tk gX))) →
      FrzE w.params extra x og c' → CodeOk q50 extra c' → (∀ p ∈ news, @LT.lt Nat _ p.1 lo) → @LT.lt Nat _ 50 lo → @LT.lt Nat _ lo gX → (∀ p ∈ extra, @LT.lt Nat _ lo p.1) → (∀ p ∈ extra, @LT.lt Nat _ p.1 gX) →
      R (.ok (.ret .none)) { s with heap := h', toks := tk' }) :
   codeAny (model Challenge.rw_in0102_01.row.prog w) A (.call (.ref 55) ⟨[.ref x], []⟩) R s := by
  obtain ⟨hd9, dp, fr, gd, un⟩ := A
  dsimp only at hA hh hp
  subst hA hh
  revert X; k_fill; intro X
  k_dflt (refine' code_defC ?k1 ?k2 ?k3 ?k4 ?k5 ?kA ?kF ?kK ?k6 ?k7 ?k8 ?k9 ?kB ?kD ?_ ?c2 ?c3 ?c4; (case kA => exact rfl); (case kF => assumption); (case kK => assumption); (case k1 => k_asm); (case k2 => k_asm); (case k3 => k_asm); (case k4 => k_asm); (case k5 => k_asm); (case k6 => k_is); (case k7 => k_is); (case k8 => ((try dsimp only); omega)); (case k9 => first | exact BindsTo.of_eq rfl | exact binds_K (by k_in) rfl (by k_is) rfl rfl rfl | fail "k_enter: no rule for these arguments"); (case kB => exact rfl); (case kD => decide +kernel); (case c2 => exact rfl); (case c3 => exact rfl); (case c4 => exact rfl); k_whole; intro g' L' h' tk' cells' FG' F' N' Y' B' X' T' l1; (try k_lt l1); k_cells Y'; (try simp only [List.cons_append, List.nil_append] at N'); (try dsimp only); (try k_lift B'); (try k_fold))
  k_steps
  rename_i o1 d1 f1 c1 oc1 vs1 t1 ct1 h3 tk3 F3 N3 d2 d3 l2 l3
  have mx : (x, fdd dx es ep (.ref fa)) ∈ ((f1, frzO w.params (L' + 1) c1 ((G.mg (Str.ofString "__name__")).getD Value.none) ct1) :: (c1, oc1) :: (L' + 1, o1) :: (50, tabObj (tab50 (some c1))) :: news : Led) := .tail _ (.tail _ (.tail _ (.tail _ hx)))
  have mdx : (dx, emptyDict) ∈ ((f1, frzO w.params (L' + 1) c1 ((G.mg (Str.ofString "__name__")).getD Value.none) ct1) :: (c1, oc1) :: (L' + 1, o1) :: (50, tabObj (tab50 (some c1))) :: news : Led) := .tail _ (.tail _ (.tail _ (.tail _ hdx)))
  have N3' : News g' L' h3 ((f1, frzO w.params (L' + 1) c1 ((G.mg (Str.ofString "__name__")).getD Value.none) ct1) :: (c1, oc1) :: (L' + 1, o1) :: (50, tabObj (tab50 (some c1))) :: news) := N3
  have lo1 := l1.1
  have ln : ∀ p ∈ news, @LT.lt Nat _ p.1 L' := tb_ltOf l1.2
  have ldx := ln _ hdx
  have l21 := l2.1
  refine fdd_setattr (X'.keeps F3.keep) (N3' _ mx).1 (N3' _ mdx).1 (fun h4 hs tk4 tk5 hsb hdx4 => ?_)
  have F4 := Fr.upd F3 N3' mdx hsb
  have N4 := News.upd N3' mdx hsb hdx4
  have e1 : ¬ (f1 = dx) := by dsimp only at *; exact Nat.ne_of_gt (by omega)
  have e2 : ¬ (c1 = dx) := by dsimp only at *; exact Nat.ne_of_gt (by omega)
  have e3 : ¬ (L' + 1 = dx) := by dsimp only at *; exact Nat.ne_of_gt (by omega)
  have e4 : ¬ ((50 : Addr) = dx) := fun e => h50 _ hdx e.symm
  rw [upd_cons, upd_cons, upd_cons, upd_cons, if_neg e1, if_neg e2, if_neg e3, if_neg e4] at N4
  clear N3 N3' N'
  dsimp only
  k_steps
  rename_i kF kN Tc kX
  refine ret f1 c1 (L' : Nat) (frzO w.params (L' + 1) c1 ((G.mg (Str.ofString "__name__")).getD Value.none) ct1) [(c1, oc1), (L' + 1, o1)] h4 _ hs tk4 kF (News.sub kN ?_) ⟨L' + 1, ((G.mg (Str.ofString "__name__")).getD Value.none), ct1, o1, rfl, .tail _ (.head _), d1⟩ ⟨oc1, vs1, t1, .head _, d2, d3⟩ ln lo1 (by dsimp only at *; omega) (List.forall_mem_cons.mpr ⟨by dsimp only at *; omega, List.forall_mem_cons.mpr ⟨Nat.lt_succ_self _, fun _ h => nomatch h⟩⟩) (List.forall_mem_cons.mpr ⟨l3, List.forall_mem_cons.mpr ⟨by dsimp only at *; omega, fun _ h => nomatch h⟩⟩)
  intro p hp
  simp only [List.mem_cons, List.mem_append, List.not_mem_nil, or_false] at hp ⊢
  grind
end Mine
end

section
open PySem PySem.W PyProof.Rows
theorem Mine.clrFrzB (prog : Program) (w : World) (A : Around) (env : Env) (pos : Pos) (s : Shared) : True := by
  w_top off
  first
  | (have : wpAny (model prog w) A (PySem.eval (.Constant (.int 0) 0 pos) env) (fun _ _ => True) (fun _ _ => True) s := by (walk1; fail "x")); trivial
  | trivial
end

section
open PySem PySem.W PyProof.Rows PySem.Calls Builtin
set_option maxRecDepth 100000
set_option maxHeartbeats 1000000
set_option pp.deepTerms false
set_option pp.deepTerms.threshold 6
namespace Mine
local macro_rules | `(tactic| k_all) => `(tactic| assumption)
variable {w : World} {G : GG} {A A₀ : Around} {env : Env} {outer : List Env} {base h₀ : Heap} {L : Addr} {m : Str → Option Value} {news : Led} {s : Shared} {R : Result → Shared → Prop}
theorem freeze_hit {c0 : Addr} {x dx fa : Addr} {es : Array DictEntry} {ep : Nat} (hA : A.frames = some (env :: outer)) (hf : env.frame = some L) (hke : env.scope.kind = .function) (hh : A.handled = none)
   (B : Below A₀ base outer h₀) (F : Fr h₀ L s.heap m) (X : (hd.heap_39 w.params).In h₀) (N : News h₀ L s.heap ((50, tabObj #[rawInt 9, rawInt 23, .ref c0]) :: news)) (T : Top G.p G.loose G.mean G.mg G.mb h₀)
   (C : CodeHd base 54 50) (hp : A.depth + 3 < recursionLimit) (h50 : ∀ p ∈ news, p.1 ≠ 50) (hx : (x, fdd dx es ep (.ref fa)) ∈ news) (hdx : (dx, emptyDict) ∈ news)
   (ret : ∀ (gX c' : Addr) (lo : Nat) (og : Obj) (extra : Led) (h' : Heap) (tk' : Nat) (hs : Int) (tk : Tok), Fr h₀ L h' m →
      News h₀ L h' ((gX, og) :: (50, tabObj (tab50 (some c'))) :: (extra ++ upd news dx (frzD hs tk gX))) →
      FrzE w.params extra x og c' → c' = c0 → (∀ p ∈ news, @LT.lt Nat _ p.1 lo) → @LT.lt Nat _ 50 lo → @LT.lt Nat _ lo gX → (∀ p ∈ extra, @LT.lt Nat _ lo p.1) → (∀ p ∈ extra, @LT.lt Nat _ p.1 gX) →
      R (.ok (.ret .none)) { s with heap := h', toks := tk' }) :
   codeAny (model Challenge.rw_in0102_01.row.prog w) A (.call (.ref 55) ⟨[.ref x], []⟩) R s := by
  obtain ⟨hd9, dp, fr, gd, un⟩ := A
  dsimp only at hA hh hp
  subst hA hh
  revert X; k_fill; intro X
  k_dflt (refine' code_defC ?k1 ?k2 ?k3 ?k4 ?k5 ?kA ?kF ?kK ?k6 ?k7 ?k8 ?k9 ?kB ?kD ?_ ?c2 ?c3 ?c4; (case kA => exact rfl); (case kF => assumption); (case kK => assumption); (case k1 => k_asm); (case k2 => k_asm); (case k3 => k_asm); (case k4 => k_asm); (case k5 => k_asm); (case k6 => k_is); (case k7 => k_is); (case k8 => ((try dsimp only); omega)); (case k9 => first | exact BindsTo.of_eq rfl | exact binds_K (by k_in) rfl (by k_is) rfl rfl rfl | fail "k_enter: no rule for these arguments"); (case kB => exact rfl); (case kD => decide +kernel); (case c2 => exact rfl); (case c3 => exact rfl); (case c4 => exact rfl); k_whole; intro g' L' h' tk' cells' FG' F' N' Y' B' X' T' l1; (try k_lt l1); k_cells Y'; (try simp only [List.cons_append, List.nil_append] at N'); (try dsimp only); (try k_lift B'); (try k_fold))
  k_steps
  rename_i o1 d1 f1 ct1 h3 tk3 F3 N3 l2
  have mx : (x, fdd dx es ep (.ref fa)) ∈ ((f1, frzO w.params (L' + 1) c0 ((G.mg (Str.ofString "__name__")).getD Value.none) ct1) :: (L' + 1, o1) :: (50, tabObj (tab50 (some c0))) :: news : Led) := .tail _ (.tail _ (.tail _ hx))
  have mdx : (dx, emptyDict) ∈ ((f1, frzO w.params (L' + 1) c0 ((G.mg (Str.ofString "__name__")).getD Value.none) ct1) :: (L' + 1, o1) :: (50, tabObj (tab50 (some c0))) :: news : Led) := .tail _ (.tail _ (.tail _ hdx))
  have N3' : News g' L' h3 ((f1, frzO w.params (L' + 1) c0 ((G.mg (Str.ofString "__name__")).getD Value.none) ct1) :: (L' + 1, o1) :: (50, tabObj (tab50 (some c0))) :: news) := N3
  have lo1 := l1.1
  have ln : ∀ p ∈ news, @LT.lt Nat _ p.1 L' := tb_ltOf l1.2
  have ldx := ln _ hdx
  have l21 := l2.1
  refine fdd_setattr (X'.keeps F3.keep) (N3' _ mx).1 (N3' _ mdx).1 (fun h4 hs tk4 tk5 hsb hdx4 => ?_)
  have F4 := Fr.upd F3 N3' mdx hsb
  have N4 := News.upd N3' mdx hsb hdx4
  have e1 : ¬ (f1 = dx) := by dsimp only at *; exact Nat.ne_of_gt (by omega)
  have e3 : ¬ (L' + 1 = dx) := by dsimp only at *; exact Nat.ne_of_gt (by omega)
  have e4 : ¬ ((50 : Addr) = dx) := fun e => h50 _ hdx e.symm
  rw [upd_cons, upd_cons, upd_cons, if_neg e1, if_neg e3, if_neg e4] at N4
  clear N3 N3' N'
  dsimp only
  k_steps
  rename_i kF kN Tc kX
  refine ret f1 c0 (L' : Nat) (frzO w.params (L' + 1) c0 ((G.mg (Str.ofString "__name__")).getD Value.none) ct1) [(L' + 1, o1)] h4 _ hs tk4 kF (News.sub kN ?_) ⟨L' + 1, ((G.mg (Str.ofString "__name__")).getD Value.none), ct1, o1, rfl, .head _, d1⟩ rfl ln lo1 (by dsimp only at *; omega) (List.forall_mem_cons.mpr ⟨Nat.lt_succ_self _, fun _ h => nomatch h⟩) (List.forall_mem_cons.mpr ⟨l21, fun _ h => nomatch h⟩)
  intro p hp
  simp only [List.mem_cons, List.mem_append, List.not_mem_nil, or_false] at hp ⊢
  grind
end Mine
end

section
open PySem PySem.W PyProof.Rows
theorem Mine.clrFrzC (prog : Program) (w : World) (A : Around) (env : Env) (pos : Pos) (s : Shared) : True := by
  w_top off
  first
  | (have : wpAny (model prog w) A (PySem.eval (.Constant (.int 0) 0 pos) env) (fun _ _ => True) (fun _ _ => True) s := by (walk1; fail "x")); trivial
  | trivial
end

section
open PySem PySem.W PyProof.Rows PySem.Calls Builtin
set_option maxRecDepth 100000
set_option maxHeartbeats 1000000
set_option pp.deepTerms false
set_option pp.deepTerms.threshold 6
namespace Mine
structure Frozen (w : World) (Rn : Addr) (S S' : St) (x : Addr) (ks : List (Str × Tok × Addr)) : Prop where
  ok : S'.Ok Rn
  tb : S'.tb = S.tb
  tc : S'.tc.isSome = true
  its : S'.its = S.its
  nx : NodeFz w Rn S'.objs x ks
  old : ∀ p ∈ S.objs, p.1 + 1 ≠ x → p ∈ S'.objs
theorem freeze_does {w : World} {G : GG} {base : Heap} {Rn : Addr} {S : St} {x : Addr} {ks : List (Str × Tok × Addr)} (hS : S.Ok Rn) (hx : NodeAt w Rn S.objs x ks) :
    Does w G base 3 (.call (.ref 55) ⟨[.ref x], []⟩) (S.led Rn) (fun r σ' => r = .none ∧ ∃ S', σ' = S'.led Rn ∧ Frozen w Rn S S' x ks) := by
  intro A L h₀ m mine s R Si hd hu F N O k
  obtain ⟨env, outer, A₀, B, hA, hf, hke⟩ := Si.fr
  obtain ⟨dx, ep, fa, ofa, hx, hdx, hfa, hL, hxd⟩ := hx
  have N' : News h₀ L s.heap ((50, tabObj (tab50 S.tc)) :: ((71, tabObj (tab71 S.tb)) :: (Rn, W.listOf S.its S.n) :: (mine ++ S.objs))) := News.sub N (by
    intro p hp; simp only [List.mem_cons, List.mem_append, St.led] at hp ⊢; grind)
  have h50 : ∀ p ∈ ((71, tabObj (tab71 S.tb)) :: (Rn, W.listOf S.its S.n) :: (mine ++ S.objs) : Led), p.1 ≠ 50 := by
    intro p hp
    rcases List.mem_cons.mp hp with rfl | hp
    · exact (by decide : (71 : Nat) ≠ 50)
    rcases List.mem_cons.mp hp with rfl | hp
    · exact hS.r50
    rcases List.mem_append.mp hp with hp | hp
    · exact O p hp (50, tabObj (tab50 S.tc)) (.tail _ (.head _))
    · exact (hS.off p hp).2.1
  have mx : (x, fdd dx (ents w ks).toArray ep (.ref fa)) ∈ ((71, tabObj (tab71 S.tb)) :: (Rn, W.listOf S.its S.n) :: (mine ++ S.objs) : Led) := .tail _ (.tail _ (List.mem_append_right _ hx))
  have mdx : (dx, emptyDict) ∈ ((71, tabObj (tab71 S.tb)) :: (Rn, W.listOf S.its S.n) :: (mine ++ S.objs) : Led) := .tail _ (.tail _ (List.mem_append_right _ hdx))
  obtain ⟨a1, a2, a3⟩ := hS.off _ hdx
  have fin : ∀ (gX c' : Addr) (lo : Nat) (og : Obj) (extra : Led) (h' : Heap) (tk' : Nat) (hs : Int) (tk : Tok), Fr h₀ L h' m →
      News h₀ L h' ((gX, og) :: (50, tabObj (tab50 (some c'))) :: (extra ++ upd ((71, tabObj (tab71 S.tb)) :: (Rn, W.listOf S.its S.n) :: (mine ++ S.objs)) dx (frzD hs tk gX))) →
      FrzE w.params extra x og c' → (CodeOk q50 extra c' ∨ S.tc = some c') → (∀ p ∈ ((71, tabObj (tab71 S.tb)) :: (Rn, W.listOf S.its S.n) :: (mine ++ S.objs) : Led), @LT.lt Nat _ p.1 lo) → @LT.lt Nat _ 50 lo → @LT.lt Nat _ lo gX → (∀ p ∈ extra, @LT.lt Nat _ lo p.1) → (∀ p ∈ extra, @LT.lt Nat _ p.1 gX) →
      R (.ok (.ret .none)) { s with heap := h', toks := tk' } := by
    intro gX c' lo og extra h' tk' hs tk F2 N2 L2 C2 b1 b2 b3 b4 b5
    have e1 : ¬ ((71 : Addr) = dx) := fun e => a1 e.symm
    have e2 : ¬ (Rn = dx) := fun e => a3 e.symm
    have e3 : ∀ p ∈ mine, p.1 ≠ dx := fun p hp => O p hp _ (.tail _ (.tail _ (.tail _ hdx)))
    rw [upd_cons, upd_cons, if_neg e1, if_neg e2, upd_append, upd_off e3] at N2
    have N3 : News h₀ L h' (mine ++ St.led Rn ⟨S.tb, some c', S.its, S.n, (gX, og) :: (extra ++ upd S.objs dx (frzD hs tk gX))⟩) := News.sub N2 (by
      intro p hp; simp only [List.mem_cons, List.mem_append, St.led] at hp ⊢; grind)
    have ok1 : St.Ok Rn { S with objs := upd S.objs dx (frzD hs tk gX) } := ok_upd hS hdx (fun vs e => by cases e)
    have O1 : Off mine (St.led Rn { S with objs := upd S.objs dx (frzD hs tk gX) }) := off_upd O
    have big : ∀ q ∈ ((gX, og) :: extra : Led), @LT.lt Nat _ lo q.1 := by
      intro q hq
      rcases List.mem_cons.mp hq with rfl | hq
      · exact b3
      · exact b4 q hq
    have lo71 : @LT.lt Nat _ 71 lo := b1 _ (.head _)
    have loR : @LT.lt Nat _ Rn lo := b1 _ (.tail _ (.head _))
    have old : ∀ p ∈ upd S.objs dx (frzD hs tk gX), p ∈ ((gX, og) :: (extra ++ upd S.objs dx (frzD hs tk gX)) : Led) := fun p hp => .tail _ (List.mem_append_right _ hp)
    have oldx : ∀ p ∈ extra, p ∈ ((gX, og) :: (extra ++ upd S.objs dx (frzD hs tk gX)) : Led) := fun p hp => .tail _ (List.mem_append_left _ hp)
    have code1 : ∀ q c, CodeOk q S.objs c → CodeOk q (upd S.objs dx (frzD hs tk gX)) c := by
      rintro q c ⟨oc, vs, t, a, b, d⟩
      refine ⟨oc, vs, t, mem_upd_ne a ?_, b, d⟩
      rintro rfl
      rw [← hS.fns _ _ _ hdx a] at b; cases b
    have hcode : CodeOk q50 ((gX, og) :: (extra ++ upd S.objs dx (frzD hs tk gX))) c' := by
      rcases C2 with C2 | C2
      · exact C2.mono oldx
      · exact (code1 _ _ (hS.cc c' C2)).mono old
    refine k .none _ h' tk' F2 N3 ?_ ⟨rfl, ⟨S.tb, some c', S.its, S.n, (gX, og) :: (extra ++ upd S.objs dx (frzD hs tk gX))⟩, rfl, ?_, rfl, rfl, rfl, ?_, ?_⟩
    · intro p hp q hq
      rcases List.mem_cons.mp hq with rfl | hq
      · exact O1 p hp (71, tabObj (tab71 S.tb)) (.head _)
      rcases List.mem_cons.mp hq with rfl | hq
      · exact O1 p hp (50, tabObj (tab50 S.tc)) (.tail _ (.head _))
      rcases List.mem_cons.mp hq with rfl | hq
      · exact O1 p hp (Rn, W.listOf S.its S.n) (.tail _ (.tail _ (.head _)))
      rw [show ((gX, og) :: (extra ++ upd S.objs dx (frzD hs tk gX)) : Led) = ((gX, og) :: extra) ++ upd S.objs dx (frzD hs tk gX) from rfl] at hq
      rcases List.mem_append.mp hq with hq | hq
      · exact Nat.ne_of_lt (Nat.lt_trans (b1 p (.tail _ (.tail _ (List.mem_append_left _ hp)))) (big q hq))
      · exact O1 p hp q (.tail _ (.tail _ (.tail _ hq)))
    · refine ⟨hS.r71, hS.r50, ?_, ?_, ?_, ?_, ?_⟩
      · intro p hp
        rw [show ((gX, og) :: (extra ++ upd S.objs dx (frzD hs tk gX)) : Led) = ((gX, og) :: extra) ++ upd S.objs dx (frzD hs tk gX) from rfl] at hp
        rcases List.mem_append.mp hp with hp | hp
        · have := big p hp
          exact ⟨by omega, by omega, by omega⟩
        · exact ok1.off p hp
      · intro p hp
        rw [show ((gX, og) :: (extra ++ upd S.objs dx (frzD hs tk gX)) : Led) = ((gX, og) :: extra) ++ upd S.objs dx (frzD hs tk gX) from rfl] at hp
        rcases List.mem_append.mp hp with hp | hp
        · have := big p hp; omega
        · exact ok1.big p hp
      · intro c hc; exact (code1 _ _ (hS.cb c hc)).mono old
      · intro c hc; cases hc; exact hcode
      · intro a o1 o2 h1 h2
        exact News.fun N3 (List.mem_append_right _ (.tail _ (.tail _ (.tail _ h1)))) (List.mem_append_right _ (.tail _ (.tail _ (.tail _ h2))))
    · have nx : x ≠ dx := by rw [hxd]; exact Nat.succ_ne_self dx
      have nf : fa ≠ dx := by
        rintro rfl
        have e := hS.fns _ _ _ hdx hfa
        obtain ⟨fd, e2⟩ := hL.fn
        rw [← e] at e2; cases e2
      obtain ⟨cS, pm, ctv, oc, e1', e2', e3'⟩ := L2
      exact ⟨dx, ep, fa, ofa, hs, tk, gX, og, old _ (mem_upd_ne hx nx), old _ (mem_upd_self hdx), old _ (mem_upd_ne hfa nf), (LamOk.upd hS hdx (fun vs e => by cases e) (fun v e => by cases e) hL).mono old, .head _, ⟨cS, c', pm, ctv, oc, e1', oldx _ e2', e3', hcode⟩, hxd⟩
    · intro p hp hne
      exact old _ (mem_upd_ne hp fun e => hne (by rw [e, hxd]))
  cases htc : S.tc with
  | none =>
    rw [htc] at N'
    exact freeze_none hA hf hke Si.hh B F Si.X N' Si.T Si.C2 hd h50 mx mdx fun gX c' lo og extra h' tk' hs tk F2 N2 L2 C2 => fin gX c' lo og extra h' tk' hs tk F2 N2 L2 (.inl C2)
  | some c0 =>
    rw [htc] at N'
    exact freeze_hit hA hf hke Si.hh B F Si.X N' Si.T Si.C2 hd h50 mx mdx fun gX c' lo og extra h' tk' hs tk F2 N2 L2 C2 => fin gX c' lo og extra h' tk' hs tk F2 N2 L2 (.inr (C2 ▸ htc))
end Mine
end

section
open PySem PySem.W PyProof.Rows PySem.Calls Builtin
set_option maxRecDepth 100000
set_option maxHeartbeats 1000000
namespace Mine
noncomputable abbrev Path := List PySem.Str
noncomputable abbrev eS : PySem.Str := ⟨#[]⟩
noncomputable abbrev aS : PySem.Str := ⟨#[97]⟩
noncomputable abbrev bS : PySem.Str := ⟨#[98]⟩
noncomputable def Letter (k : PySem.Str) : Prop := k = eS ∨ k = aS ∨ k = bS
structure Tr where
  at_ : Path → Option Addr
  ks : Path → List (PySem.Str × Tok × Addr)
noncomputable def NodeX (w : World) (Rn : Addr) (l : Led) (x : Addr) (ks : List (PySem.Str × Tok × Addr)) : Bool → Prop
  | false => NodeAt w Rn l x ks
  | true => NodeFz w Rn l x ks
structure Lay (w : World) (Rn : Addr) (l : Led) (T : Tr) (dom : List Path) (fz : Path → Bool) : Prop where
  node : ∀ p x, T.at_ p = some x → NodeX w Rn l x (T.ks p) (fz p)
  kd : ∀ p x k, T.at_ p = some x → kid (T.ks p) k = T.at_ (p ++ [k])
  inj : ∀ p q x, T.at_ p = some x → T.at_ q = some x → p = q
  up : ∀ p k, (T.at_ (p ++ [k])).isSome = true → (T.at_ p).isSome = true
  mem : ∀ p, p ∈ dom ↔ (T.at_ p).isSome = true
  nd : dom.Nodup
  kn : ∀ p x, T.at_ p = some x → ((T.ks p).map (·.1)).Nodup
  kl : ∀ p x, T.at_ p = some x → ∀ e ∈ T.ks p, Letter e.1
theorem letters3 {l : List PySem.Str} (hn : l.Nodup) (hl : ∀ k ∈ l, Letter k) : l.length ≤ 3 := by
  have key : ∀ (m l : List PySem.Str), l.Nodup → (∀ k ∈ l, k ∈ m) → l.length ≤ m.length := by
    intro m
    induction m with
    | nil => intro l _ h; cases l with
      | nil => exact Nat.le_refl _
      | cons a _ => exact nomatch h a (.head _)
    | cons b m ih =>
      intro l hn h
      have h1 := ih (l.filter (· != b)) (hn.filter _) fun k hk => by
        rw [List.mem_filter] at hk
        rcases List.mem_cons.mp (h k hk.1) with e | e
        · simp [e] at hk
        · exact e
      have h2 : l.length ≤ (l.filter (· != b)).length + 1 := by
        have h3 : l.countP (· == b) ≤ 1 := by
          have := List.nodup_iff_count.mp hn b
          exact this
        have h4 := List.length_eq_countP_add_countP (fun x => x != b) (l := l)
        rw [List.countP_eq_length_filter] at h4
        have h5 : l.countP (fun x => decide ¬ (x != b) = true) = l.countP (· == b) := by
          congr 1; funext x; by_cases e : x = b <;> simp [e]
        omega
      simp only [List.length_cons]; omega
  exact key [eS, aS, bS] l hn fun k hk => by rcases hl k hk with h | h | h <;> simp [h]
noncomputable def Tr.grow (T : Tr) (p : Path) (k : PySem.Str) (tk : Tok) (y : Addr) : Tr where
  at_ := fun q => if q = p ++ [k] then some y else T.at_ q
  ks := fun q => if q = p then T.ks p ++ [(k, tk, y)] else if q = p ++ [k] then [] else T.ks q
theorem NodeAt.has {w : World} {Rn : Addr} {l : Led} {x : Addr} {ks : List (PySem.Str × Tok × Addr)} {b : Bool} (h : NodeX w Rn l x ks b) : ∃ dx ep f, (x, fdd dx (ents w ks).toArray ep (.ref f)) ∈ l ∧ x = dx + 1 := by
  cases b with
  | false => obtain ⟨dx, ep, f, o, a, b, c, d, e⟩ := h; exact ⟨dx, ep, f, a, e⟩
  | true => obtain ⟨dx, ep, f, o, hs, tk, gX, og, a, b, c, d, e, f', g⟩ := h; exact ⟨dx, ep, f, a, g⟩
/-- what stands in a ledger but for one entry stands on: nodes other than x -/
theorem NodeX.step {w : World} {Rn : Addr} {S S' : St} {x z : Addr} {ks ks' : List (PySem.Str × Tok × Addr)} {b : Bool} {dx : Addr} {ep : Nat} {f : Value} (hS : S.Ok Rn) (hx : (x, fdd dx (ents w ks).toArray ep f) ∈ S.objs)
    (old : ∀ p ∈ S.objs, p.1 ≠ x → p ∈ S'.objs) (hne : z ≠ x) (h : NodeX w Rn S.objs z ks' b) : NodeX w Rn S'.objs z ks' b := by
  have keep : ∀ a o, (a, o) ∈ S.objs → o.cls ≠ .ref 58 → (a, o) ∈ S'.objs := by
    intro a o h hc
    refine old _ h ?_
    rintro rfl
    exact hc (by rw [← hS.fns _ _ _ hx h])
  have keepd : ∀ a o, (a, o) ∈ S.objs → (∀ es n, o.data ≠ .dict es n) → (a, o) ∈ S'.objs := by
    intro a o h hc
    refine old _ h ?_
    rintro rfl
    exact hc _ _ (by rw [← hS.fns _ _ _ hx h])
  have lam : ∀ o, LamOk w.params S.objs Rn o → LamOk w.params S'.objs Rn o := by
    rintro o ⟨cR, c', pm, ctv, oc, e, a, b, ⟨oc2, vs, t, c, d, f⟩⟩
    exact ⟨cR, c', pm, ctv, oc, e, keepd _ _ a (fun es n h => by rw [b] at h; cases h), b, ⟨oc2, vs, t, keepd _ _ c (fun es n h => by rw [d] at h; cases h), d, f⟩⟩
  have flam : ∀ x o, FrzLam w.params S.objs x o → FrzLam w.params S'.objs x o := by
    rintro x o ⟨cR, c', pm, ctv, oc, e, a, b, ⟨oc2, vs, t, c, d, f⟩⟩
    exact ⟨cR, c', pm, ctv, oc, e, keepd _ _ a (fun es n h => by rw [b] at h; cases h), b, ⟨oc2, vs, t, keepd _ _ c (fun es n h => by rw [d] at h; cases h), d, f⟩⟩
  cases b with
  | false =>
    obtain ⟨dz, ez, fz, oz, a, b, c, d, e⟩ := h
    obtain ⟨fd, hfd⟩ := d.fn
    exact ⟨dz, ez, fz, oz, old _ a hne, keep _ _ b (by decide), keepd _ _ c (fun es n h => by rw [hfd] at h; cases h), lam _ d, e⟩
  | true =>
    obtain ⟨dz, ez, fz, oz, hs, tk, gX, og, a, b, c, d, e1, e2, e⟩ := h
    obtain ⟨fd, hfd⟩ := d.fn
    obtain ⟨cS9, c9, pm9, ctv9, oc9, e9, _⟩ := id e2
    exact ⟨dz, ez, fz, oz, hs, tk, gX, og, old _ a hne, keep _ _ b (by simp), keepd _ _ c (fun es n h => by rw [hfd] at h; cases h), lam _ d, keepd _ _ e1 (fun es n h => by rw [e9] at h; cases h), flam _ _ e2, e⟩
theorem kid_app_none {l : List (PySem.Str × Tok × Addr)} {k k' : PySem.Str} {tk : Tok} {y : Addr} (h : kid l k = none) : kid (l ++ [(k, tk, y)]) k' = if k' = k then some y else kid l k' := by
  unfold kid at h ⊢
  rw [List.find?_append]
  by_cases e : k' = k
  · subst e
    rw [Option.map_eq_none_iff] at h
    rw [h]; simp
  · rw [if_neg e]
    have : ([(k, tk, y)] : List (PySem.Str × Tok × Addr)).find? (fun e => e.1 == k') = none := by
      have e' : ¬ k = k' := fun h => e h.symm
      simp [e']
    rw [this, Option.or_none]
theorem Lay.grow {w : World} {Rn : Addr} {S S' : St} {T : Tr} {dom : List Path} {fz : Path → Bool} {p : Path} {x y : Addr} {k : PySem.Str} {tk : Tok} (hS : S.Ok Rn) (H : Lay w Rn S.objs T dom fz) (hp : T.at_ p = some x) (hfp : fz p = false) (hfk : fz (p ++ [k]) = false)
    (hk : T.at_ (p ++ [k]) = none) (hL : Letter k) (G : Grown w Rn S S' x y (T.ks p) k tk) : Lay w Rn S'.objs (T.grow p k tk y) ((p ++ [k]) :: dom) fz := by
  have hxN := H.node p x hp
  rw [hfp] at hxN
  obtain ⟨dx, ep, f, hx, hxd⟩ := NodeAt.has hxN
  have ne : p ≠ p ++ [k] := fun e => by have := congrArg List.length e; simp at this
  have hkn : kid (T.ks p) k = none := by rw [H.kd p x k hp, hk]
  have yn : ∀ q z, T.at_ q = some z → z ≠ y := by
    intro q z hq e
    obtain ⟨_, _, _, hz, _⟩ := NodeAt.has (H.node q z hq)
    exact G.new _ hz e
  refine ⟨?_, ?_, ?_, ?_, ?_, ?_, ?_, ?_⟩
  · intro q z hq
    simp only [Tr.grow] at hq ⊢
    by_cases e : q = p ++ [k]
    · subst e
      rw [if_pos rfl] at hq
      cases hq
      rw [if_neg (Ne.symm ne), if_pos rfl, hfk]
      exact G.ny
    · rw [if_neg e] at hq
      by_cases e2 : q = p
      · subst e2
        rw [hp] at hq; cases hq
        rw [if_pos rfl, hfp]
        exact G.nx
      · rw [if_neg e2, if_neg e]
        refine NodeX.step hS hx G.old ?_ (H.node q z hq)
        rintro rfl
        exact e2 (H.inj _ _ _ hq hp)
  · intro q z k' hq
    simp only [Tr.grow] at hq ⊢
    by_cases e : q = p ++ [k]
    · subst e
      rw [if_neg (Ne.symm ne), if_pos rfl]
      have : ¬ (p ++ [k] ++ [k'] = p ++ [k]) := fun e => by have := congrArg List.length e; simp at this
      rw [if_neg this]
      cases h : T.at_ (p ++ [k] ++ [k']) with
      | none => rfl
      | some z' => have := H.up (p ++ [k]) k' (by rw [h]; rfl); rw [hk] at this; cases this
    · rw [if_neg e] at hq
      by_cases e2 : q = p
      · subst e2
        rw [if_pos rfl, kid_app_none hkn]
        by_cases e3 : k' = k
        · subst e3; simp
        · rw [if_neg e3, if_neg (fun h => e3 (by simpa using h)), H.kd q x k' hp]
      · rw [if_neg e2, if_neg e, H.kd q z k' hq]
        have : ¬ (q ++ [k'] = p ++ [k]) := fun h => e2 (List.append_inj_left' h rfl)
        rw [if_neg this]
  · intro q q' z h1 h2
    simp only [Tr.grow] at h1 h2
    by_cases e : q = p ++ [k] <;> by_cases e' : q' = p ++ [k]
    · rw [e, e']
    · rw [if_pos e] at h1; rw [if_neg e'] at h2; cases h1; exact absurd rfl (yn _ _ h2)
    · rw [if_neg e] at h1; rw [if_pos e'] at h2; cases h2; exact absurd rfl (yn _ _ h1)
    · rw [if_neg e] at h1; rw [if_neg e'] at h2; exact H.inj _ _ _ h1 h2
  · intro q k' h
    simp only [Tr.grow] at h ⊢
    by_cases e : q = p ++ [k]
    · rw [if_pos e]; rfl
    · rw [if_neg e]
      by_cases e2 : q ++ [k'] = p ++ [k]
      · have : q = p := List.append_inj_left' e2 rfl
        rw [this, hp]; rfl
      · rw [if_neg e2] at h; exact H.up q k' h
  · intro q
    simp only [Tr.grow, List.mem_cons]
    by_cases e : q = p ++ [k]
    · simp [e]
    · simp only [e, false_or, if_false]; exact H.mem q
  · refine List.nodup_cons.mpr ⟨fun h => ?_, H.nd⟩
    rw [H.mem, hk] at h; cases h
  · intro q z hq
    simp only [Tr.grow] at hq ⊢
    by_cases e2 : q = p
    · subst e2
      rw [if_pos rfl, List.map_append]
      refine List.nodup_append.mpr ⟨H.kn q x hp, by simp, ?_⟩
      intro a ha b hb
      simp only [List.map_cons, List.map_nil, List.mem_singleton] at hb
      subst hb
      rintro rfl
      obtain ⟨e, he, rfl⟩ := List.mem_map.mp ha
      unfold kid at hkn
      have := List.find?_eq_none.mp (Option.map_eq_none_iff.mp hkn) e he
      simp at this
    · rw [if_neg e2]
      by_cases e : q = p ++ [k]
      · rw [if_pos e]; exact List.nodup_nil
      · rw [if_neg e] at hq ⊢; exact H.kn q z hq
  · intro q z hq
    simp only [Tr.grow] at hq ⊢
    by_cases e2 : q = p
    · subst e2
      rw [if_pos rfl]
      intro e he
      rcases List.mem_append.mp he with he | he
      · exact H.kl q x hp e he
      · rw [List.mem_singleton.mp he]; exact hL
    · rw [if_neg e2]
      by_cases e : q = p ++ [k]
      · rw [if_pos e]; intro e he; cases he
      · rw [if_neg e] at hq ⊢; exact H.kl q z hq
/-- another tree stands on -/
theorem Lay.other {w : World} {Rn : Addr} {S S' : St} {U : Tr} {dom : List Path} {fz : Path → Bool} {x dx : Addr} {ks : List (PySem.Str × Tok × Addr)} {ep : Nat} {f : Value} (hS : S.Ok Rn) (H : Lay w Rn S.objs U dom fz) (hx : (x, fdd dx (ents w ks).toArray ep f) ∈ S.objs)
    (old : ∀ p ∈ S.objs, p.1 ≠ x → p ∈ S'.objs) (hn : ∀ p, U.at_ p ≠ some x) : Lay w Rn S'.objs U dom fz :=
  ⟨fun p z hp => NodeX.step hS hx old (fun e => hn p (e ▸ hp)) (H.node p z hp), H.kd, H.inj, H.up, H.mem, H.nd, H.kn, H.kl⟩
theorem NodeX.mono {w : World} {Rn : Addr} {l l' : Led} {z : Addr} {ks' : List (PySem.Str × Tok × Addr)} {b : Bool} (old : ∀ p ∈ l, p ∈ l') (h : NodeX w Rn l z ks' b) : NodeX w Rn l' z ks' b := by
  have flam : ∀ x o, FrzLam w.params l x o → FrzLam w.params l' x o := by
    rintro x o ⟨cR, c', pm, ctv, oc, e, a, b, c⟩
    exact ⟨cR, c', pm, ctv, oc, e, old _ a, b, c.mono old⟩
  cases b with
  | false =>
    obtain ⟨dz, ez, fz, oz, a, b, c, d, e⟩ := h
    exact ⟨dz, ez, fz, oz, old _ a, old _ b, old _ c, d.mono old, e⟩
  | true =>
    obtain ⟨dz, ez, fz, oz, hs, tk, gX, og, a, b, c, d, e1, e2, e⟩ := h
    exact ⟨dz, ez, fz, oz, hs, tk, gX, og, old _ a, old _ b, old _ c, d.mono old, old _ e1, flam _ _ e2, e⟩
theorem Lay.mono {w : World} {Rn : Addr} {l l' : Led} {U : Tr} {dom : List Path} {fz : Path → Bool} (H : Lay w Rn l U dom fz) (old : ∀ p ∈ l, p ∈ l') : Lay w Rn l' U dom fz :=
  ⟨fun p z hp => NodeX.mono old (H.node p z hp), H.kd, H.inj, H.up, H.mem, H.nd, H.kn, H.kl⟩
end Mine
end

section
open PySem PySem.W PyProof.Rows PySem.Calls Builtin
set_option maxRecDepth 100000
set_option maxHeartbeats 1000000
namespace Mine
noncomputable def Dis (U T : Tr) : Prop := ∀ p q x, U.at_ p = some x → T.at_ q ≠ some x
noncomputable def ins (dom : List Path) (q : Path) : List Path := if q ∈ dom then dom else q :: dom
structure Stepped (w : World) (Rn : Addr) (S S' : St) (T T' : Tr) (dom : List Path) (fz : Path → Bool) (q : Path) (y : Addr) : Prop where
  ok : S'.Ok Rn
  lay : Lay w Rn S'.objs T' (ins dom q) fz
  at_ : T'.at_ q = some y
  old : ∀ q z, T.at_ q = some z → T'.at_ q = some z
  oth : ∀ U domU fzU, Lay w Rn S.objs U domU fzU → Dis U T → Lay w Rn S'.objs U domU fzU ∧ Dis U T'
  its : S'.its.size + dom.length = S.its.size + (ins dom q).length
theorem fdd_tail {prog : Program} {w : World} {A : Around} {s : Shared} {E : Value → Shared → Prop} {P : Params} {value slice : Expr} {x : Addr} {ox : Obj} {i : Value} {Q : Value → Shared → Prop} (X : (hd.heap_39 P).In s.heap) (hx : s.heap.get? x = some ox) (hc : ox.cls = .ref 58)
    (h : wpAny (model prog w) A (getItem (.ref x) i) Q E s)
    (hs : subscripted slice false (.ref x) i = operate [.ref x, i] (getItem (.ref x) i) := by with_unfolding_all rfl) (ht : ∀ r, letTemporaryGo value (.ref x) r = pure () := by intro _; with_unfolding_all rfl) :
    wpAny (model prog w) A (subscriptTail value slice (.ref x) i) Q E s := by
  obtain ⟨hh, g, d, t, os⟩ := s
  have L0 := ty58 (prog := prog) (w := w) hx hc
  have L1 := lk_gi (prog := prog) (w := w) X
  unfold subscriptTail getitemInPython
  have fin : wpAny (model prog w) A (subscripted slice false (.ref x) i) (fun r s₃ => wpAny (model prog w) A (letTemporaryGo value (.ref x) r >>= fun _ => pure r) Q E s₃) E ⟨hh, g, d, t, os⟩ := by
    rw [hs]
    exact wpAny_operating (wpAny_mono h (fun r s₃ h₃ => wpAny_bind (wpAny_of_eq (ht r) (wpAny_pure h₃))) fun _ _ x => x)
  repeat (first | exact fin | with_reducible refine wpAny_bind ?_ | lk)
theorem step_item {w : World} {G : GG} {base : Heap} {Rn : Addr} {S : St} {T : Tr} {dom : List Path} {fz : Path → Bool} {p : Path} {x : Addr} {k : PySem.Str} {tk : Tok} (hS : S.Ok Rn) (hsz : S.its.size < 100000) (H : Lay w Rn S.objs T dom fz) (hp : T.at_ p = some x)
    (hfp : fz p = false) (hfk : fz (p ++ [k]) = false) (hL : Letter k)
    {A : Around} {L : Addr} {h₀ : Heap} {m : PySem.Str → Option Value} {mine : Led} {s : Shared} {Q E : Value → Shared → Prop}
    (Si : Sit w G A L base h₀) (hd : A.depth + 10 < recursionLimit) (hu : A.units + 81 < cLine) (F : Fr h₀ L s.heap m) (N : News h₀ L s.heap (mine ++ S.led Rn)) (O : Off mine (S.led Rn))
    (kk : ∀ y S' T' h' tk', Fr h₀ L h' m → News h₀ L h' (mine ++ S'.led Rn) → Off mine (S'.led Rn) → Stepped w Rn S S' T T' dom fz (p ++ [k]) y → Q (.ref y) { s with heap := h', toks := tk' }) :
    wpAny (model Challenge.rw_in0102_01.row.prog w) A (getItem (.ref x) (.str k tk)) Q E s := by
  have hxN := H.node p x hp
  rw [hfp] at hxN
  obtain ⟨dx, ep, f, hx, hxd⟩ := NodeAt.has hxN
  have mx : (x, fdd dx (ents w (T.ks p)).toArray ep (.ref f)) ∈ mine ++ S.led Rn := List.mem_append_right _ (.tail _ (.tail _ (.tail _ hx)))
  have X := Si.X.keeps F.keep
  obtain ⟨hh, g, d, t, os⟩ := s
  cases hk : T.at_ (p ++ [k]) with
  | some y =>
    have hm : p ++ [k] ∈ dom := (H.mem _).mpr (by rw [hk]; rfl)
    have hi : ins dom (p ++ [k]) = dom := if_pos hm
    refine getItem_hit X (N _ mx).1 ((H.kd p x k hp).trans hk) (kk y S T hh (t + 1) F N O ⟨hS, (by rw [hi]; exact H), hk, fun _ _ h => h, fun U d f h1 h2 => ⟨h1, h2⟩, by rw [hi]⟩)
  | none =>
    have hm : ¬ p ++ [k] ∈ dom := fun h => by rw [H.mem, hk] at h; cases h
    have hi : ins dom (p ++ [k]) = (p ++ [k]) :: dom := if_neg hm
    have hkn : kid (T.ks p) k = none := (H.kd p x k hp).trans hk
    have hl : (T.ks p).length ≤ 100 := by
      have h3 := letters3 (H.kn p x hp) (fun k hk => by obtain ⟨e, he, rfl⟩ := List.mem_map.mp hk; exact H.kl p x hp e he)
      rw [List.length_map] at h3; omega
    have hsys : (x == sysModules) = false := by
      have := hS.big _ hx
      dsimp only at this
      rw [beq_eq_false_iff_ne]
      exact fun e => by rw [e] at this; exact absurd this (by decide)
    refine getItem_miss X (N _ mx).1 hsys hkn ?_
    refine miss_run (s := ⟨hh, g, d, t + 1, os⟩) hS hsz hxN hkn hl _ L h₀ m mine _ Si.in hd (by dsimp only [Around.in1]; omega) F N O fun y S' h' tk' F' N' O' G => ?_
    refine kk y S' (T.grow p k tk y) h' tk' F' N' O' ⟨G.ok, (by rw [hi]; exact H.grow hS hp hfp hfk hk hL G), if_pos rfl, fun q z hq => ?_, fun U dU fU hU dis => ⟨hU.other hS hx G.old (fun q hq => dis q p x hq hp), fun a b z ha hb => ?_⟩, by rw [hi, List.length_cons, G.its]; omega⟩
    · show (if q = p ++ [k] then some y else T.at_ q) = some z
      rw [if_neg (fun e => by rw [e, hk] at hq; cases hq)]; exact hq
    · by_cases e : b = p ++ [k]
      · have hb' : (if b = p ++ [k] then some y else T.at_ b) = some z := hb
        rw [if_pos e] at hb'
        cases hb'
        obtain ⟨_, _, _, hz, _⟩ := NodeAt.has (hU.node a _ ha)
        exact G.new _ hz rfl
      · have hb' : (if b = p ++ [k] then some y else T.at_ b) = some z := hb
        rw [if_neg e] at hb'
        exact dis a b z ha hb'
theorem step_sub {w : World} {G : GG} {base : Heap} {Rn : Addr} {S : St} {T : Tr} {dom : List Path} {fz : Path → Bool} {p : Path} {x : Addr} {k : PySem.Str} {tk : Tok} (hS : S.Ok Rn) (hsz : S.its.size < 100000) (H : Lay w Rn S.objs T dom fz) (hp : T.at_ p = some x)
    (hfp : fz p = false) (hfk : fz (p ++ [k]) = false) (hL : Letter k)
    {A : Around} {L : Addr} {h₀ : Heap} {m : PySem.Str → Option Value} {mine : Led} {s : Shared} {value slice : Expr} {Q E : Value → Shared → Prop}
    (Si : Sit w G A L base h₀) (hd : A.depth + 10 < recursionLimit) (hu : A.units + 81 < cLine) (F : Fr h₀ L s.heap m) (N : News h₀ L s.heap (mine ++ S.led Rn)) (O : Off mine (S.led Rn))
    (kk : ∀ y S' T' h' tk', Fr h₀ L h' m → News h₀ L h' (mine ++ S'.led Rn) → Off mine (S'.led Rn) → Stepped w Rn S S' T T' dom fz (p ++ [k]) y → Q (.ref y) { s with heap := h', toks := tk' })
    (hs : subscripted slice false (.ref x) (.str k tk) = operate [.ref x, .str k tk] (getItem (.ref x) (.str k tk)) := by with_unfolding_all rfl) (ht : ∀ r, letTemporaryGo value (.ref x) r = pure () := by intro _; with_unfolding_all rfl) :
    wpAny (model Challenge.rw_in0102_01.row.prog w) A (subscriptTail value slice (.ref x) (.str k tk)) Q E s := by
  have hxN := H.node p x hp
  obtain ⟨dx, ep, f, hx, hxd⟩ := NodeAt.has hxN
  have mx : (x, fdd dx (ents w (T.ks p)).toArray ep (.ref f)) ∈ mine ++ S.led Rn := List.mem_append_right _ (.tail _ (.tail _ (.tail _ hx)))
  exact fdd_tail (Si.X.keeps F.keep) (N _ mx).1 rfl (step_item hS hsz H hp hfp hfk hL Si hd hu F N O kk) hs ht
end Mine
end

section
open PySem PySem.W PyProof.Rows PySem.Calls Builtin
set_option maxRecDepth 100000
set_option maxHeartbeats 1000000
namespace Mine
noncomputable def pathOf (u : PySem.Str) : Path := u.cps.toList.map fun c => (⟨#[c]⟩ : PySem.Str)
noncomputable def insPre (d : List Path) (u : PySem.Str) : Nat → List Path
  | 0 => d
  | i + 1 => ins (insPre d u i) ((pathOf u).take (i + 1))
noncomputable def insWord (d : List Path) (u : PySem.Str) : List Path := ins (insPre d u u.cps.size) (pathOf u ++ [eS])
noncomputable def domOf (us : List PySem.Str) : List Path := us.foldl insWord [[]]
noncomputable def IsWord (u : PySem.Str) : Prop := u.cps.size ≤ 4 ∧ ∀ c ∈ u.cps.toList, c = 97 ∨ c = 98
theorem ins_len (d : List Path) (q : Path) : (ins d q).length ≤ d.length + 1 := by unfold ins; split <;> simp
theorem insPre_len (d : List Path) (u : PySem.Str) : ∀ i, (insPre d u i).length ≤ d.length + i
  | 0 => Nat.le_refl _
  | i + 1 => by have := insPre_len d u i; have := ins_len (insPre d u i) ((pathOf u).take (i + 1)); simp only [insPre]; omega
theorem insWord_len {d : List Path} {u : PySem.Str} (h : IsWord u) : (insWord d u).length ≤ d.length + 5 := by
  have h1 := insPre_len d u u.cps.size; have h2 := ins_len (insPre d u u.cps.size) (pathOf u ++ [eS]); have h3 := h.1; unfold insWord; omega
theorem domOf_take (us : List PySem.Str) (i : Nat) (u : PySem.Str) (h : us[i]? = some u) : domOf (us.take (i + 1)) = insWord (domOf (us.take i)) u := by
  rw [List.take_add_one, h]; simp [domOf, List.foldl_append]
theorem domOf_len {us : List PySem.Str} (h : ∀ u ∈ us, IsWord u) : ∀ i, (domOf (us.take i)).length ≤ 1 + 5 * i
  | 0 => by simp [domOf]
  | i + 1 => by
    have ih := domOf_len h i
    cases hi : us[i]? with
    | none =>
      have : us.take (i + 1) = us.take i := by rw [List.take_add_one, hi]; simp
      rw [this]; omega
    | some u =>
      have hu : u ∈ us := List.mem_of_getElem? hi
      rw [domOf_take us i u hi]
      have := insWord_len (d := domOf (us.take i)) (h u hu); omega
theorem pathOf_take (u : PySem.Str) (i : Nat) (c : Nat) (h : u.cps[i]? = some c) : (pathOf u).take (i + 1) = (pathOf u).take i ++ [⟨#[c]⟩] := by
  have : (pathOf u)[i]? = some ⟨#[c]⟩ := by
    unfold pathOf
    rw [List.getElem?_map, Array.getElem?_toList, h]; rfl
  rw [List.take_add_one, this]; rfl
theorem pathOf_len (u : PySem.Str) : (pathOf u).length = u.cps.size := by simp [pathOf]
theorem letter_of {u : PySem.Str} {c i : Nat} (h : IsWord u) (hc : u.cps[i]? = some c) : Letter ⟨#[c]⟩ := by
  have : c ∈ u.cps.toList := by
    rw [← Array.getElem?_toList] at hc; exact List.mem_of_getElem? hc
  rcases h.2 c this with rfl | rfl
  · exact .inr (.inl rfl)
  · exact .inr (.inr rfl)
noncomputable def Tr.one (y : Addr) : Tr := ⟨fun p => if p = [] then some y else none, fun _ => []⟩
theorem Lay.root {w : World} {Rn : Addr} {S S' : St} {y : Addr} (h : NewT w.params Rn S S' y) : Lay w Rn S'.objs (Tr.one y) [[]] (fun _ => false) := by
  refine ⟨?_, ?_, ?_, ?_, ?_, ?_, ?_, ?_⟩
  · intro p x hp
    obtain ⟨dx, f, o, a, b, c, d, e, _⟩ := h.node
    have : p = [] ∧ y = x := by simp only [Tr.one] at hp; split at hp <;> simp_all
    obtain ⟨rfl, rfl⟩ := this
    exact ⟨dx, 0, f, o, a, b, c, d, e⟩
  · intro p x k hp; simp [Tr.one, kid]
  · intro p q x hp hq
    simp only [Tr.one] at hp hq
    split at hp <;> split at hq <;> simp_all
  · intro p k h; simp [Tr.one] at h
  · intro p; simp only [Tr.one]; split <;> simp_all
  · simp
  · intro p x _; exact List.nodup_nil
  · intro p x _ e he; cases he
theorem Dis.root {w : World} {Rn : Addr} {S S' : St} {y : Addr} {U : Tr} {domU : List Path} {fzU : Path → Bool} (h : NewT w.params Rn S S' y) (H : Lay w Rn S.objs U domU fzU) : Dis U (Tr.one y) := by
  intro p q x hp hq
  have : y = x := by simp only [Tr.one] at hq; split at hq <;> simp_all
  subst this
  obtain ⟨_, _, _, hz, _⟩ := NodeAt.has (H.node p y hp)
  exact h.new _ hz rfl
structure GrowJ (w : World) (Rn : Addr) (S S' : St) (y : Addr) (T : Tr) (dom : List Path) : Prop where
  ok : S'.Ok Rn
  rt : T.at_ [] = some y
  lay : Lay w Rn S'.objs T dom (fun _ => false)
  oth : ∀ U domU fzU, Lay w Rn S.objs U domU fzU → Lay w Rn S'.objs U domU fzU ∧ Dis U T
  its : S'.its.size = S.its.size + dom.length
theorem GrowJ.root {w : World} {Rn : Addr} {S S' : St} {y : Addr} (h : NewT w.params Rn S S' y) : GrowJ w Rn S S' y (Tr.one y) [[]] :=
  ⟨h.ok, rfl, Lay.root h, fun U d f H => ⟨H.mono h.old, Dis.root h H⟩, by rw [h.its]; rfl⟩
theorem GrowJ.step {w : World} {Rn : Addr} {S S1 S2 : St} {y z : Addr} {T T' : Tr} {dom : List Path} {q : Path} (g : GrowJ w Rn S S1 y T dom) (st : Stepped w Rn S1 S2 T T' dom (fun _ => false) q z) : GrowJ w Rn S S2 y T' (ins dom q) :=
  ⟨st.ok, st.old _ _ g.rt, st.lay, fun U d f H => let ⟨a, b⟩ := g.oth U d f H; st.oth U d f a b, by have := st.its; have := g.its; omega⟩
end Mine
end

section
open PySem PySem.W PyProof.Rows PySem.Calls Builtin
set_option maxRecDepth 100000
set_option maxHeartbeats 1000000
namespace Mine
/-- a change of one plain book (not a node) at `a` -/
theorem NodeX.stepd {w : World} {Rn : Addr} {S S' : St} {a z : Addr} {oa : Obj} {ks' : List (PySem.Str × Tok × Addr)} {b : Bool} {es : Array DictEntry} {n : Nat} (hS : S.Ok Rn) (ha : (a, oa) ∈ S.objs) (had : oa.data = .dict es n)
    (old : ∀ p ∈ S.objs, p.1 ≠ a → p ∈ S'.objs) (hz : z ≠ a) (hdz : z ≠ a + 1) (h : NodeX w Rn S.objs z ks' b) : NodeX w Rn S'.objs z ks' b := by
  have keepd : ∀ c o, (c, o) ∈ S.objs → (∀ es n, o.data ≠ .dict es n) → (c, o) ∈ S'.objs := by
    intro c o h hc
    refine old _ h ?_
    rintro rfl
    exact hc _ _ (by rw [← hS.fns _ _ _ ha h]; exact had)
  have lam : ∀ o, LamOk w.params S.objs Rn o → LamOk w.params S'.objs Rn o := by
    rintro o ⟨cR, c', pm, ctv, oc, e, a, b, ⟨oc2, vs, t, c, d, f⟩⟩
    exact ⟨cR, c', pm, ctv, oc, e, keepd _ _ a (fun es n h => by rw [b] at h; cases h), b, ⟨oc2, vs, t, keepd _ _ c (fun es n h => by rw [d] at h; cases h), d, f⟩⟩
  have flam : ∀ x o, FrzLam w.params S.objs x o → FrzLam w.params S'.objs x o := by
    rintro x o ⟨cR, c', pm, ctv, oc, e, a, b, ⟨oc2, vs, t, c, d, f⟩⟩
    exact ⟨cR, c', pm, ctv, oc, e, keepd _ _ a (fun es n h => by rw [b] at h; cases h), b, ⟨oc2, vs, t, keepd _ _ c (fun es n h => by rw [d] at h; cases h), d, f⟩⟩
  cases b with
  | false =>
    obtain ⟨dz, ez, fz, oz, a, b, c, d, e⟩ := h
    obtain ⟨fd, hfd⟩ := d.fn
    exact ⟨dz, ez, fz, oz, old _ a hz, old _ b (fun h => hdz (by rw [e, ← h])), keepd _ _ c (fun es n h => by rw [hfd] at h; cases h), lam _ d, e⟩
  | true =>
    obtain ⟨dz, ez, fz, oz, hs, tk, gX, og, a, b, c, d, e1, e2, e⟩ := h
    obtain ⟨fd, hfd⟩ := d.fn
    obtain ⟨cS9, c9, pm9, ctv9, oc9, e9, _⟩ := id e2
    exact ⟨dz, ez, fz, oz, hs, tk, gX, og, old _ a hz, old _ b (fun h => hdz (by rw [e, ← h])), keepd _ _ c (fun es n h => by rw [hfd] at h; cases h), lam _ d, keepd _ _ e1 (fun es n h => by rw [e9] at h; cases h), flam _ _ e2, e⟩
theorem node_ne_book {w : World} {Rn : Addr} {S : St} {a z : Addr} {ks' : List (PySem.Str × Tok × Addr)} {b : Bool} (hS : S.Ok Rn) (ha : (a, emptyDict) ∈ S.objs) (h : NodeX w Rn S.objs z ks' b) : z ≠ a := by
  rintro rfl
  obtain ⟨dz, ez, fz, hz, _⟩ := NodeAt.has h
  have := hS.fns _ _ _ ha hz
  cases this
theorem Lay.freeze {w : World} {Rn : Addr} {S S' : St} {T : Tr} {dom : List Path} {fz : Path → Bool} {p : Path} {x : Addr} (hS : S.Ok Rn) (H : Lay w Rn S.objs T dom fz) (hp : T.at_ p = some x) (hfp : fz p = false)
    (G : Frozen w Rn S S' x (T.ks p)) : Lay w Rn S'.objs T dom (fun q => if q = p then true else fz q) := by
  have hxN := H.node p x hp
  rw [hfp] at hxN
  obtain ⟨dx, ep, f, o, a, b, c, d, e⟩ := hxN
  refine ⟨fun q z hq => ?_, H.kd, H.inj, H.up, H.mem, H.nd, H.kn, H.kl⟩
  by_cases h : q = p
  · subst h
    rw [hp] at hq; cases hq
    simp only [if_true]
    exact G.nx
  · simp only [if_neg h]
    refine NodeX.stepd hS b rfl (fun r hr hne => G.old r hr fun h2 => hne ?_) (node_ne_book hS b (H.node q z hq)) ?_ (H.node q z hq)
    · rw [e] at h2; exact Nat.succ.inj h2
    · rintro rfl
      exact h (H.inj _ _ _ hq (by rw [← e]; exact hp))
theorem Lay.freezeo {w : World} {Rn : Addr} {S S' : St} {T U : Tr} {dom domU : List Path} {fz fzU : Path → Bool} {p : Path} {x : Addr} (hS : S.Ok Rn) (H : Lay w Rn S.objs T dom fz) (hp : T.at_ p = some x) (hfp : fz p = false)
    (G : Frozen w Rn S S' x (T.ks p)) (HU : Lay w Rn S.objs U domU fzU) (dis : Dis U T) : Lay w Rn S'.objs U domU fzU := by
  have hxN := H.node p x hp
  rw [hfp] at hxN
  obtain ⟨dx, ep, f, o, a, b, c, d, e⟩ := hxN
  refine ⟨fun q z hq => ?_, HU.kd, HU.inj, HU.up, HU.mem, HU.nd, HU.kn, HU.kl⟩
  refine NodeX.stepd hS b rfl (fun r hr hne => G.old r hr fun h2 => hne ?_) (node_ne_book hS b (HU.node q z hq)) ?_ (HU.node q z hq)
  · rw [e] at h2; exact Nat.succ.inj h2
  · rintro rfl
    exact dis q p _ hq (by rw [← e]; exact hp)
theorem Lay.fz_congr {w : World} {Rn : Addr} {l : Led} {T : Tr} {dom : List Path} {fz fz' : Path → Bool} (H : Lay w Rn l T dom fz) (e : ∀ q ∈ dom, fz q = fz' q) : Lay w Rn l T dom fz' :=
  ⟨fun q z hq => by rw [← e q ((H.mem q).mpr (by rw [hq]; rfl))]; exact H.node q z hq, H.kd, H.inj, H.up, H.mem, H.nd, H.kn, H.kl⟩
theorem Lay.up_app {w : World} {Rn : Addr} {l : Led} {T : Tr} {dom : List Path} {fz : Path → Bool} (H : Lay w Rn l T dom fz) (a : Path) : ∀ b : Path, (T.at_ (a ++ b)).isSome = true → (T.at_ a).isSome = true := by
  intro b
  generalize hr : b.reverse = r
  induction r generalizing b with
  | nil => intro h; obtain rfl : b = [] := List.reverse_eq_nil_iff.mp hr; rwa [List.append_nil] at h
  | cons k r ih =>
    intro h
    obtain rfl : b = r.reverse ++ [k] := by rw [← List.reverse_reverse b, hr, List.reverse_cons]
    rw [← List.append_assoc] at h
    exact ih r.reverse (List.reverse_reverse r) (H.up _ _ h)
noncomputable def cnt (dom : List Path) (p : Path) : Nat := dom.countP fun q => p.isPrefixOf q
noncomputable def sumN (l : List Nat) : Nat := l.foldr (· + ·) 0
theorem sumN_cons (a : Nat) (l : List Nat) : sumN (a :: l) = a + sumN l := rfl
theorem sumN_app (l : List Nat) (a : Nat) : sumN (l ++ [a]) = sumN l + a := by
  induction l with
  | nil => simp [sumN]
  | cons b l ih => rw [List.cons_append, sumN_cons, sumN_cons, ih]; omega
theorem sumN_map_add {α : Type} (l : List α) (f g : α → Nat) : sumN (l.map fun a => f a + g a) = sumN (l.map f) + sumN (l.map g) := by
  induction l with
  | nil => rfl
  | cons b l ih => simp only [List.map_cons, sumN_cons, ih]; omega
theorem sumN_zero {α : Type} (l : List α) (f : α → Nat) (h : ∀ a ∈ l, f a = 0) : sumN (l.map f) = 0 := by
  induction l with
  | nil => rfl
  | cons b l ih => simp only [List.map_cons, sumN_cons, h b (.head _), ih fun a ha => h a (.tail _ ha)]
theorem sumN_one {α : Type} [DecidableEq α] (l : List α) (k : α) (hn : l.Nodup) (hk : k ∈ l) : sumN (l.map fun a => if a = k then 1 else 0) = 1 := by
  induction l with
  | nil => cases hk
  | cons b l ih =>
    simp only [List.map_cons, sumN_cons]
    rw [List.nodup_cons] at hn
    by_cases e : b = k
    · subst e
      rw [if_pos rfl, sumN_zero l _ fun a ha => if_neg fun (e : a = b) => hn.1 (e ▸ ha)]
    · rw [if_neg e, ih hn.2 ((List.mem_cons.mp hk).resolve_left fun h => e h.symm)]
theorem kid_mem {l : List (PySem.Str × Tok × Addr)} {k : PySem.Str} (h : (kid l k).isSome = true) : k ∈ l.map (·.1) := by
  unfold kid at h
  rw [Option.isSome_map, List.find?_isSome] at h
  obtain ⟨e, he, h2⟩ := h
  exact List.mem_map.mpr ⟨e, he, by simpa using h2⟩
theorem pre_iff {a b : Path} : a.isPrefixOf b = true ↔ ∃ r, b = a ++ r := by
  rw [List.isPrefixOf_iff_prefix]
  exact ⟨fun ⟨r, h⟩ => ⟨r, h.symm⟩, fun ⟨r, h⟩ => ⟨r, h.symm⟩⟩
theorem pre_split {w : World} {Rn : Addr} {l : Led} {T : Tr} {dom : List Path} {fz : Path → Bool} {p : Path} {x : Addr} (H : Lay w Rn l T dom fz) (hp : T.at_ p = some x) (q : Path) (hq : q ∈ dom) :
    (if p.isPrefixOf q then 1 else 0) = (if q = p then 1 else 0) + sumN ((T.ks p).map fun e => if (p ++ [e.1]).isPrefixOf q then 1 else 0) := by
  have hsum : ∀ k r, q = p ++ k :: r → sumN ((T.ks p).map fun e => if (p ++ [e.1]).isPrefixOf q then 1 else 0) = 1 := by
    rintro k r rfl
    have hk : k ∈ (T.ks p).map (·.1) := by
      refine kid_mem ?_
      rw [H.kd p x k hp]
      refine H.up_app (p ++ [k]) r ?_
      rw [H.mem] at hq
      rwa [List.append_assoc, List.singleton_append]
    have h1 := sumN_one _ k (H.kn p x hp) hk
    rw [List.map_map] at h1
    refine Eq.trans (congrArg sumN (List.map_congr_left fun e _ => ?_)) h1
    show _ = if e.1 = k then 1 else 0
    have h0 : ((p ++ [e.1]).isPrefixOf (p ++ k :: r) = true) ↔ e.1 = k := by
      rw [pre_iff]
      constructor
      · rintro ⟨r', h⟩
        rw [List.append_assoc, List.append_cancel_left_eq, List.singleton_append] at h
        exact (List.cons.inj h).1.symm
      · rintro rfl; exact ⟨r, by rw [List.append_assoc]; rfl⟩
    simp only [h0]
  by_cases hpq : p.isPrefixOf q = true
  · obtain ⟨r, rfl⟩ := pre_iff.mp hpq
    rw [if_pos hpq]
    cases r with
    | nil =>
      rw [if_pos (List.append_nil p), sumN_zero]
      intro e _
      refine if_neg fun h => ?_
      obtain ⟨r', h⟩ := pre_iff.mp h
      have := congrArg List.length h; simp at this
    | cons k r =>
      rw [if_neg (fun h => by have := congrArg List.length h; simp at this), hsum k r rfl]
  · rw [if_neg hpq, if_neg (fun h => hpq (pre_iff.mpr ⟨[], by rw [h, List.append_nil]⟩)), sumN_zero]
    intro e _
    refine if_neg fun h => hpq ?_
    obtain ⟨r', rfl⟩ := pre_iff.mp h
    exact pre_iff.mpr ⟨e.1 :: r', by rw [List.append_assoc]; rfl⟩
theorem cnt_split {w : World} {Rn : Addr} {l : Led} {T : Tr} {dom : List Path} {fz : Path → Bool} {p : Path} {x : Addr} (H : Lay w Rn l T dom fz) (hp : T.at_ p = some x) :
    cnt dom p = 1 + sumN ((T.ks p).map fun e => cnt dom (p ++ [e.1])) := by
  have key : ∀ l : List Path, (∀ q ∈ l, q ∈ dom) → l.countP (fun q => p.isPrefixOf q) = l.countP (fun q => q == p) + sumN ((T.ks p).map fun e => l.countP fun q => (p ++ [e.1]).isPrefixOf q) := by
    intro l
    induction l with
    | nil => intro _; simp only [List.countP_nil]; rw [sumN_zero _ _ fun _ _ => rfl]
    | cons q l ih =>
      intro hl
      have h1 := ih fun a ha => hl a (.tail _ ha)
      have h2 := pre_split H hp q (hl q (.head _))
      simp only [List.countP_cons, sumN_map_add]
      have h3 : (if (q == p) = true then 1 else 0 : Nat) = if q = p then 1 else 0 := by simp
      rw [h1, h3]
      omega
  have h1 := key dom fun _ h => h
  have h2 : dom.countP (fun q => q == p) = 1 := by
    have hm : p ∈ dom := (H.mem p).mpr (by rw [hp]; rfl)
    have := List.nodup_iff_count.mp H.nd p
    have h4 : 0 < dom.count p := List.count_pos_iff.mpr hm
    rw [List.count] at this h4; omega
  rw [h2] at h1
  exact h1
end Mine
end

section
open PySem PySem.W PyProof.Rows PySem.Calls Builtin
set_option maxRecDepth 100000
set_option maxHeartbeats 1000000
namespace Mine
theorem kid_get : ∀ {l : List (PySem.Str × Tok × Addr)} {i : Nat} {e : PySem.Str × Tok × Addr}, (l.map (·.1)).Nodup → l[i]? = some e → kid l e.1 = some e.2.2
  | [], _, _, _, h => by simp at h
  | a :: l, 0, e, _, h => by
    simp only [List.getElem?_cons_zero, Option.some.injEq] at h
    subst h
    simp [kid]
  | a :: l, i + 1, e, hn, h => by
    rw [List.getElem?_cons_succ] at h
    rw [List.map_cons, List.nodup_cons] at hn
    have ih := kid_get hn.2 h
    have hne : ¬ (a.1 = e.1) := fun q => hn.1 (q ▸ List.mem_map_of_mem (List.mem_of_getElem? h))
    unfold kid at ih ⊢
    rw [List.find?_cons_of_neg (by simpa using hne)]
    exact ih
theorem sub_hit {w : World} {Rn : Addr} {S : St} {T : Tr} {dom : List Path} {fz : Path → Bool} {p : Path} {x y : Addr} {k : PySem.Str} {tk : Tok} (H : Lay w Rn S.objs T dom fz) (hp : T.at_ p = some x) (hk : T.at_ (p ++ [k]) = some y)
    {A : Around} {L : Addr} {h₀ : Heap} {m : PySem.Str → Option Value} {mine : Led} {s : Shared} {value slice : Expr} {Q E : Value → Shared → Prop}
    (X : (hd.heap_39 w.params).In h₀) (F : Fr h₀ L s.heap m) (N : News h₀ L s.heap (mine ++ S.led Rn))
    (kk : Q (.ref y) { s with toks := s.toks + 1 })
    (hs : subscripted slice false (.ref x) (.str k tk) = operate [.ref x, .str k tk] (getItem (.ref x) (.str k tk)) := by with_unfolding_all rfl) (ht : ∀ r, letTemporaryGo value (.ref x) r = pure () := by intro _; with_unfolding_all rfl) :
    wpAny (model Challenge.rw_in0102_01.row.prog w) A (subscriptTail value slice (.ref x) (.str k tk)) Q E s := by
  obtain ⟨dx, ep, f, hx, hxd⟩ := NodeAt.has (H.node p x hp)
  have mx : (x, fdd dx (ents w (T.ks p)).toArray ep (.ref f)) ∈ mine ++ S.led Rn := List.mem_append_right _ (.tail _ (.tail _ (.tail _ hx)))
  obtain ⟨hh, g, d, t, os⟩ := s
  exact fdd_tail (X.keeps F.keep) (N _ mx).1 rfl (getItem_hit (X.keeps F.keep) (N _ mx).1 ((H.kd p x k hp).trans hk) kk) hs ht
theorem off_turn {I C D : Addr} {oI oC oD : Obj} {mine l : Led} (O3 : LCg.Off3 I C D (mine ++ l)) (O : Off mine l) : Off ((I, oI) :: (C, oC) :: (D, oD) :: mine) l := by
  have o := O3.mem
  intro p hp q hq
  have := o q (List.mem_append_right _ hq)
  rcases List.mem_cons.mp hp with rfl | hp
  · exact this.1.symm
  rcases List.mem_cons.mp hp with rfl | hp
  · exact this.2.1.symm
  rcases List.mem_cons.mp hp with rfl | hp
  · exact this.2.2.symm
  exact O p hp q hq
theorem off3_back {I C D : Addr} {oI oC oD : Obj} {mine l l' : Led} (O3 : LCg.Off3 I C D (mine ++ l)) (O : Off ((I, oI) :: (C, oC) :: (D, oD) :: mine) l') : LCg.Off3 I C D (mine ++ l') := by
  have o := O3.mem
  refine LCg.Off3.of fun p hp => ?_
  rcases List.mem_append.mp hp with hp | hp
  · exact o p (List.mem_append_left _ hp)
  · exact ⟨(O _ (.head _) p hp).symm, (O _ (.tail _ (.head _)) p hp).symm, (O _ (.tail _ (.tail _ (.head _))) p hp).symm⟩
theorem off_tail3 {a b c : Addr × Obj} {mine l : Led} (O : Off (a :: b :: c :: mine) l) : Off mine l := fun p hp => O p (.tail _ (.tail _ (.tail _ hp)))
theorem off_cell {L : Addr} {o : Obj} {mine l : Led} (O : Off mine l) (h : ∀ p ∈ mine ++ l, @LT.lt Nat _ p.1 L) : Off ((L + 1, o) :: mine) l := by
  intro p hp q hq
  rcases List.mem_cons.mp hp with rfl | hp
  · exact Nat.ne_of_gt (Nat.lt_succ_of_lt (h q (List.mem_append_right _ hq)))
  · exact O p hp q hq
theorem off1_mem {D : Addr} {l : Led} (h : LCg.Off1 D l) : ∀ p ∈ l, p.1 ≠ D := by
  induction l with
  | nil => intro p hp; cases hp
  | cons a l ih =>
    intro p hp
    rcases List.mem_cons.mp hp with e | hp
    · rw [e]; exact h.1
    · exact ih h.2 p hp
theorem off_one {D : Addr} {oD : Obj} {mine l : Led} (O1 : LCg.Off1 D (mine ++ l)) (O : Off mine l) : Off ((D, oD) :: mine) l := by
  intro p hp q hq
  rcases List.mem_cons.mp hp with rfl | hp
  · exact (off1_mem O1 q (List.mem_append_right _ hq)).symm
  · exact O p hp q hq
noncomputable abbrev cS : PySem.Str := ⟨#[99]⟩
theorem sub_c {w : World} {G : GG} {base : Heap} {Rn : Addr} {S : St} {T : Tr} {dom : List Path} {fz : Path → Bool} {p : Path} {x : Addr} {c : PySem.Str} {tk : Tok} (hc : c = cS) (hS : S.Ok Rn) (hsz : S.its.size < 100000) (H : Lay w Rn S.objs T dom fz) (hp : T.at_ p = some x) (hfp : fz p = true)
    {A : Around} {L : Addr} {h₀ : Heap} {m : PySem.Str → Option Value} {mine : Led} {s : Shared} {value slice : Expr} {Q E : Value → Shared → Prop}
    (Si : Sit w G A L base h₀) (hd : A.depth + 20 < recursionLimit) (hu : A.units + 161 < cLine) (F : Fr h₀ L s.heap m) (N : News h₀ L s.heap (mine ++ S.led Rn)) (O : Off mine (S.led Rn))
    (kk : ∀ y S' h' tk', Fr h₀ L h' m → News h₀ L h' (mine ++ S'.led Rn) → Off mine (S'.led Rn) → NewT w.params Rn S S' y → Q (.ref y) { s with heap := h', toks := tk' })
    (hs : subscripted slice false (.ref x) (.str c tk) = operate [.ref x, .str cS tk] (getItem (.ref x) (.str c tk)) := by with_unfolding_all rfl) (ht : ∀ r, letTemporaryGo value (.ref x) r = pure () := by intro _; with_unfolding_all rfl) :
    wpAny (model Challenge.rw_in0102_01.row.prog w) A (subscriptTail value slice (.ref x) (.str c tk)) Q E s := by
  subst hc
  have hxN := H.node p x hp
  obtain ⟨dx, ep, f, hx, hxd⟩ := NodeAt.has hxN
  rw [hfp] at hxN
  have mx : (x, fdd dx (ents w (T.ks p)).toArray ep (.ref f)) ∈ mine ++ S.led Rn := List.mem_append_right _ (.tail _ (.tail _ (.tail _ hx)))
  have hsys : (x == sysModules) = false := by
    have := hS.big _ hx
    dsimp only at this
    rw [beq_eq_false_iff_ne]
    exact fun e => by rw [e] at this; exact absurd this (by decide)
  have hkn : kid (T.ks p) cS = none := by
    cases h : kid (T.ks p) cS with
    | none => rfl
    | some y =>
      have hm := kid_mem (l := T.ks p) (k := cS) (by rw [h]; rfl)
      obtain ⟨e, he, h2⟩ := List.mem_map.mp hm
      have := H.kl p x hp e he
      rw [h2] at this
      rcases this with h | h | h <;> exact absurd h (by decide)
  obtain ⟨hh, g, d, t, os⟩ := s
  refine fdd_tail (Si.X.keeps F.keep) (N _ mx).1 rfl (getItem_miss (Si.X.keeps F.keep) (N _ mx).1 hsys hkn ?_) hs ht
  exact missfz_run (s := ⟨hh, g, d, t + 1, os⟩) hS hsz hxN _ L h₀ m mine _ Si.in hd (by dsimp only [Around.in1]; omega) F N O fun y S' h' tk' F' N' O' G => kk y S' h' tk' F' N' O' G
end Mine
end

section
open PySem PySem.W PyProof.Rows PySem.Calls Builtin
set_option maxRecDepth 100000
set_option maxHeartbeats 1000000
namespace Mine
section
variable {prog : Program} {w : World} {A : Around} {E : Value → Shared → Prop} {s : Shared} {env : Env} {h₀ : Heap} {x : Str} {body : List Stmt} {Q : Flow → Shared → Prop}
noncomputable def TurnEnd (h₀ : Heap) (L I : Addr) (oI : Obj) (J : (Str → Option Value) → Led → Prop) (s : Shared) (s₂ : Shared) : Prop :=
  ∃ h' tk' m' nx', s₂ = { s with heap := h', toks := tk' } ∧ Fr h₀ L h' m' ∧ News h₀ L h' ((I, oI) :: nx') ∧ (∀ p ∈ nx', p.1 ≠ I) ∧ J m' nx'
noncomputable def TurnPost (h₀ : Heap) (L I : Addr) (oI : Obj) (J : (Str → Option Value) → Led → Prop) (s : Shared) (Q : Flow → Shared → Prop) (f : Flow) (s₂ : Shared) : Prop :=
  match f with
  | .ret v => Q (.ret v) s₂
  | .brk => Q .next s₂
  | _ => TurnEnd h₀ L I oI J s s₂
theorem iter_list {l : Addr} {its : Array Value} {n : Nat} {m₀ : Str → Option Value} {news : Led} (J : Nat → (Str → Option Value) → Led → Prop)
    (hh : A.handled = none) (F : Fr h₀ env.locals s.heap m₀) (N : News h₀ env.locals s.heap news) (hl : (l, W.listOf its n) ∈ news) (hJ : ∀ i m nx, J i m nx → (l, W.listOf its n) ∈ nx) (hj : J 0 m₀ news)
    (turn : ∀ i v m₁ nx h tk I oI, its[i]? = some v → J i m₁ nx → (∀ p ∈ nx, p.1 ≠ I) → Fr h₀ env.locals h (fun y => if y = x then some v else m₁ y) → News h₀ env.locals h ((I, oI) :: nx) →
      wpAny (model prog w) A (execs body env) (TurnPost h₀ env.locals I oI (J (i + 1)) s Q) E { s with heap := h, toks := tk })
    (done : ∀ m₁ nx h tk, J its.size m₁ nx → Fr h₀ env.locals h m₁ → News h₀ env.locals h nx → Q .next { s with heap := h, toks := tk }) :
    wpAny (model prog w) A (pyIter (.ref l)) (fun it s₂ => LoopAtV prog w A h₀ env x body Q E it s₂) E s := by
  have hls : s.heap.IsList l its := News.isList N hl
  have hne : l ≠ s.heap.objs.size := Nat.ne_of_lt (Heap.lt_size (N _ hl).1)
  refine wpAny_pyIter_list hls ?_
  have Wk := Walks.list (prog := prog) (w := w) hh s.heap.objs.size l hne its
  refine ⟨_, _, _, its.size, _, _, m₀, news, J, rfl, Wk, ?_, ?_, ?_, ⟨⟨_, Heap.get?_push_size _ rfl, rfl, rfl⟩, hls.at fun o e => Heap.get?_push_of_some _ e⟩, F.push _, (fun p hp => ⟨Heap.get?_push_of_some _ (N p hp).1, (N p hp).2⟩), hj, ?_, ?_⟩
  · intro hm
    rcases List.mem_cons.mp hm with e | hm
    · exact absurd F.ns.lt (e ▸ Nat.lt_irrefl _)
    · exact (N _ hl).2.1 (List.mem_singleton.mp hm).symm
  · intro b hb
    rw [List.mem_singleton.mp hb]
    exact next_is_new F
  · intro p hp hI
    exact absurd (Heap.lt_size (N p hp).1) ((List.mem_singleton.mp hI) ▸ Nat.lt_irrefl _)
  · rintro i v m₁ news₁ s₁ own ⟨hh', tk', rfl⟩ hin hP hJ1 hoff hown hget hmem hst F₁ N₁
    obtain ⟨⟨oi, hoi, _⟩, _⟩ := hst
    have hI : (s.heap.objs.size, oi) ∈ own := hmem _ (.head _) (next_is_new F) oi hoi
    have N₂ : News h₀ env.locals hh' ((s.heap.objs.size, oi) :: news₁) := fun p hp => N₁ p ((List.mem_cons.mp hp).elim (fun h => h ▸ List.mem_append.mpr (.inl hI)) fun h => List.mem_append.mpr (.inr h))
    refine wpAny_mono (turn i v m₁ news₁ hh' tk' _ oi hP hJ1 (fun p hp e => hoff p hp (List.mem_singleton.mpr e)) F₁ N₂) (fun f s₂ p => ?_) fun _ _ e => e
    have hll := hJ _ _ _ hJ1
    have fin : TurnEnd h₀ env.locals s.heap.objs.size oi (J (i + 1)) s s₂ → LoopStepU h₀ env.locals [s.heap.objs.size] own (J (i + 1)) { s with heap := hh', toks := tk' } .next s₂ := by
      rintro ⟨h', tk, m', nx', e, F', N', ha, hm⟩
      refine ⟨rfl, h', tk, m', nx', e, F', fun p hp => ?_, fun p hp hq => ha p hp (List.mem_singleton.mp hq), hm⟩
      rcases List.mem_append.mp hp with hp | hp
      · have e1 := hget p hp
        rcases List.mem_cons.mp (hown p hp) with h1 | h1
        · have : p = (s.heap.objs.size, oi) := by
            have e2 := e1; rw [h1, hoi] at e2
            exact Prod.ext h1 (Option.some.inj e2).symm
          rw [this]; exact N' _ (.head _)
        · have h2 := List.mem_singleton.mp h1
          have : p = (l, W.listOf its n) := by
            have e2 := e1; rw [h2, (N₂ _ (.tail _ hll)).1] at e2
            exact Prod.ext h2 (Option.some.inj e2).symm
          rw [this]; exact N' _ (.tail _ (hJ _ _ _ hm))
      · exact N' p (.tail _ hp)
    cases f with
    | ret v => exact .ret p
    | brk => exact .brk p
    | next => exact .next (fin p)
    | cont => exact .cont (fin p)
  · rintro h' tk m' news' F' N' _ hJ
    exact done m' news' h' tk hJ F' N'
theorem iter_strG {xs : PySem.Str} {t : Tok} {m₀ : Str → Option Value} {news : Led} {o : Obj} {ty : String} (J : Nat → (Str → Option Value) → Led → Prop)
    (Wk : Walks prog w A s.heap.objs.size [s.heap.objs.size] [s.heap.objs.size] xs.cps.size (SignAt xs) (fun i h => h.IsStrIter s.heap.objs.size ty xs t i)) (hst0 : (s.heap.push o).IsStrIter s.heap.objs.size ty xs t 0)
    (F : Fr h₀ env.locals s.heap m₀) (N : News h₀ env.locals s.heap news) (hj : J 0 m₀ news)
    (turn : ∀ i c u m₁ nx h tk I oI, xs.cps[i]? = some c → J i m₁ nx → (∀ p ∈ nx, p.1 ≠ I) → Fr h₀ env.locals h (fun y => if y = x then some (.str ⟨#[c]⟩ u) else m₁ y) → News h₀ env.locals h ((I, oI) :: nx) →
      wpAny (model prog w) A (execs body env) (TurnPost h₀ env.locals I oI (J (i + 1)) s Q) E { s with heap := h, toks := tk })
    (done : ∀ m₁ nx h tk, J xs.cps.size m₁ nx → Fr h₀ env.locals h m₁ → News h₀ env.locals h nx → Q .next { s with heap := h, toks := tk }) :
    LoopAtV prog w A h₀ env x body Q E (.ref s.heap.objs.size) { s with heap := s.heap.push o } := by
  refine ⟨_, _, _, xs.cps.size, _, _, m₀, news, J, rfl, Wk, ?_, ?_, ?_, hst0, F.push _, (fun p hp => ⟨Heap.get?_push_of_some _ (N p hp).1, (N p hp).2⟩), hj, ?_, ?_⟩
  · intro hm
    exact absurd F.ns.lt ((List.mem_singleton.mp hm) ▸ Nat.lt_irrefl _)
  · intro b hb
    rw [List.mem_singleton.mp hb]
    exact next_is_new F
  · intro p hp hI
    exact absurd (Heap.lt_size (N p hp).1) ((List.mem_singleton.mp hI) ▸ Nat.lt_irrefl _)
  · rintro i v m₁ news₁ s₁ own ⟨hh', tk', rfl⟩ hin ⟨c, u, hc, rfl⟩ hJ1 hoff hown hget hmem hst F₁ N₁
    obtain ⟨oi, hoi, _⟩ := hst
    have hI : (s.heap.objs.size, oi) ∈ own := hmem _ (.head _) (next_is_new F) oi hoi
    have N₂ : News h₀ env.locals hh' ((s.heap.objs.size, oi) :: news₁) := fun p hp => N₁ p ((List.mem_cons.mp hp).elim (fun h => h ▸ List.mem_append.mpr (.inl hI)) fun h => List.mem_append.mpr (.inr h))
    refine wpAny_mono (turn i c u m₁ news₁ hh' tk' _ oi hc hJ1 (fun p hp e => hoff p hp (List.mem_singleton.mpr e)) F₁ N₂) (fun f s₂ p => ?_) fun _ _ e => e
    have fin : TurnEnd h₀ env.locals s.heap.objs.size oi (J (i + 1)) s s₂ → LoopStepU h₀ env.locals [s.heap.objs.size] own (J (i + 1)) { s with heap := hh', toks := tk' } .next s₂ := by
      rintro ⟨h', tk, m', nx', e, F', N', ha, hm⟩
      refine ⟨rfl, h', tk, m', nx', e, F', fun p hp => ?_, fun p hp hq => ha p hp (List.mem_singleton.mp hq), hm⟩
      rcases List.mem_append.mp hp with hp | hp
      · have e1 := hget p hp
        have h1 := List.mem_singleton.mp (hown p hp)
        have : p = (s.heap.objs.size, oi) := by
          have e2 := e1; rw [h1, hoi] at e2
          exact Prod.ext h1 (Option.some.inj e2).symm
        rw [this]; exact N' _ (.head _)
      · exact N' p (.tail _ hp)
    cases f with
    | ret v => exact .ret p
    | brk => exact .brk p
    | next => exact .next (fin p)
    | cont => exact .cont (fin p)
  · rintro h' tk m' news' F' N' _ hJ
    exact done m' news' h' tk hJ F' N'
theorem iter_str {xs : PySem.Str} {t : Tok} {m₀ : Str → Option Value} {news : Led} (J : Nat → (Str → Option Value) → Led → Prop)
    (hh : A.handled = none) (F : Fr h₀ env.locals s.heap m₀) (N : News h₀ env.locals s.heap news) (hj : J 0 m₀ news)
    (turn : ∀ i c u m₁ nx h tk I oI, xs.cps[i]? = some c → J i m₁ nx → (∀ p ∈ nx, p.1 ≠ I) → Fr h₀ env.locals h (fun y => if y = x then some (.str ⟨#[c]⟩ u) else m₁ y) → News h₀ env.locals h ((I, oI) :: nx) →
      wpAny (model prog w) A (execs body env) (TurnPost h₀ env.locals I oI (J (i + 1)) s Q) E { s with heap := h, toks := tk })
    (done : ∀ m₁ nx h tk, J xs.cps.size m₁ nx → Fr h₀ env.locals h m₁ → News h₀ env.locals h nx → Q .next { s with heap := h, toks := tk }) :
    wpAny (model prog w) A (pyIter (.str xs t)) (fun it s₂ => LoopAtV prog w A h₀ env x body Q E it s₂) E s := by
  cases ha : xs.cps.all (· < 128)
  · exact wpAny_pyIter_wide ha (iter_strG J (Walks.strWide hh _ xs t) ⟨_, Heap.get?_push_size _ rfl, rfl, rfl⟩ F N hj turn done)
  · exact wpAny_pyIter_ascii ha (iter_strG J (Walks.strAscii hh _ xs t) ⟨_, Heap.get?_push_size _ rfl, rfl, rfl⟩ F N hj turn done)
end
end Mine
end

section
open PySem PySem.W PyProof.Rows PySem.Calls Builtin
set_option maxRecDepth 100000
set_option maxHeartbeats 400000
namespace Mine
section
variable {prog : Program} {w : World} {P : Params} {A : Around} {h : Heap} {g : Array GenState} {d : Drawn} {t : Nat} {os : OsState} {E : Value → Shared → Prop}
noncomputable abbrev keyIter (x : Addr) (i n ep : Nat) : Obj := { cls := .type "dict_keyiterator", data := .fields #[.ref x, .int i 0, .int n 0, .int ep 0] }
theorem lk_it (X : (hd.heap_39 P).In h) : Looks (model prog w) h (typeLookup (.ref 58) "__iter__") (some (.builtin "dict.__iter__")) := looks_findIn X (by kernel_rfl)
theorem lk_bindit (X : (hd.heap_39 P).In h) (v : Value) : Looks (model prog w) h (bindSpecial (.builtin "dict.__iter__") v) (.builtin "dict.__iter__", [v]) := Looks.of_peek X (by kernel_rfl)
theorem args_dit (a : Value) : argsOk "dict.__iter__" ⟨[a], []⟩ := by unfold argsOk; kernel_rfl
theorem fdd_iter (X : (hd.heap_39 P).In h) {l : List (Str × Tok × Addr)} {x dx : Addr} {ep : Nat} {f : Value} {Q : Value → Shared → Prop} (hx : h.get? x = some (fdd dx (ents w l).toArray ep f)) (hx1 : (x == sysModules) = false)
    (hQ : Q (.ref h.objs.size) ⟨h.push (keyIter x 0 l.length ep), g, d, t, os⟩) : wpAny (model prog w) A (pyIter (.ref x)) Q E ⟨h, g, d, t, os⟩ := by
  have L0 := ty58 (prog := prog) (w := w) hx rfl
  have L1 := lk_it (prog := prog) (w := w) X
  have L2 := lk_bindit (prog := prog) (w := w) X (.ref x)
  have L3 := lk_subdict (prog := prog) (w := w) X
  have L4 : Looks (model prog w) h (isInstance (.ref x) (.type "dict")) true := L0.andThen (f := fun t => isSubtype t (.type "dict")) L3
  have L5 := lk_noOD (prog := prog) (w := w) X
  have hC := X 58 _ rfl
  have fin : codeAny (model prog w) A (.call (.builtin "dict.__iter__") ⟨[.ref x], []⟩) (fun r s' => r = .ok (.ret (.ref h.objs.size)) ∧ s' = ⟨h.push (keyIter x 0 l.length ep), g, d, t, os⟩) ⟨h, g, d, t, os⟩ := by
    refine codeAny_call_builtin_at (Code.quiet_builtin _ (by decide +kernel)) F.entry_dict_iter (@check_slot (model prog w) _ _ _ "dict.__iter__" "dict" "__iter__" (.ref x) _ [] _ (by decide +kernel) (by decide +kernel) L4 (args_dit _) ?_)
    unfold Builtin.«dict.__iter__» Builtin.Dict.dictSlotNone Builtin.Dict.showsAll
    repeat (first | simp only [hx1, Bool.false_eq_true, if_false] | with_reducible refine wpAny_attempt ?_ | with_reducible refine wpAny_call ?_ | with_reducible refine wpAny_dictEntries hx rfl ?_ | with_reducible refine wpAny_dictEpoch hx rfl ?_ | lk)
    have e : (ents w l).toArray.size = l.length := by simp [ents]
    refine ⟨trivial, ?_⟩
    rw [e]; rfl
  have hK : (h.push (keyIter x 0 l.length ep)).get? h.objs.size = some (keyIter x 0 l.length ep) := Heap.get?_push_size _ rfl
  unfold pyIter
  repeat (first | with_reducible refine wpAny_attempt ?_ | with_reducible refine wpAny_call ?_ | lk)
  split
  all_goals
    (try refine wpAny_tryCatch ?_)
    repeat (first | with_reducible refine wpAny_attempt ?_ | lk)
    refine nd_call (codeAny_mono fin fun r s' e => ?_)
    obtain ⟨rfl, rfl⟩ := e
    refine nd_pure ?_
    repeat (first | exact hQ | lk)
theorem ty_key {I : Addr} {o : Obj} (hI : h.get? I = some o) (hc : o.cls = .type "dict_keyiterator") : Looks (model prog w) h (typeOf (.ref I)) (.type "dict_keyiterator") := by
  have := (Looks.ld (M := model prog w) (part := some headPart) hI).andThen (f := fun o => pure o.cls) (Looks.now (a := o.cls))
  rw [hc] at this
  exact this
theorem key_item {l : List (Str × Tok × Addr)} {I x : Addr} {o : Obj} {ep i : Nat} {e : Str × Tok × Addr} {Q : Option Value → Shared → Prop} (hI : h.get? I = some (keyIter x i l.length ep)) (hx : h.get? x = some o) (ho : o.data = .dict (ents w l).toArray ep) (hi : l[i]? = some e)
    (hQ : ∀ h', Heap.SameBut I h h' → h'.get? I = some (keyIter x (i + 1) l.length ep) → Q (some (.str e.1 e.2.1)) ⟨h', g, d, t, os⟩) : wpAny (model prog w) A (pyNext (.ref I)) Q E ⟨h, g, d, t, os⟩ := by
  have hT : Shared.TypeIs ⟨h, g, d, t, os⟩ (.ref I) "dict_keyiterator" := ⟨_, hI, rfl⟩
  have L0 := ty_key (prog := prog) (w := w) hI rfl
  have e1 : (ents w l).toArray.size = l.length := by simp [ents]
  have e2 : (ents w l).toArray[i]? = some ⟨hashStr w e.1, .str e.1 e.2.1, .ref e.2.2⟩ := by simp [ents, hi]
  unfold pyNext
  refine wpAny_bind (wpAny_attempt (wpAny_callSpecial?_slot (name := Str.ofString "__next__") hT F.slot_dict_keyiterator_next (wpAny_call_entry F.slot_dict_keyiterator_next hT F.entry_dict_keyiterator_next ?_ (F.args_dict_keyiterator_next_1 _))))
  unfold Builtin.«dict_keyiterator.__next__»
  have e3 : ¬ ((i : Int) < 0) := by omega
  repeat (first | simp only [e1, bne_self_eq_false, e3, Int.toNat_natCast, e2, Bool.false_eq_true, if_false] | with_reducible refine wpAny_isOneOf_keyiter hT ?_ | with_reducible refine wpAny_attempt ?_ | with_reducible refine wpAny_dictEntries hx ho ?_ | with_reducible refine wpAny_dictEpoch hx ho ?_ | lk)
  refine nd_update' hI rfl fun h' hs hI' => ?_
  replace hI' : h'.get? I = some (keyIter x (i + 1) l.length ep) := by rw [hI']; kernel_rfl
  have z := hQ h' hs hI'
  have hT' : Shared.TypeIs ⟨h', g, d, t, os⟩ (.ref I) "dict_keyiterator" := ⟨_, hI', rfl⟩
  have L0' := ty_key (prog := prog) (w := w) hI' rfl
  repeat (first | with_reducible refine wpAny_isOneOf_keyiter hT' ?_ | lk)
  exact ⟨_, rfl, wpAny_pure z⟩
theorem key_end (hh : A.handled = none) {l : List (Str × Tok × Addr)} {I x : Addr} {o : Obj} {ep : Nat} {Q : Option Value → Shared → Prop} (hI : h.get? I = some (keyIter x l.length l.length ep)) (hx : h.get? x = some o) (ho : o.data = .dict (ents w l).toArray ep)
    (hQ : ∀ h' t', Heap.ExtBut I h h' → Q none ⟨h', g, d, t', os⟩) : wpAny (model prog w) A (pyNext (.ref I)) Q E ⟨h, g, d, t, os⟩ := by
  have hT : Shared.TypeIs ⟨h, g, d, t, os⟩ (.ref I) "dict_keyiterator" := ⟨_, hI, rfl⟩
  have L0 := ty_key (prog := prog) (w := w) hI rfl
  have e1 : (ents w l).toArray.size = l.length := by simp [ents]
  have e2 : (ents w l).toArray[l.length]? = none := by simp [ents]
  unfold pyNext
  refine wpAny_bind (wpAny_attempt (wpAny_callSpecial?_slot (name := Str.ofString "__next__") hT F.slot_dict_keyiterator_next (wpAny_call_entry F.slot_dict_keyiterator_next hT F.entry_dict_keyiterator_next ?_ (F.args_dict_keyiterator_next_1 _))))
  unfold Builtin.«dict_keyiterator.__next__»
  have e3 : ¬ ((l.length : Int) < 0) := by omega
  repeat (first | simp only [e1, bne_self_eq_false, e3, Int.toNat_natCast, e2, Bool.false_eq_true, if_false] | with_reducible refine wpAny_isOneOf_keyiter hT ?_ | with_reducible refine wpAny_attempt ?_ | with_reducible refine wpAny_dictEntries hx ho ?_ | with_reducible refine wpAny_dictEpoch hx ho ?_ | lk)
  refine nd_update' hI rfl fun h' hs hI' => ?_
  repeat (first | lk)
  refine wpAny_handled ?_
  rw [show A.in1.handled = none from hh]
  repeat (first | lk)
  refine wpAny_throw ?_
  refine wpAny_bind (wpAny_isInstance (T := "StopIteration") (b := true) ⟨_, Heap.get?_push_size _ rfl, rfl⟩ isSubtype_stop ?_)
  exact wpAny_pure (hQ _ _ ((hs.extBut.push _).push _))
theorem Walks.fddKeys (hh : A.handled = none) (I x : Addr) (hne : x ≠ I) (l : List (Str × Tok × Addr)) (ep : Nat) :
    Walks prog w A I [I, x] [I] l.length (fun i v => ∃ e, l[i]? = some e ∧ v = .str e.1 e.2.1) (fun i h => h.get? I = some (keyIter x i l.length ep) ∧ ∃ o, h.get? x = some o ∧ o.data = .dict (ents w l).toArray ep) where
  sub := fun b hb => by simp at hb; simp [hb]
  frame := fun _ _ _ st hk => ⟨hk I (by simp) _ st.1, let ⟨o, a, b⟩ := st.2; ⟨o, hk x (by simp) _ a, b⟩⟩
  item := fun i s Q E hi st hQ => by
    obtain ⟨h, g, d, t, os⟩ := s
    obtain ⟨a, o, b, c⟩ := st
    exact key_item a b c (List.getElem?_eq_getElem hi) fun h' hs' hI' => hQ _ h' t ⟨_, List.getElem?_eq_getElem hi, rfl⟩ ⟨hI', o, (hs'.2 x hne).trans b, c⟩ fun b o hb e => hs'.extBut b o (fun h => hb (by simp [h])) e
  done := fun s Q E st hQ => by
    obtain ⟨h, g, d, t, os⟩ := s
    obtain ⟨a, o, b, c⟩ := st
    exact key_end hh a b c fun h' t' he' => hQ h' t' fun b o hb e => he' b o (fun h => hb (by simp [h])) e
  self := fun i s Q E st hQ => wpAny_pyIter_keyiter (i := i) ⟨_, st.1, rfl, rfl⟩ hQ
end
end Mine
end

section
open PySem PySem.W PyProof.Rows PySem.Calls Builtin LCg
set_option maxRecDepth 100000
set_option maxHeartbeats 400000
namespace Mine
section
variable {prog : Program} {w : World} {A : Around} {E : Value → Shared → Prop} {s : Shared} {h₀ : Heap} {L : Addr} {m : Str → Option Value} {env : Env}
noncomputable def FSrc (prog : Program) (w : World) (A : Around) (h₀ : Heap) (L : Addr) (m : Str → Option Value) (env : Env) (elt : Expr) (x : Str) (scope : Scope) (cl : List (Str × Addr)) (Fin : Shared → List Value → List (Addr × Obj) → Prop) (xv : Value) (s₁ : Shared) : Prop :=
  ∃ (P : Params) (ax dx : Addr) (l : List (Str × Tok × Addr)) (ep : Nat) (f : Value) (news : List (Addr × Obj)), xv = .ref ax ∧ A.handled = none ∧ (ax == sysModules) = false ∧ (hd.heap_39 P).In h₀ ∧ Fr h₀ L s₁.heap m ∧ News h₀ L s₁.heap news ∧ (ax, fdd dx (ents w l).toArray ep f) ∈ news ∧ l.length ≤ sizeLine ∧
    ∀ s₂ : Shared, (∃ h, s₂ = { s₁ with heap := h }) → CompRest prog w A h₀ L m env elt x scope cl s₂ (fun nx => (ax, fdd dx (ents w l).toArray ep f) ∈ nx) (fun i v => ∃ e, l[i]? = some e ∧ v = .str e.1 e.2.1) (Fin s₂) l.length 0 [] news
theorem keys_st {ax I dx : Addr} {l : List (Str × Tok × Addr)} {ep n : Nat} {f : Value} : ∀ i (h h' : Heap) (o : Obj) (nw : List (Addr × Obj)), (h.get? I = some (keyIter ax i n ep) ∧ ∃ o, h.get? ax = some o ∧ o.data = .dict (ents w l).toArray ep) → h.get? I = some o → h'.get? I = some o →
    (∀ b o, h₀.get? b = some o → h'.get? b = some o) → News h₀ L h' nw → (ax, fdd dx (ents w l).toArray ep f) ∈ nw → (h'.get? I = some (keyIter ax i n ep) ∧ ∃ o, h'.get? ax = some o ∧ o.data = .dict (ents w l).toArray ep) :=
  fun i h h' o nw st e e' k N S => ⟨e'.trans (e.symm.trans st.1), _, (N _ S).1, rfl⟩
theorem fdd_ListComp {elt iter : Expr} {x : Str} {px : Pos} {scope : Scope} {cl : List (Str × Addr)} {pos : Pos} {Q : Value → Shared → Prop} (_F₀ : Fr h₀ L s.heap m)
    (hclos : closureFor scope env = pure cl) (hcell : ∀ y ∈ scope.names, y.2 ≠ .cell) (hkind : scope.kind = .function)
    (hnames : ∀ y ∈ scope.names, y.2 = .local → scope.names.lookup y.1 = some .local) (hx : scope.names.lookup x = some .local)
    (h : wpAny (model prog w) A (eval iter env) (FSrc prog w A h₀ L m env elt x scope cl (fun s₂ => FinE h₀ L m s₂ Q)) E s)
    (hs : ∀ x, foldedSetIterable iter env x = pure x := by intro _; rfl) :
    wpAny (model prog w) A (eval (.ListComp elt [⟨.Name x px, iter, [], 0⟩] scope pos) env) Q E s := by
  rw [eval_ListComp]
  refine wpAny_comprehension_free (use := none) rfl hs hclos hkind hnames (wpAny_mono h (fun xv s₁ h₁ => ?_) fun _ _ e => e)
  obtain ⟨P, ax, dx, l, ep, f, news, rfl, hh, hsys, X, F, N, S, hsz, R⟩ := h₁
  have hax := (N _ S).1
  have hlt : ax < s₁.heap.objs.size := Heap.lt_size hax
  obtain ⟨hp, g, d, t, os⟩ := s₁
  refine fdd_iter (X.keeps F.keep) hax hsys ?_
  have up : ∀ b o, hp.get? b = some o → (hp.push (keyIter ax 0 l.length ep)).get? b = some o := fun b o e => Heap.get?_push_of_some _ e
  refine block_U (Walks.fddKeys hh hp.objs.size ax (Nat.ne_of_lt hlt) l ep) hsz (fun i h st => ⟨_, st.1⟩) keys_st hcell hkind hx ⟨Heap.get?_push_size _ rfl, _, up _ _ hax, rfl⟩ (fun b hb => ?_)
    (F.keeps up) (N.grown up) (Nat.ne_of_lt F.ns.lt) (next_is_new F) (fun p hp => Nat.ne_of_lt (Heap.lt_size (N p hp).1)) S (R _ ⟨_, rfl⟩) ?_
  · show b < (hp.push _).objs.size
    rw [Heap.size_push]
    rcases List.mem_cons.mp hb with rfl | hb
    · exact Nat.lt_succ_self _
    · rw [List.mem_singleton.mp hb]; exact Nat.lt_succ_of_lt hlt
  · intro D C h tk m' ys news' F' N' o1 hn hC₀ hD₀ hCL hDL hCD offC fin
    refine ⟨m', hn, fun h'' hs'' => fin D h'' tk (F'.change hs'' hCL hC₀) (fun p hp => ?_) o1⟩
    refine ⟨hs''.extBut _ _ ?_ (N' p hp).1, (N' p hp).2⟩
    rcases List.mem_cons.mp hp with rfl | hp
    · exact Ne.symm hCD
    · exact offC p hp
theorem fdd_Assign_ListComp {elt iter : Expr} {x y : Str} {px py : Pos} {scope : Scope} {cl : List (Str × Addr)} {pos spos : Pos} {Q : Flow → Shared → Prop} (_F₀ : Fr h₀ L s.heap m) (hLe : env.locals = L)
    (hsw : swapsWith (.ListComp elt [⟨.Name x px, iter, [], 0⟩] scope pos) (some (.Name y py)) spos.line env = pure true)
    (hclos : closureFor scope env = pure cl) (hcell : ∀ z ∈ scope.names, z.2 ≠ .cell) (hkind : scope.kind = .function)
    (hnames : ∀ z ∈ scope.names, z.2 = .local → scope.names.lookup z.1 = some .local) (hx : scope.names.lookup x = some .local)
    (hy : env.kindOf y = some .local) (hp : (env.scope.kind == .class || (env.scope.kind == .module && env.locals != env.globals)) = false)
    (h : wpAny (model prog w) A (eval iter env) (FSrc prog w A h₀ L m env elt x scope cl (fun s₂ => FinA h₀ L m s₂ y Q)) E s)
    (hs : ∀ x, foldedSetIterable iter env x = pure x := by intro _; rfl) :
    wpAny (model prog w) A (exec (.Assign [.Name y py] (.ListComp elt [⟨.Name x px, iter, [], 0⟩] scope pos) spos) env) Q E s := by
  subst hLe
  rw [exec_Assign_Name_used _ _ _ _ hsw]
  refine wpAny_bind (wpAny_standAt (wpAny_bind ?_))
  show wpAny _ A (do let _ ← comprehension (.ListComp elt [⟨.Name x px, iter, [], 0⟩] scope pos) scope env _ (newList []) false (eval iter env) (some (assign (.Name y py) env))) _ _ s
  refine wpAny_bind (wpAny_mono (wpAny_comprehension_free (use := some (assign (.Name y py) env)) (Q := fun _ s' => Q .next s') rfl hs hclos hkind hnames
    (wpAny_mono h (fun xv s₁ h₁ => ?_) fun _ _ e => e)) (fun _ s' hq => wpAny_pure (wpAny_pure hq)) fun _ _ e => e)
  obtain ⟨P, ax, dx, l, ep, f, news, rfl, hh, hsys, X, F, N, S, hsz, R⟩ := h₁
  have hax := (N _ S).1
  have hlt : ax < s₁.heap.objs.size := Heap.lt_size hax
  obtain ⟨hpp, g, d, t, os⟩ := s₁
  refine fdd_iter (X.keeps F.keep) hax hsys ?_
  have up : ∀ b o, hpp.get? b = some o → (hpp.push (keyIter ax 0 l.length ep)).get? b = some o := fun b o e => Heap.get?_push_of_some _ e
  refine block_U (Walks.fddKeys hh hpp.objs.size ax (Nat.ne_of_lt hlt) l ep) hsz (fun i h st => ⟨_, st.1⟩) keys_st hcell hkind hx ⟨Heap.get?_push_size _ rfl, _, up _ _ hax, rfl⟩ (fun b hb => ?_)
    (F.keeps up) (N.grown up) (Nat.ne_of_lt F.ns.lt) (next_is_new F) (fun p hp => Nat.ne_of_lt (Heap.lt_size (N p hp).1)) S (R _ ⟨_, rfl⟩) ?_
  · show b < (hpp.push _).objs.size
    rw [Heap.size_push]
    rcases List.mem_cons.mp hb with rfl | hb
    · exact Nat.lt_succ_self _
    · rw [List.mem_singleton.mp hb]; exact Nat.lt_succ_of_lt hlt
  · intro D C h' tk m' ys news' F' N' o1 hn hC₀ hD₀ hCL hDL hCD offC fin
    show wpAny _ A (assign (.Name y py) env (.ref D)) _ _ _
    refine wpAny_assign_Name (wpAny_storeName_local hy F'.ns (fun h₂ hn₂ hs₂ => ?_) hp)
    have hL₀ : h₀.get? env.locals = none := Heap.get?_none_of_le F'.above
    have F₂ : Fr h₀ env.locals h₂ (fun z => if z = y then some (.ref D) else m z) := ⟨hn₂, fun b o e => hs₂.extBut b o (fun q => by rw [q, hL₀] at e; cases e) (F'.keep b o e), F'.above⟩
    refine ⟨m', hn.sameBut hs₂ hCL, fun h'' hs'' => fin D h'' _ (F₂.change hs'' hCL hC₀) (fun p hp => ?_) o1⟩
    have z : h₂.get? p.1 = some p.2 := hs₂.extBut _ _ (N' p hp).2.1 (N' p hp).1
    refine ⟨hs''.extBut _ _ ?_ z, (N' p hp).2⟩
    rcases List.mem_cons.mp hp with rfl | hp
    · exact Ne.symm hCD
    · exact offC p hp
/-- turns by an invariant -/
theorem comp_inv {elt : Expr} {x : Str} {scope : Scope} {cl : List (Str × Addr)} {S : List (Addr × Obj) → Prop} {P : Nat → Value → Prop} {Fin : List Value → List (Addr × Obj) → Prop} {n : Nat} {news : List (Addr × Obj)} (J : Nat → List Value → List (Addr × Obj) → Prop)
    (hj : J 0 [] news)
    (turn : ∀ i ys nx v I oI C oC D m₂ h tk (E' : Value → Shared → Prop), i < n → J i ys nx → P i v → NsObj oC m₂ → m₂ x = some v → Fr h₀ L h m → News h₀ L h ((I, oI) :: (C, oC) :: (D, lst ys) :: nx) → Off3 I C D nx → ((@Ne Nat I C) ∧ (@Ne Nat I D) ∧ (@Ne Nat C D)) →
      wpAny (model prog w) A (eval elt (compEnvC scope cl C env)) (CompEnd h₀ L m { s with heap := h, toks := tk } I oI C oC D (lst ys) S (fun y nx' => J (i + 1) (ys ++ [y]) nx')) E' { s with heap := h, toks := tk })
    (fin : ∀ ys nx, J n ys nx → Fin ys nx) : CompRest prog w A h₀ L m env elt x scope cl s S P Fin n 0 [] news := by
  have key : ∀ k i ys nx, i + k = n → J i ys nx → CompRest prog w A h₀ L m env elt x scope cl s S P Fin k i ys nx := by
    intro k
    induction k with
    | zero => intro i ys nx e hJ; obtain rfl : i = n := e; exact fin ys nx hJ
    | succ k ih =>
      intro i ys nx e hJ
      refine CompRest.succ fun v I oI C oC D m₂ h tk E' hP hC hm F N O D3 => ?_
      refine wpAny_mono (turn i ys nx v I oI C oC D m₂ h tk E' (by omega) hJ hP hC hm F N O D3) (fun y s₂ h₂ => ?_) fun _ _ e => e
      obtain ⟨h', tk, nx', e1, F', N', O', S', r⟩ := h₂
      exact ⟨h', tk, nx', e1, F', N', O', S', ih (i + 1) _ _ (by omega) r⟩
  exact key n 0 [] news (by omega) hj
end
end Mine
end

section
open PySem PySem.W PyProof.Rows PySem.Calls Builtin
set_option maxRecDepth 100000
set_option maxHeartbeats 400000
namespace Mine
section
variable {prog : Program} {w : World} {P : Params} {A : Around} {h : Heap} {g : Array GenState} {d : Drawn} {t : Nat} {os : OsState} {E : Value → Shared → Prop}
theorem lk_fzm (X : (hd.heap_39 P).In h) : Looks (model prog w) h (typeLookup (.ref 58) "freeze") (some (.ref 55)) := looks_findIn X (by kernel_rfl)
theorem lk_tyfz (X : (hd.heap_39 P).In h) : Looks (model prog w) h (typeOf (.ref 55)) (.type "function") := Looks.of_peek X (by kernel_rfl)
theorem gm_freeze (X : (hd.heap_39 P).In h) {x dx : Addr} {es : Array DictEntry} {ep : Nat} {f : Value} {pl : Sem Bool} {Q : Value × List Value → Shared → Prop}
    (hx : h.get? x = some (fdd dx es ep f)) (hdx : h.get? dx = some emptyDict) (hQ : Q (.ref 55, [.ref x]) ⟨h, g, d, t, os⟩) :
    wpAny (model prog w) A (getMethod (.ref x) (Str.ofString "freeze") pl) Q E ⟨h, g, d, t, os⟩ := by
  have I := inst58 hx hdx
  have L0 : Looks (model prog w) h (typeOf (.ref x)) (.ref 58) := I.type
  have L1 := lk_ga (prog := prog) (w := w) X
  have L4 := lk_gat (prog := prog) (w := w) X
  have L5 := lk_fzm (prog := prog) (w := w) X
  have L6 := lk_tyfz (prog := prog) (w := w) X
  have hC := X 58 _ rfl
  unfold getMethod
  repeat (first | exact hQ | simp only [canon_ga, Bool.false_eq_true, if_false] | with_reducible refine wpAny_attempt ?_ | with_reducible refine wpAny_call ?_ | lk)
end
end Mine
end

section
open PySem PySem.W PyProof.Rows PySem.Calls Builtin LCg
set_option maxRecDepth 100000
set_option maxHeartbeats 1000000
set_option pp.deepTerms false
set_option pp.deepTerms.threshold 6
namespace Mine
local macro_rules | `(tactic| k_all) => `(tactic| assumption)
structure FroJ (w : World) (Rn : Addr) (S S' : St) (T : Tr) (dom : List Path) (fz : Path → Bool) (n : Nat) : Prop where
  ok : S'.Ok Rn
  lay : Lay w Rn S'.objs T dom fz
  oth : ∀ U domU fzU, Lay w Rn S.objs U domU fzU → Dis U T → Lay w Rn S'.objs U domU fzU
  its : S'.its.size = S.its.size + 2 * n
  c58 : ∀ a o, (a, o) ∈ S.objs → o.cls = .ref 58 → (a, o) ∈ S'.objs
theorem FroJ.next {w : World} {Rn : Addr} {S S1 S2 : St} {T : Tr} {dom : List Path} {fz f1 : Path → Bool} {n1 n2 : Nat} (a : FroJ w Rn S S1 T dom fz n1) (b : FroJ w Rn S1 S2 T dom f1 n2) : FroJ w Rn S S2 T dom f1 (n1 + n2) :=
  ⟨b.ok, b.lay, fun U dU fU h d => b.oth U dU fU (a.oth U dU fU h d) d, by have := a.its; have := b.its; omega, fun x o h c => b.c58 x o (a.c58 x o h c) c⟩
theorem sumN_take {l : List Nat} {i a : Nat} (h : l[i]? = some a) : sumN (l.take (i + 1)) = sumN (l.take i) + a := by
  rw [List.take_add_one, h, Option.toList_some, sumN_app]
theorem sumN_take_le (l : List Nat) (i : Nat) : sumN (l.take i) ≤ sumN l := by
  induction l generalizing i with
  | nil => simp
  | cons a l ih =>
    cases i with
    | zero => simp [sumN]
    | succ i => rw [List.take_succ_cons, sumN_cons, sumN_cons]; have := ih i; omega
theorem any_take {α : Type} {l : List α} {i : Nat} {a : α} (f : α → Bool) (h : l[i]? = some a) : (l.take (i + 1)).any f = ((l.take i).any f || f a) := by
  rw [List.take_add_one, h, Option.toList_some, List.any_append]; simp
noncomputable def Froz (w : World) (G : GG) (base : Heap) (Rn : Addr) (T : Tr) (dom : List Path) (k : Nat) : Prop :=
  ∀ (p : Path) (x : Addr) (S : St) (fz : Path → Bool), p.length + k = 6 → S.Ok Rn → Lay w Rn S.objs T dom fz → T.at_ p = some x → (∀ q ∈ dom, p.isPrefixOf q = true → fz q = false) → S.its.size + 2 * cnt dom p < 10000 →
  ∀ (A : Around) (L : Addr) (h₀ : Heap) (m : PySem.Str → Option Value) (mine : Led) (s : Shared) (R : Result → Shared → Prop),
    Sit w G A L base h₀ → A.depth + 30 * k + 30 < recursionLimit → A.units + 300 * k + 300 < cLine → Fr h₀ L s.heap m → News h₀ L s.heap (mine ++ S.led Rn) → Off mine (S.led Rn) →
    (∀ S' h' tk', Fr h₀ L h' m → News h₀ L h' (mine ++ S'.led Rn) → Off mine (S'.led Rn) → FroJ w Rn S S' T dom (fun q => fz q || p.isPrefixOf q) (cnt dom p) → R (.ok (.ret (.bool true))) { s with heap := h', toks := tk' }) →
    codeAny (model Challenge.rw_in0102_01.row.prog w) A (.call (.ref 95) ⟨[.ref x], []⟩) R s
noncomputable def FroTurn (w : World) (Rn : Addr) (S : St) (T : Tr) (dom : List Path) (fz : Path → Bool) (p : Path) (mine : Led) (i : Nat) (ys : List Value) (nx : Led) : Prop :=
  ∃ S1, nx = mine ++ S1.led Rn ∧ Off mine (S1.led Rn) ∧ ys = List.replicate i (.bool true) ∧
    FroJ w Rn S S1 T dom (fun q => fz q || ((T.ks p).take i).any fun e => (p ++ [e.1]).isPrefixOf q) (sumN (((T.ks p).take i).map fun e => cnt dom (p ++ [e.1])))
theorem frozen_step {w : World} {G : GG} {base : Heap} {Rn : Addr} {T₁ : Tr} {dom : List Path} {k : Nat} (hlen : ∀ q ∈ dom, q.length ≤ 5) (ih : Froz w G base Rn T₁ dom k) : Froz w G base Rn T₁ dom (k + 1) := by
  intro p x S fz hpk hS H hp hfz hsz A L h₀ m mine s R Si hd hu F N O kk
  obtain ⟨env, outer, A₀, B, hA, hf, hke⟩ := Si.fr
  have X := Si.X
  have T := Si.T
  have hh := Si.hh
  have C1 := Si.C1
  have C2 := Si.C2
  obtain ⟨hd9, dp, fr, gd, un⟩ := A
  dsimp only at hA hh hd hu
  subst hA hh
  revert X; k_fill; intro X
  k_dflt (refine' code_defC ?k1 ?k2 ?k3 ?k4 ?k5 ?kA ?kF ?kK ?k6 ?k7 ?k8 ?k9 ?kB ?kD ?_ ?c2 ?c3 ?c4; (case kA => exact rfl); (case kF => assumption); (case kK => assumption); (case k1 => k_asm); (case k2 => k_asm); (case k3 => k_asm); (case k4 => k_asm); (case k5 => k_asm); (case k6 => k_is); (case k7 => k_is); (case k8 => ((try dsimp only); exact limk0 hd)); (case k9 => first | exact BindsTo.of_eq rfl | exact binds_K (by k_in) rfl (by k_is) rfl rfl rfl | fail "k_enter: no rule for these arguments"); (case kB => exact rfl); (case kD => decide +kernel); (case c2 => exact rfl); (case c3 => exact rfl); (case c4 => exact rfl); k_whole; intro g' L' h' tk' cells' FG' F' N' Y' B' X' T' l1; (try k_lt l1); k_cells Y'; (try simp only [List.cons_append, List.nil_append] at N'); (try dsimp only); (try k_lift B'); (try k_fold))
  walk1
  refine fdd_Assign_ListComp F' rfl (by with_unfolding_all rfl) (by with_unfolding_all rfl) (by decide) (by rfl) (by decide) (by rfl) (by rfl) (by rfl) ?_
  k_steps
  rename_i o1 d1
  have d2 : o1.data = .cell (some (.ref x)) := d1
  have hxN := H.node p x hp
  rw [hfz p ((H.mem p).mpr (by rw [hp]; rfl)) (pre_iff.mpr ⟨[], by rw [List.append_nil]⟩)] at hxN
  obtain ⟨dx, ep, f, hx, hxd⟩ := NodeAt.has (b := false) hxN
  have hsys : (x == sysModules) = false := by
    have := hS.big _ hx
    dsimp only at this
    rw [beq_eq_false_iff_ne]
    exact fun e => by rw [e] at this; exact absurd this (by decide)
  have hl3 : (T₁.ks p).length ≤ 3 := by
    have h3 := letters3 (H.kn p x hp) (fun k hk => by obtain ⟨e, he, rfl⟩ := List.mem_map.mp hk; exact H.kl p x hp e he)
    rwa [List.length_map] at h3
  refine ⟨w.params, x, dx, T₁.ks p, ep, .ref f, _, rfl, rfl, hsys, X', F', N', .tail _ (List.mem_append_right _ (.tail _ (.tail _ (.tail _ hx)))), Nat.le_trans hl3 (by decide +kernel), ?_⟩
  rintro s₂ ⟨hq, rfl⟩
  refine comp_inv (FroTurn w Rn S T₁ dom fz p ((L' + 1, o1) :: mine)) ?_ ?_ ?_
  · refine ⟨S, rfl, off_cell O l1, rfl, hS, ?_, fun U dU fU h _ => h, rfl, fun _ _ h _ => h⟩
    simpa using H
  · rintro i ys nx v I oI C oC D m₂ h1 tk1 E' hi ⟨S1, rfl, O1, rfl, J1⟩ ⟨e, he, rfl⟩ hC hm F1 N1 O3 hne
    k_steps
    have hpe : T₁.at_ (p ++ [e.1]) = some e.2.2 := (H.kd p x e.1 hp).symm.trans (kid_get (H.kn p x hp) he)
    have hct := cnt_split H hp
    have hci : ((T₁.ks p).map fun e => cnt dom (p ++ [e.1]))[i]? = some (cnt dom (p ++ [e.1])) := by rw [List.getElem?_map, he]; rfl
    have hc1 := sumN_take hci
    have hc2 := sumN_take_le ((T₁.ks p).map fun e => cnt dom (p ++ [e.1])) (i + 1)
    rw [← List.map_take] at hc1 hc2
    rw [← List.map_take] at hc1
    have hits := J1.its
    refine sub_hit (mine := (I, oI) :: (C, oC) :: (D, lst (List.replicate i (.bool true))) :: (L' + 1, o1) :: mine) J1.lay hp hpe X' F1 N1 ?_
    k_steps
    refine wpAny_call (ih (p ++ [e.1]) e.2.2 S1 _ (by rw [List.length_append, List.length_singleton]; exact om_k6' hpk) J1.ok J1.lay hpe ?_ (om_f1 hsz hct hc1 hc2 hits) _ L' g' _ ((I, oI) :: (C, oC) :: (D, lst (List.replicate i (.bool true))) :: (L' + 1, o1) :: mine) _ _ ⟨⟨_, _, _, B', rfl, rfl, rfl⟩, X', T', rfl, C1, C2⟩ (by dsimp only [Around.deeper]; exact limk' hd (by decide)) (by dsimp only [Around.deeper]; exact limk' hu (by decide)) F1 N1 (off_turn O3 O1) ?_)
    · intro q hq hpq
      obtain ⟨r, rfl⟩ := pre_iff.mp hpq
      rw [hfz _ hq (pre_iff.mpr ⟨e.1 :: r, by rw [List.append_assoc]; rfl⟩), Bool.false_or, List.any_eq_false]
      intro e' he' h
      obtain ⟨r', h⟩ := pre_iff.mp h
      rw [List.append_assoc, List.append_assoc, List.append_cancel_left_eq] at h
      have h1 : e.1 = e'.1 := (List.cons.inj h).1
      obtain ⟨j, hj, hje⟩ := List.mem_take_iff_getElem.mp he'
      have hn := H.kn p x hp
      have := (List.getElem_inj (i := i) (j := j) (h₀ := by rw [List.length_map]; exact hi) (h₁ := by rw [List.length_map]; exact om_lt hj) hn).mp (by
        rw [List.getElem_map, List.getElem_map, hje, ← h1]
        congr 1
        exact Option.some.inj ((List.getElem?_eq_getElem hi).symm.trans he))
      exact om_ir hj this
    · intro S2 h2 tk2 F2 N2 O2 J2
      dsimp only
      refine ⟨h2, _, (L' + 1, o1) :: mine ++ S2.led Rn, rfl, F2, N2, off3_back O3 O2, .tail _ (List.mem_append_right _ (.tail _ (.tail _ (.tail _ (J2.c58 _ _ (J1.c58 _ _ hx rfl) rfl))))), S2, rfl, off_tail3 O2, ?_, ?_⟩
      · rw [List.replicate_succ']
      · have := J1.next J2
        rw [← hc1] at this
        refine ⟨this.ok, this.lay.fz_congr fun q _ => ?_, this.oth, this.its, this.c58⟩
        rw [any_take _ he, Bool.or_assoc]
  · rintro ys nx ⟨S1, rfl, O1, rfl, J1⟩ D h1 tk1 F1 N1 O3
    dsimp only
    rw [List.take_length] at J1
    k_steps
    have hx1 := J1.c58 _ _ hx rfl
    refine call_type_obj (N1 _ (.tail _ (.tail _ (List.mem_append_right _ (.tail _ (.tail _ (.tail _ hx1))))))).1 rfl ?_
    k_steps
    have hfn : (fz p || (T₁.ks p).any fun e => (p ++ [e.1]).isPrefixOf p) = false := by
      rw [hfz p ((H.mem p).mpr (by rw [hp]; rfl)) (pre_iff.mpr ⟨[], by rw [List.append_nil]⟩), Bool.false_or, List.any_eq_false]
      intro e _ h
      obtain ⟨r, h⟩ := pre_iff.mp h
      have := congrArg List.length h; simp at this
    have hxN1 := J1.lay.node p x hp
    rw [hfn] at hxN1
    obtain ⟨dx1, ep1, fa1, o9, hx9, hdx9, hfa9, hL9, hxd9⟩ := id hxN1
    refine gm_freeze (X'.keeps F1.keep) (N1 _ (.tail _ (.tail _ (List.mem_append_right _ (.tail _ (.tail _ (.tail _ hx9))))))).1 (N1 _ (.tail _ (.tail _ (List.mem_append_right _ (.tail _ (.tail _ (.tail _ hdx9))))))).1 ?_
    k_steps
    refine wpAny_call (freeze_does J1.ok hxN1 _ L' g' _ ((D, lst (List.replicate (T₁.ks p).length (.bool true))) :: (L' + 1, o1) :: mine) _ _ ⟨⟨_, _, _, B', rfl, rfl, rfl⟩, X', T', rfl, C1, C2⟩ (by dsimp only [Around.deeper]; exact limk hd (by decide)) (by dsimp only [Around.deeper]; exact limk hu (by decide)) F1 N1 ?_ ?_)
    · exact off_one O3 O1
    · rintro r σ' h2 tk2 F2 N2 O2 ⟨rfl, S2, rfl, Z⟩
      dsimp only
      k_steps
      have lay2 := J1.lay.freeze J1.ok hp hfn Z
      have hits := J1.its
      have hct := cnt_split H hp
      have hits2 : S2.its.size = S1.its.size := by rw [Z.its]
      refine sub_c (mine := (D, lst (List.replicate (T₁.ks p).length (.bool true))) :: (L' + 1, o1) :: mine) (by decide +kernel) Z.ok (lim0 (om_f2 hsz hct hits hits2)) lay2 hp (if_pos rfl) ⟨⟨_, _, _, B', rfl, rfl, rfl⟩, X', T', rfl, C1, C2⟩ (by dsimp only [Around.deeper]; exact limk hd (by decide)) (by dsimp only [Around.deeper]; exact limk hu (by decide)) F2 N2 O2 ?_
      intro y3 S3 h3 tk3 F3 N3 O3 W3
      k_steps
      have its3 := W3.its
      refine sub_c (mine := (D, lst (List.replicate (T₁.ks p).length (.bool true))) :: (L' + 1, o1) :: mine) (by decide +kernel) W3.ok (by rw [its3]; exact om_f2 hsz hct hits hits2) (lay2.mono W3.old) hp (if_pos rfl) ⟨⟨_, _, _, B', rfl, rfl, rfl⟩, X', T', rfl, C1, C2⟩ (by dsimp only [Around.deeper]; exact limk hd (by decide)) (by dsimp only [Around.deeper]; exact limk hu (by decide)) F3 N3 O3 ?_
      intro y4 S4 h4 tk4 F4 N4 O4 W4
      k_steps
      obtain ⟨dy3, fy3, oy3, hy3, _⟩ := W3.node
      obtain ⟨dy4, fy4, oy4, hy4, _⟩ := W4.node
      refine wpAny_isNot_ref_other (W4.new _ (hy3)) (N4 _ (List.mem_append_right _ (.tail _ (.tail _ (.tail _ (W4.old _ hy3)))))).1 (N4 _ (List.mem_append_right _ (.tail _ (.tail _ (.tail _ hy4))))).1 (by intro z; cases z) ?_
      k_steps
      have hD := N4 _ (.head _)
      refine SeqAt.notIn_listAt (fun _ => false) ⟨_, hD.1, rfl, _, rfl⟩ (fun y hy => ?_) ?_
      · have e : y = .bool true := List.eq_of_mem_replicate (List.mem_toArray.mp hy)
        rw [e]
        exact SeqAt.EqAt.bool_bool true false
      have hany : ((List.replicate (T₁.ks p).length (Value.bool true)).toArray.any fun _ => false) = false := by rw [Array.any_eq_false]; intros; exact Bool.false_ne_true
      rw [hany]
      k_steps
      rename_i kF kN Tc kX
      refine kk S4 h4 _ kF (News.sub kN ?_) ?_ ?_
      · intro p hp; exact .tail _ (.tail _ hp)
      · intro p hp; exact O4 p (.tail _ (.tail _ hp))
      · have its4 := W4.its
        refine ⟨W4.ok, ?_, ?_, om_f4 hct hits hits2 its3 its4, ?_⟩
        · refine ((lay2.mono W3.old).mono W4.old).fz_congr fun q hq => ?_
          have e : (p.isPrefixOf q = true) ↔ q = p ∨ ((T₁.ks p).any fun e => (p ++ [e.1]).isPrefixOf q) = true := by
            have h1 := pre_split H hp q hq
            rw [List.any_eq_true]
            constructor
            · intro h
              by_cases e2 : q = p
              · exact .inl e2
              · rw [if_pos h, if_neg e2] at h1
                refine .inr (Classical.byContradiction fun hc => ?_)
                rw [sumN_zero _ _ fun a ha => if_neg fun h => hc ⟨a, ha, h⟩] at h1
                exact Nat.one_ne_zero h1
            · rintro (rfl | ⟨e, _, h⟩)
              · exact pre_iff.mpr ⟨[], by rw [List.append_nil]⟩
              · obtain ⟨r, rfl⟩ := pre_iff.mp h
                exact pre_iff.mpr ⟨e.1 :: r, by rw [List.append_assoc]; rfl⟩
          by_cases e2 : q = p
          · rw [if_pos e2, e.mpr (.inl e2), Bool.or_true]
          · rw [if_neg e2]
            cases h : p.isPrefixOf q with
            | true => rw [(e.mp h).resolve_left e2]
            | false =>
              cases h2 : (T₁.ks p).any fun e => (p ++ [e.1]).isPrefixOf q with
              | true => rw [e.mpr (.inr h2)] at h; cases h
              | false => rfl
        · intro U dU fU hU dis
          exact (((J1.lay.freezeo J1.ok hp hfn Z (J1.oth U dU fU hU dis) dis).mono W3.old).mono W4.old)
        · intro a o ha hc
          refine W4.old _ (W3.old _ (Z.old _ (J1.c58 a o ha hc) fun e => ?_))
          have e2 : a = dx1 := by
            have : a + 1 = dx1 + 1 := by rw [← hxd9]; exact e
            exact Nat.succ.inj this
          subst e2
          rw [← J1.ok.fns _ _ _ hdx9 (J1.c58 _ o ha hc)] at hc
          cases hc
theorem frozen_zero {w : World} {G : GG} {base : Heap} {Rn : Addr} {T₁ : Tr} {dom : List Path} (hlen : ∀ q ∈ dom, q.length ≤ 5) : Froz w G base Rn T₁ dom 0 := by
  intro p x S fz hpk hS H hp
  exact (om_no hpk (hlen p ((H.mem p).mpr (by rw [hp]; rfl)))).elim
theorem frozen_does {w : World} {G : GG} {base : Heap} {Rn : Addr} {T₁ : Tr} {dom : List Path} (hlen : ∀ q ∈ dom, q.length ≤ 5) : ∀ k, Froz w G base Rn T₁ dom k
  | 0 => frozen_zero hlen
  | k + 1 => frozen_step hlen (frozen_does hlen k)
end Mine
end

section
open PySem PySem.W PyProof.Rows
theorem Mine.clrFroB (prog : Program) (w : World) (A : Around) (env : Env) (pos : Pos) (s : Shared) : True := by
  w_top off
  first
  | (have : wpAny (model prog w) A (PySem.eval (.Constant (.int 0) 0 pos) env) (fun _ _ => True) (fun _ _ => True) s := by (walk1; fail "x")); trivial
  | trivial
end

section
open PySem PySem.W PyProof.Rows PySem.Calls Builtin
set_option maxRecDepth 100000
set_option maxHeartbeats 1000000
set_option pp.deepTerms false
set_option pp.deepTerms.threshold 6
namespace Mine
noncomputable def StrAre (vs : Array Value) (us : List PySem.Str) : Prop := vs.size = us.length ∧ ∀ (i : Nat) (u : PySem.Str), us[i]? = some u → ∃ t, vs[i]? = some (Value.str u t)
noncomputable def OutJ (w : World) (Rn : Addr) (S : St) (y : Addr) (us : List PySem.Str) (mine : Led) (i : Nat) (m' : PySem.Str → Option Value) (nx : Led) : Prop :=
  ∃ S1 T1, nx = mine ++ S1.led Rn ∧ Off mine (S1.led Rn) ∧ GrowJ w Rn S S1 y T1 (domOf (us.take i)) ∧ m' (Str.ofString "root") = some (.ref y)
noncomputable def InJ (w : World) (Rn : Addr) (S : St) (y : Addr) (d : List Path) (u : PySem.Str) (mine : Led) (i : Nat) (m' : PySem.Str → Option Value) (nx : Led) : Prop :=
  ∃ S1 T1 x, nx = mine ++ S1.led Rn ∧ Off mine (S1.led Rn) ∧ GrowJ w Rn S S1 y T1 (insPre d u i) ∧ m' (Str.ofString "root") = some (.ref y) ∧ m' (Str.ofString "node") = some (.ref x) ∧ T1.at_ ((pathOf u).take i) = some x
local macro_rules | `(tactic| walk_at "eval Name") => `(tactic| (k_here; k_dflt (refine' ld ?k1 ?k2 ?_; (case k1 => k_asm); (case k2 => with_unfolding_all assumption); k_whole)))
noncomputable abbrev frBase {h₀ h : Heap} {L : Addr} {m : PySem.Str → Option Value} (_ : Fr h₀ L h m) : Heap := h₀
local macro_rules | `(tactic| walk_at "exec For") => `(tactic| (k_here; (with_reducible rename Fr _ _ _ _ => kF); refine For_invV (frBase kF) rfl rfl ?_; dsimp only [frBase]))
local macro_rules | `(tactic| k_all) => `(tactic| assumption)
theorem grown_does {w : World} {G : GG} {base : Heap} {Rn l : Addr} {S : St} {its : Array Value} {n : Nat} {us : List PySem.Str} (hS : S.Ok Rn) (hsz : S.its.size < 1000) (hst : StrAre its us) (hw : ∀ u ∈ us, IsWord u) (hn : us.length ≤ 20)
  (A : Around) (L : Addr) (h₀ : Heap) (m : Str → Option Value) (mine : Led) (s : Shared) (R : Result → Shared → Prop)
    (Si : Sit w G A L base h₀) (hd : A.depth + 20 < recursionLimit) (hu : A.units + 160 < cLine) (F : Fr h₀ L s.heap m) (N : News h₀ L s.heap (mine ++ S.led Rn)) (O : Off mine (S.led Rn)) (hl : (l, W.listOf its n) ∈ mine)
    (kk : ∀ y S' T h' tk', Fr h₀ L h' m → News h₀ L h' (mine ++ S'.led Rn) → Off mine (S'.led Rn) → GrowJ w Rn S S' y T (domOf us) → R (.ok (.ret (.ref y))) { s with heap := h', toks := tk' }) :
    codeAny (model Challenge.rw_in0102_01.row.prog w) A (.call (.ref 90) ⟨[.ref l, .ref Rn], []⟩) R s := by
  obtain ⟨env, outer, A₀, B, hA, hf, hke⟩ := Si.fr
  have X := Si.X
  have T := Si.T
  have hh := Si.hh
  have C1 := Si.C1
  have C2 := Si.C2
  obtain ⟨hd9, dp, fr, gd, un⟩ := A
  dsimp only at hA hh hd hu
  subst hA hh
  revert X; k_fill; intro X
  k_dflt (refine' code_def ?k1 ?k2 ?k3 ?k4 ?k5 ?kA ?kF ?kK ?k6 ?k7 ?k8 ?k9 ?kB ?_ ?c2 ?c3 ?c4 ?c5; (case kA => exact rfl); (case kF => assumption); (case kK => assumption); (case k1 => k_asm); (case k2 => k_asm); (case k3 => k_asm); (case k4 => k_asm); (case k5 => k_asm); (case k6 => k_is); (case k7 => k_is); (case k8 => ((try dsimp only); omega)); (case k9 => exact BindsTo.of_eq rfl); (case c5 => decide); (case kB => exact locs rfl); (case c2 => exact rfl); (case c3 => exact rfl); (case c4 => exact rfl); k_whole; intro g' L' h' FG' F' N' B' X' T'; (try dsimp only); (try k_fold))
  k_steps
  refine wpAny_call (tree_does hS (by omega) _ L' g' _ mine _ _ ⟨⟨_, _, _, B', rfl, rfl, rfl⟩, X', T', rfl, C1, C2⟩ (by dsimp only [Around.deeper]; omega) (by dsimp only [Around.deeper]; omega) F' N' O ?_)
  rintro r σ' h2 tk2 F2 N2 O2 ⟨y, S', rfl, rfl, hN⟩
  dsimp only
  k_steps
  rename Fr g' L' _ _ => F3; rename News g' L' _ _ => N3
  refine iter_list (OutJ w Rn S y us mine) rfl F3 N3 (List.mem_append_left _ hl) (fun i m' nx h => by obtain ⟨S1, T1, rfl, _⟩ := h; exact List.mem_append_left _ hl) ⟨S', Tr.one y, rfl, O2, GrowJ.root hN, rfl⟩ ?_ ?_
  · rintro i v m₁ nx h3 tk3 I oI hv ⟨S1, T1, rfl, O1, G1, hroot⟩ hoff F4 N4
    obtain ⟨u, hui⟩ : ∃ u, us[i]? = some u := by
      have : i < its.size := (Array.getElem?_eq_some_iff.mp hv).1
      exact ⟨us[i]'(by rw [← hst.1]; exact this), List.getElem?_eq_getElem _⟩
    obtain ⟨t, hvt⟩ := hst.2 i u hui
    rw [hvt] at hv; cases hv
    have hwu := hw u (List.mem_of_getElem? hui)
    have hil : i < us.length := (List.getElem?_eq_some_iff.mp hui).1
    have hdl := domOf_len hw i
    walk1; walk1; walk1; walk1; walk1
    rename Fr g' L' _ _ => F5; rename News g' L' _ _ => N5
    refine For_invV (frBase F5) rfl rfl ?_
    walk1
    dsimp only [frBase]
    refine iter_str (InJ w Rn S y (domOf (us.take i)) u ((I, oI) :: mine)) rfl F5 N5 ⟨S1, T1, y, rfl, ?_, G1, ?_, ?_, ?_⟩ ?_ ?_
    · intro p hp q hq
      rcases List.mem_cons.mp hp with rfl | hp
      · exact (hoff q (List.mem_append_right _ hq)).symm
      · exact O1 p hp q hq
    · with_unfolding_all exact hroot
    · rfl
    · exact G1.rt
    · rintro j c tu m₂ nx h5 tk5 I2 oI2 hc ⟨S2, T2, x, rfl, O2, G2, hroot2, hnode2, hx2⟩ hoff2 F6 N6
      k_steps
      have hjl : j < u.cps.size := (Array.getElem?_eq_some_iff.mp hc).1
      have hpl := insPre_len (domOf (us.take i)) u j
      have hits := G2.its
      have hu4 := hwu.1
      refine step_sub (p := (pathOf u).take j) (mine := (I2, oI2) :: (I, oI) :: mine) G2.ok (by omega) G2.lay hx2 rfl rfl (letter_of hwu hc) ⟨⟨_, _, _, B', rfl, rfl, rfl⟩, X', T', rfl, C1, C2⟩ (by dsimp only [Around.deeper]; omega) (by dsimp only [Around.deeper]; omega) F6 N6 ?_ ?_
      · intro p hp q hq
        rcases List.mem_cons.mp hp with rfl | hp
        · exact (hoff2 q (List.mem_append_right _ hq)).symm
        · exact O2 p hp q hq
      · intro z S3 T3 h6 tk6 F7 N7 O7 st
        k_steps
        rename Fr g' L' _ _ => F8; rename News g' L' _ _ => N8
        refine (show TurnEnd _ _ _ _ _ _ _ from ⟨_, _, _, ((I, oI) :: mine) ++ S3.led Rn, rfl, F8, N8, fun p hp => ?_, S3, T3, z, rfl, fun p hp q hq => O7 p (.tail _ hp) q hq, ?_, ?_, ?_, ?_⟩)
        · rcases List.mem_append.mp hp with hp | hp
          · exact hoff2 p (List.mem_append_left _ hp)
          · exact (O7 _ (.head _) p hp).symm
        · rw [insPre, pathOf_take u j c hc]; exact G2.step st
        · with_unfolding_all exact hroot2
        · rfl
        · rw [pathOf_take u j c hc]; exact st.at_
    · rintro m₂ nx h5 tk5 ⟨S2, T2, x, rfl, O2, G2, hroot2, hnode2, hx2⟩ F6 N6
      k_steps
      have hpl := insPre_len (domOf (us.take i)) u u.cps.size
      have hits := G2.its
      have hu4 := hwu.1
      refine step_sub (p := pathOf u) (mine := (I, oI) :: mine) G2.ok (by omega) G2.lay (by rw [← pathOf_len, List.take_length] at hx2; exact hx2) rfl rfl (.inl rfl) ⟨⟨_, _, _, B', rfl, rfl, rfl⟩, X', T', rfl, C1, C2⟩ (by dsimp only [Around.deeper]; omega) (by dsimp only [Around.deeper]; omega) F6 N6 O2 ?_
      intro z S3 T3 h6 tk6 F7 N7 O7 st
      k_steps
      rename Fr g' L' _ _ => F8; rename News g' L' _ _ => N8
      refine (show TurnEnd _ _ _ _ _ _ _ from ⟨_, _, _, mine ++ S3.led Rn, rfl, F8, N8, fun p hp => ?_, S3, T3, rfl, fun p hp q hq => O7 p (.tail _ hp) q hq, ?_, hroot2⟩)
      · rcases List.mem_append.mp hp with hp | hp
        · exact hoff p (List.mem_append_left _ hp)
        · exact (O7 _ (.head _) p hp).symm
      · rw [domOf_take us i u hui]; exact G2.step st
  · rintro m₁ nx h3 tk3 ⟨S1, T1, rfl, O1, G1, hroot⟩ F4 N4
    k_steps
    rename_i kF kN Tc kX
    exact kk y S1 T1 h3 _ kF kN O1 (by rw [hst.1, List.take_length] at G1; exact G1)
end Mine
end

section
open PySem PySem.W PyProof.Rows
theorem Mine.clrGrowB (prog : Program) (w : World) (A : Around) (env : Env) (pos : Pos) (s : Shared) : True := by
  w_top off
  first
  | (have : wpAny (model prog w) A (PySem.eval (.Constant (.int 0) 0 pos) env) (fun _ _ => True) (fun _ _ => True) s := by (walk1; fail "x")); trivial
  | trivial
end

section
open PySem PySem.W PyProof.Rows PySem.Calls Builtin
set_option maxRecDepth 100000
set_option maxHeartbeats 400000
namespace Mine
section
variable {prog : Program} {w : World} {P : Params} {A : Around} {h : Heap} {g : Array GenState} {d : Drawn} {t : Nat} {os : OsState} {E : Value → Shared → Prop}
theorem lk_len (X : (hd.heap_39 P).In h) : Looks (model prog w) h (typeLookup (.ref 58) "__len__") (some (.builtin "dict.__len__")) := looks_findIn X (by kernel_rfl)
theorem lk_bindlen (X : (hd.heap_39 P).In h) (v : Value) : Looks (model prog w) h (bindSpecial (.builtin "dict.__len__") v) (.builtin "dict.__len__", [v]) := Looks.of_peek X (by kernel_rfl)
theorem args_dlen (a : Value) : argsOk "dict.__len__" ⟨[a], []⟩ := by unfold argsOk; kernel_rfl
theorem args_len (a : Value) : argsOk "len" ⟨[a], []⟩ := by unfold argsOk; kernel_rfl
theorem entry_len' : entryFor table "len" = some Builtin.«len» := entryFor_of_tree (by kernel_rfl)
theorem entry_dlen' : entryFor table "dict.__len__" = some Builtin.«dict.__len__» := entryFor_of_tree (by kernel_rfl)
theorem fdd_len (X : (hd.heap_39 P).In h) {l : List (Str × Tok × Addr)} {x dx : Addr} {ep : Nat} {f : Value} {Q : Value → Shared → Prop} (hx : h.get? x = some (fdd dx (ents w l).toArray ep f)) (hx1 : (x == sysModules) = false) (hl : l.length ≤ 100)
    (hQ : ∀ t1 t2, Q (.int l.length t1) ⟨h, g, d, t2, os⟩) : wpAny (model prog w) A (call (.builtin "len") [.ref x]) Q E ⟨h, g, d, t, os⟩ := by
  have L0 := ty58 (prog := prog) (w := w) hx rfl
  have L1 := lk_len (prog := prog) (w := w) X
  have L2 := lk_bindlen (prog := prog) (w := w) X (.ref x)
  have L3 := lk_subdict (prog := prog) (w := w) X
  have L4 : Looks (model prog w) h (isInstance (.ref x) (.type "dict")) true := L0.andThen (f := fun t => isSubtype t (.type "dict")) L3
  have hC := X 58 _ rfl
  have e1 : (ents w l).toArray.size = l.length := by simp [ents]
  refine Calls.call_function_entry (by decide +kernel) (by decide +kernel) entry_len' (args_len _) ?_
  unfold Builtin.«len»
  repeat (first | with_reducible refine wpAny_attempt ?_ | with_reducible refine wpAny_call ?_ | lk)
  refine codeAny_call_builtin_at (Code.quiet_builtin _ (by decide +kernel)) entry_dlen' (@check_slot (model prog w) _ _ _ "dict.__len__" "dict" "__len__" (.ref x) _ [] _ (by decide +kernel) (by decide +kernel) L4 (args_dlen _) ?_)
  unfold Builtin.«dict.__len__»
  have e2 : ¬ ((l.length : Int) < 0) := by omega
  have e3 : ¬ ((l.length : Int) ≥ 2 ^ 63) := by
    have : (2 : Int) ^ 63 = 9223372036854775808 := by decide
    rw [this]; omega
  repeat (first | simp only [hx1, e1, e2, e3, Bool.false_eq_true, if_false] | with_reducible refine wpAny_dictEntries hx rfl ?_ | with_reducible refine wpAny_attempt ?_ | with_reducible refine wpAny_call ?_ | lk)
  have e4 : (l.length : Int) + ((0 : Nat) : Int) = l.length := by simp
  rw [if_neg (by rw [e4]; exact e3), e4]
  repeat (first | exact ⟨_, rfl, hQ _ _⟩ | lk)
theorem fdd_hint (X : (hd.heap_39 P).In h) {l : List (Str × Tok × Addr)} {x dx : Addr} {ep : Nat} {f : Value} {Q : Bool → Shared → Prop} (hx : h.get? x = some (fdd dx (ents w l).toArray ep f)) (hx1 : (x == sysModules) = false) (hl : l.length ≤ 100)
    (hQ : ∀ b t', Q b ⟨h, g, d, t', os⟩) : wpAny (model prog w) A (Builtin.List.listLengthHint (.ref x)) Q E ⟨h, g, d, t, os⟩ := by
  have L0 := ty58 (prog := prog) (w := w) hx rfl
  have L1 := lk_len (prog := prog) (w := w) X
  have L3 := lk_subdict (prog := prog) (w := w) X
  have L4 : Looks (model prog w) h (isInstance (.ref x) (.type "dict")) true := L0.andThen (f := fun t => isSubtype t (.type "dict")) L3
  have hC := X 58 _ rfl
  have e1 : splitId "dict.__len__" = some ("dict", "__len__") := by decide +kernel
  unfold Builtin.List.listLengthHint
  repeat (first | simp only [e1, Bool.not_true, Bool.false_eq_true, if_false] | (refine wpAny_ite_split (fun _ => ?_) (fun hab => absurd (by decide +kernel) hab)) | (with_reducible refine wpAny_bind (fdd_len X hx hx1 hl fun t1 t2 => ?_)) | exact hQ _ _ | lk)
/-- the list of a node's keys -/
noncomputable abbrev keysOf (l : List (Str × Tok × Addr)) : List Value := l.map fun e => .str e.1 e.2.1
theorem fdd_collect (hh : A.handled = none) (X : (hd.heap_39 P).In h) {l : List (Str × Tok × Addr)} {x dx : Addr} {ep : Nat} {f : Value} {Q : List Value → Shared → Prop} (hx : h.get? x = some (fdd dx (ents w l).toArray ep f)) (hx1 : (x == sysModules) = false) (hl : l.length ≤ 100)
    (hQ : ∀ h' t', (∀ b o, h.get? b = some o → h'.get? b = some o) → Q (keysOf l) ⟨h', g, d, t', os⟩) : wpAny (model prog w) A (collect (.ref x)) Q E ⟨h, g, d, t, os⟩ := by
  unfold collect
  refine wpAny_bind (wpAny_runValue (codeAny_builtin PyProof.Rows.entry_proto_collect' ?_))
  rw [Around.under_plainId PySem.F.plain_proto_collect _]
  show wpAny _ A.in1 (newList [] >>= fun l => again (.builtin "list.__iadd__" ⟨[l, .ref x], []⟩)) _ _ _
  refine wpAny_bind (wpAny_newObj_type ?_)
  refine wpAny_pure ⟨plainId_quiet PySem.F.plain_list_iadd _, codeAny_builtin entry_list_iadd' ?_⟩
  rw [Around.under_plainId PySem.F.plain_list_iadd _]
  show wpAny _ A.in1 (Builtin.List.listExtendWith (.ref h.objs.size) (.ref x) (.ref h.objs.size)) _ _ _
  unfold Builtin.List.listExtendWith
  have hne : h.objs.size ≠ x := Nat.ne_of_gt (Heap.lt_size hx)
  have hk1 : ∀ b o, h.get? b = some o → (h.push { cls := .type "list", data := .seq ([] : List Value).toArray }).get? b = some o := fun b o e => Heap.get?_push_of_some _ e
  have hS : (h.push { cls := .type "list", data := .seq ([] : List Value).toArray }).get? h.objs.size = some { cls := .type "list", data := .seq #[] } := Heap.get?_push_size _ rfl
  have hz1 : (h.push { cls := .type "list", data := .seq ([] : List Value).toArray }).objs.size = h.objs.size + 1 := Heap.size_push ..
  dsimp only
  generalize h.push { cls := .type "list", data := .seq ([] : List Value).toArray } = h1 at hk1 hS hz1 ⊢
  have hx' := hk1 _ _ hx
  have X' := X.keeps hk1
  have L0 := ty58 (prog := prog) (w := w) hx' rfl
  have hsame : Builtin.List.listSameRef (.ref h.objs.size) (.ref x) = false := by simp [Builtin.List.listSameRef, hne]
  refine wpAny_bind (L0.here ?_)
  have e1 : (Value.ref 58 == Value.type "list") = false := by decide
  have e2 : (Value.ref 58 == Value.type "tuple") = false := by decide
  simp only [hsame, e1, e2, Bool.or_false, Bool.false_eq_true, if_false]
  refine wpAny_bind (fdd_iter X' hx' hx1 ?_)
  have hk2 : ∀ b o, h1.get? b = some o → (h1.push (keyIter x 0 l.length ep)).get? b = some o := fun b o e => Heap.get?_push_of_some _ e
  have hI : (h1.push (keyIter x 0 l.length ep)).get? h1.objs.size = some (keyIter x 0 l.length ep) := Heap.get?_push_size _ rfl
  have nI : x ≠ h1.objs.size := Nat.ne_of_lt (Heap.lt_size hx')
  have nS : h.objs.size ≠ h1.objs.size := by rw [hz1]; exact Nat.ne_of_lt (Nat.lt_succ_self _)
  generalize h1.push (keyIter x 0 l.length ep) = h2 at hk2 hI ⊢
  generalize hI0 : h1.objs.size = I at hI nI nS ⊢
  have hS₁ := hk2 _ _ hS
  have hx2 := hk2 _ _ hx'
  refine wpAny_bind (wpAny_holding (fdd_hint (X'.keeps hk2) hx2 hx1 hl fun b t' => ?_))
  have hT : ∀ b o, h.get? b = some o → b ≠ h.objs.size := fun b o e => Nat.ne_of_lt (Heap.lt_size e)
  have hnI : ∀ b o, h.get? b = some o → b ≠ I := fun b o e => by
    have := Heap.lt_size e
    rw [← hI0, hz1]; exact Nat.ne_of_lt (Nat.lt_succ_of_lt this)
  have W := Walks.fddKeys (prog := prog) (w := w) (A := A.in1) hh I x nI l ep
  have hSf : h.objs.size ∉ [I, x] := by simp only [List.mem_cons, List.not_mem_nil, or_false, not_or]; exact ⟨nS, hne⟩
  have key : ∀ (hp : Heap) (c₁ tk : Nat), hp.get? I = some (keyIter x 0 l.length ep) → hp.get? x = some (fdd dx (ents w l).toArray ep f) → (∀ b o, b ≠ h.objs.size → h2.get? b = some o → hp.get? b = some o) →
      hp.get? h.objs.size = some { cls := .type "list", data := .seq #[] c₁ } → codeAny (model prog w) A (.builtin "list.extend.loop" ⟨[.ref h.objs.size, .ref I, .ref h.objs.size], []⟩)
        (fun q s' => ∃ h' tk c', q = .ok (.ret (.ref h.objs.size)) ∧ s' = ⟨h', g, d, tk, os⟩ ∧ (∀ b o, h.get? b = some o → h'.get? b = some o) ∧ h'.get? h.objs.size = some { cls := .type "list", dict := none, data := .seq (keysOf l).toArray c', slots := #[] }) ⟨hp, g, d, tk, os⟩ := by
    intro hp c₁ tk hI' hx' hk3 hS3
    refine codeAny_extend_loopS W.toS (Nat.le_trans hl (by decide +kernel)) h.objs.size hSf (.ref h.objs.size) l.length 0 _ #[] c₁ rfl (Nat.zero_le _) ⟨hI', _, hx', rfl⟩ hS3 (ItemsOf.nil _) fun s' acc' c' hm hS' hacc => ?_
    rw [Moved.eq_with hm]
    have eacc : acc' = (keysOf l).toArray := by
      refine Array.ext (by rw [hacc.1]; simp) fun j h1 h2 => ?_
      obtain ⟨e, he, hv⟩ := hacc.2 j acc'[j] (Array.getElem?_eq_getElem h1)
      rw [hv]
      have hj : (keysOf l).toArray[j]? = some (.str e.1 e.2.1) := by rw [List.getElem?_toArray, List.getElem?_map, he]; rfl
      exact (Option.some.inj ((Array.getElem?_eq_getElem h2).symm.trans hj)).symm
    rw [eacc] at hS'
    refine ⟨_, _, c', rfl, rfl, fun b o e => hm.heap b o (fun hmem => ?_) (hk3 b o (hT b o e) (hk2 b o (hk1 b o e))), hS'⟩
    rcases List.mem_cons.mp hmem with e' | hmem
    · exact hT b o e e'
    · exact hnI b o e (List.mem_singleton.mp hmem)
  refine wpAny_ite_split (fun _ => ?_) (fun _ => wpAny_pure ⟨plainId_quiet PySem.F.plain_extend_loop _, codeAny_mono (key _ _ _ hI hx2 (fun b o _ e => e) hS₁) fun r s2 z => ?_⟩)
  rotate_left
  · skip
    obtain ⟨h', tk, c', rfl, rfl, hk', hS'⟩ := z
    show wpAny _ A (load h.objs.size >>= _) _ _ _
    refine wpAny_bind (wpAny_load hS' ?_)
    exact wpAny_pure (hQ h' tk hk')
  refine wpAny_bind (wpAny_rule ?_)
  refine wpAny_bind ?_
  show wpAny _ _ (updateSeq h.objs.size (·.push .none) >>= fun _ => updateSeq h.objs.size (·.pop)) _ _ _
  refine wpAny_bind (wpAny_updateSeq hS₁ rfl ?_)
  have hS₂ := Heap.get?_update_self (Obj.mapSeq (·.push Value.none)) hS₁ rfl
  refine wpAny_updateSeq (hz := by seq_fits) hS₂ rfl ?_
  have hS₃ := Heap.get?_update_self (Obj.mapSeq (·.pop)) hS₂ rfl
  have oth : ∀ b o, b ≠ h.objs.size → h2.get? b = some o → ((h2.update h.objs.size (Obj.mapSeq (·.push Value.none))).update h.objs.size (Obj.mapSeq (·.pop))).get? b = some o := fun b o hb e =>
    (Heap.get?_update_other _ _ (Ne.symm hb)).trans ((Heap.get?_update_other _ _ (Ne.symm hb)).trans e)
  refine wpAny_pure ⟨plainId_quiet PySem.F.plain_extend_loop _, codeAny_mono (key _ _ _ (oth _ _ (Ne.symm nS) hI) (oth _ _ (Ne.symm hne) hx2) oth hS₃) fun r s2 z => ?_⟩
  · skip
    obtain ⟨h', tk, c', rfl, rfl, hk', hS'⟩ := z
    show wpAny _ A (load h.objs.size >>= _) _ _ _
    refine wpAny_bind (wpAny_load hS' ?_)
    exact wpAny_pure (hQ h' tk hk')
theorem keys_strs : ∀ l : List (Str × Tok × Addr), PyProof.Rows.StrsAre (keysOf l) (l.map (·.1))
  | [] => .nil
  | e :: l => .cons e.1 e.2.1 (keys_strs l)
theorem fdd_sorted {h₀ : Heap} {L : Addr} {m : Str → Option Value} {news : List (Addr × Obj)} (hh : A.handled = none) (X : (hd.heap_39 P).In h₀) (F : Fr h₀ L h m) (N : News h₀ L h news) {l : List (Str × Tok × Addr)} {x dx : Addr} {ep : Nat} {f : Value} {Q : Value → Shared → Prop}
    (mx : (x, fdd dx (ents w l).toArray ep f) ∈ news) (hx1 : (x == sysModules) = false) (hl : l.length ≤ 3)
    (hQ : ∀ D h' t' vs ss e, Fr h₀ L h' m → News h₀ L h' ((D, W.listOf vs.toArray e) :: news) → (∀ q ∈ news, q.1 < D) → StrsAre vs ss → ss.Perm (l.map (·.1)) → sortedS ss = true → Q (.ref D) ⟨h', g, d, t', os⟩) :
    wpAny (model prog w) A (call (.builtin "sorted") [.ref x]) Q E ⟨h, g, d, t, os⟩ := by
  refine Calls.call_function_entry kind_sorted plain_sorted entry_sorted (args_sorted1 _) ?_
  unfold Builtin.«sorted»
  refine wpAny_bind (m := checkCount "sorted" 1 1 _) (wpAny_pure ?_)
  refine wpAny_bind (fdd_collect (A := A.in1) hh (X.keeps F.keep) (N _ mx).1 hx1 (by omega) fun h1 t1 hk => ?_)
  have hlen : (keysOf l).length = l.length := by simp
  refine wpAny_bind (wpAny_newList ?_ (by rw [hlen]; exact Nat.le_trans hl (by decide +kernel)))
  have ho : (h1.push (seqObj "list" (keysOf l).toArray 0)).get? h1.objs.size = some (seqObj "list" (keysOf l).toArray 0) := Heap.get?_push_size _ rfl
  have hk2 : ∀ b o, h.get? b = some o → (h1.push (seqObj "list" (keysOf l).toArray 0)).get? b = some o := fun b o e => Heap.get?_push_of_some _ (hk b o e)
  have hz : ∀ b o, h.get? b = some o → b < h1.objs.size := fun b o e => Heap.lt_size (hk b o e)
  refine wpAny_bind (wpAny_holding (wpAny_call_entry slot_list_sort ⟨_, ho, rfl⟩ entry_list_sort (list_sort_treeK strKind_oneLt ho (keys_strs l).keysOf (fun v₁ v₂ rest e => keyKind_strs (by rw [← e]; exact keys_strs l)) (by rw [hlen]; omega) fun st' a1 a2 => ⟨_, rfl, ?_⟩) (args_list_sort _)))
  obtain ⟨ss', b1, b2, b3⟩ := sorted_out_str (keys_strs l) a1 a2
  obtain ⟨e, he⟩ := sortedHeap_at (out := (arrOf st').map (·.2)) ho
  have hk3 : ∀ b o, h.get? b = some o → (sortedHeap (h1.push (seqObj "list" (keysOf l).toArray 0)) h1.objs.size (keysOf l) ((arrOf st').map (·.2))).get? b = some o := fun b o eb => by
    have := hz b o eb
    rw [sortedHeap_old (Nat.ne_of_lt this) (by rw [Heap.size_push]; exact Nat.lt_succ_of_lt this)]
    exact hk2 b o eb
  refine wpAny_pure ⟨_, rfl, hQ h1.objs.size _ _ _ ss' e (F.keeps hk3) (fun p hp => ?_) (fun q hq => hz _ _ (N q hq).1) b1 b2 b3⟩
  rcases List.mem_cons.mp hp with rfl | hp
  · refine ⟨by rw [Array.toArray_toList]; exact he, ?_, ?_⟩
    · exact Ne.symm (Nat.ne_of_lt (Heap.lt_size (hk _ _ F.ns.choose_spec.choose_spec.choose_spec.1)))
    · cases e0 : h₀.get? h1.objs.size with
      | none => rfl
      | some o => exact absurd (hz _ _ (F.keep _ _ e0)) (Nat.lt_irrefl _)
  · exact ⟨hk3 _ _ (N p hp).1, (N p hp).2⟩
end
end Mine
end

section
open PySem PySem.W PyProof.Rows PySem.Calls Builtin LCg
set_option maxRecDepth 100000
set_option maxHeartbeats 1000000
set_option pp.deepTerms false
set_option pp.deepTerms.threshold 6
namespace Mine
local macro_rules | `(tactic| k_all) => `(tactic| assumption)
theorem intsAre_snoc {n : Int} {t : Tok} : ∀ {vs : List Value} {ns : List Int}, IntsAre vs ns → IntsAre (vs ++ [.int n t]) (ns ++ [n])
  | _, _, .nil => .cons n t .nil
  | _, _, .cons a u h => .cons a u (intsAre_snoc h)
theorem sum_sumN : ∀ l : List Nat, (l.map fun a : Nat => (a : Int)).sum = ((sumN l : Nat) : Int)
  | [] => rfl
  | a :: l => by rw [List.map_cons, List.sum_cons, sum_sumN l, sumN_cons]; omega
noncomputable def NodTurn (dom : List Path) (p : Path) (ks : List (PySem.Str × Tok × Addr)) (cl : Led) (i : Nat) (ys : List Value) (nx : Led) : Prop :=
  nx = cl ∧ IntsAre ys ((ks.take i).map fun e => (cnt dom (p ++ [e.1]) : Int))
noncomputable def Nods (w : World) (G : GG) (base : Heap) (Rn : Addr) (T : Tr) (dom : List Path) (k : Nat) : Prop :=
  ∀ (p : Path) (x : Addr) (S : St) (fz : Path → Bool), p.length + k = 6 → S.Ok Rn → Lay w Rn S.objs T dom fz → T.at_ p = some x →
  ∀ (A : Around) (L : Addr) (h₀ : Heap) (m : PySem.Str → Option Value) (mine : Led) (s : Shared) (R : Result → Shared → Prop),
    Sit w G A L base h₀ → A.depth + 30 * k + 30 < recursionLimit → A.units + 300 * k + 300 < cLine → Fr h₀ L s.heap m → News h₀ L s.heap (mine ++ S.led Rn) → Off mine (S.led Rn) →
    (∀ t h' tk', Fr h₀ L h' m → News h₀ L h' (mine ++ S.led Rn) → R (.ok (.ret (.int (cnt dom p) t))) { s with heap := h', toks := tk' }) →
    codeAny (model Challenge.rw_in0102_01.row.prog w) A (.call (.ref 114) ⟨[.ref x], []⟩) R s
theorem nodes_step {w : World} {G : GG} {base : Heap} {Rn : Addr} {T₁ : Tr} {dom : List Path} {k : Nat} (ih : Nods w G base Rn T₁ dom k) : Nods w G base Rn T₁ dom (k + 1) := by
  intro p x S fz hpk hS H hp A L h₀ m mine s R Si hd hu F N O kk
  obtain ⟨env, outer, A₀, B, hA, hf, hke⟩ := Si.fr
  have X := Si.X
  have T := Si.T
  have hh := Si.hh
  have C1 := Si.C1
  have C2 := Si.C2
  obtain ⟨hd9, dp, fr, gd, un⟩ := A
  dsimp only at hA hh hd hu
  subst hA hh
  revert X; k_fill; intro X
  k_dflt (refine' code_defC ?k1 ?k2 ?k3 ?k4 ?k5 ?kA ?kF ?kK ?k6 ?k7 ?k8 ?k9 ?kB ?kD ?_ ?c2 ?c3 ?c4; (case kA => exact rfl); (case kF => assumption); (case kK => assumption); (case k1 => k_asm); (case k2 => k_asm); (case k3 => k_asm); (case k4 => k_asm); (case k5 => k_asm); (case k6 => k_is); (case k7 => k_is); (case k8 => ((try dsimp only); omega)); (case k9 => first | exact BindsTo.of_eq rfl | exact binds_K (by k_in) rfl (by k_is) rfl rfl rfl | fail "k_enter: no rule for these arguments"); (case kB => exact rfl); (case kD => decide +kernel); (case c2 => exact rfl); (case c3 => exact rfl); (case c4 => exact rfl); k_whole; intro g' L' h' tk' cells' FG' F' N' Y' B' X' T' l1; (try k_lt l1); k_cells Y'; (try simp only [List.cons_append, List.nil_append] at N'); (try dsimp only); (try k_lift B'); (try k_fold))
  iterate 8 walk1
  refine fdd_ListComp F' (by with_unfolding_all rfl) (by decide) (by rfl) (by decide) (by rfl) ?_
  walk1
  rename_i o1 d1
  have d2 : o1.data = .cell (some (.ref x)) := d1
  obtain ⟨dx, ep, f, hx, hxd⟩ := NodeAt.has (H.node p x hp)
  have hsys : (x == sysModules) = false := by
    have := hS.big _ hx
    dsimp only at this
    rw [beq_eq_false_iff_ne]
    exact fun e => by rw [e] at this; exact absurd this (by decide)
  have hl3 : (T₁.ks p).length ≤ 3 := by
    have h3 := letters3 (H.kn p x hp) (fun k hk => by obtain ⟨e, he, rfl⟩ := List.mem_map.mp hk; exact H.kl p x hp e he)
    rwa [List.length_map] at h3
  have mx : (x, fdd dx (ents w (T₁.ks p)).toArray ep (.ref f)) ∈ ((L' + 1, o1) :: (mine ++ S.led Rn) : Led) := .tail _ (List.mem_append_right _ (.tail _ (.tail _ (.tail _ hx))))
  rename Fr g' L' _ _ => F1; rename News g' L' _ _ => N1
  refine ⟨w.params, x, dx, T₁.ks p, ep, .ref f, _, rfl, rfl, hsys, X', F1, N1, mx, Nat.le_trans hl3 (by decide +kernel), ?_⟩
  rintro s₂ ⟨hq, rfl⟩
  refine comp_inv (NodTurn dom p (T₁.ks p) ((L' + 1, o1) :: (mine ++ S.led Rn))) ⟨rfl, .nil⟩ ?_ ?_
  · rintro i ys nx v I oI C oC D m₂ h1 tk1 E' hi ⟨rfl, J1⟩ ⟨e, he, rfl⟩ hC hm F1 N1 O3 hne
    k_steps
    have hpe : T₁.at_ (p ++ [e.1]) = some e.2.2 := (H.kd p x e.1 hp).symm.trans (kid_get (H.kn p x hp) he)
    refine sub_hit (mine := (I, oI) :: (C, oC) :: (D, lst ys) :: (L' + 1, o1) :: mine) H hp hpe X' F1 N1 ?_
    k_steps
    refine wpAny_call (ih (p ++ [e.1]) e.2.2 S _ (by rw [List.length_append, List.length_singleton]; omega) hS H hpe _ L' g' _ ((I, oI) :: (C, oC) :: (D, lst ys) :: (L' + 1, o1) :: mine) _ _ ⟨⟨_, _, _, B', rfl, rfl, rfl⟩, X', T', rfl, C1, C2⟩ (by dsimp only [Around.deeper]; omega) (by dsimp only [Around.deeper]; omega) F1 N1 (off_turn O3 (off_cell O l1)) ?_)
    intro t2 h2 tk2 F2 N2
    dsimp only
    refine ⟨h2, _, (L' + 1, o1) :: (mine ++ S.led Rn), rfl, F2, N2, O3, mx, rfl, ?_⟩
    rw [List.take_add_one, he, Option.toList_some, List.map_append]
    exact intsAre_snoc J1
  · rintro ys nx ⟨rfl, J1⟩ D h1 tk1 F1 N1 O3
    rw [List.take_length] at J1
    k_steps
    rename_i kF kN Tc kX
    have hct := cnt_split H hp
    have hsum := sum_sumN ((T₁.ks p).map fun e => cnt dom (p ++ [e.1]))
    rw [List.map_map] at hsum
    have e1 : (1 : Int) + ((T₁.ks p).map fun e => ((cnt dom (p ++ [e.1]) : Nat) : Int)).sum = ((cnt dom p : Nat) : Int) := by
      rw [show ((T₁.ks p).map fun e => ((cnt dom (p ++ [e.1]) : Nat) : Int)) = (T₁.ks p).map ((fun a : Nat => (a : Int)) ∘ fun e => cnt dom (p ++ [e.1])) from rfl, hsum, hct]; omega
    rw [e1]
    exact kk _ _ _ kF (News.sub kN fun q hq => .tail _ (.tail _ hq))
theorem nodes_does {w : World} {G : GG} {base : Heap} {Rn : Addr} {T₁ : Tr} {dom : List Path} (hlen : ∀ q ∈ dom, q.length ≤ 5) : ∀ k, Nods w G base Rn T₁ dom k
  | 0 => by
    intro p x S fz hpk hS H hp
    have := hlen p ((H.mem p).mpr (by rw [hp]; rfl))
    omega
  | k + 1 => nodes_step (nodes_does hlen k)
end Mine
end

section
open PySem PySem.W PyProof.Rows
theorem Mine.clrNod (prog : Program) (w : World) (A : Around) (env : Env) (pos : Pos) (s : Shared) : True := by
  w_top off
  first
  | (have : wpAny (model prog w) A (PySem.eval (.Constant (.int 0) 0 pos) env) (fun _ _ => True) (fun _ _ => True) s := by (walk1; fail "x")); trivial
  | trivial
end

section
open PySem PySem.W PyProof.Rows PySem.Calls Builtin
set_option maxRecDepth 100000
set_option maxHeartbeats 1000000
namespace Mine
noncomputable def outR (dom : List Path) : Nat → Path → PySem.Str → List PySem.Str
  | 0, _, _ => []
  | k + 1, p, hd => (if p ++ [eS] ∈ dom then [hd] else []) ++ ((if p ++ [aS] ∈ dom then outR dom k (p ++ [aS]) (hd ++ aS) else []) ++ (if p ++ [bS] ∈ dom then outR dom k (p ++ [bS]) (hd ++ bS) else []))
noncomputable def outL (dom : List Path) (k : Nat) (p : Path) (hd : PySem.Str) (c : PySem.Str) : List PySem.Str := if c = eS then [hd] else outR dom k (p ++ [c]) (hd ++ c)
theorem outR_len (dom : List Path) : ∀ k p hd, (outR dom k p hd).length ≤ 3 ^ k
  | 0, _, _ => by simp [outR]
  | k + 1, p, hd => by
    have h1 := outR_len dom k (p ++ [aS]) (hd ++ aS)
    have h2 := outR_len dom k (p ++ [bS]) (hd ++ bS)
    have h3 : 1 ≤ 3 ^ k := Nat.one_le_pow _ _ (by omega)
    unfold outR
    rw [List.length_append, List.length_append, Nat.pow_succ]
    have e1 : (if p ++ [eS] ∈ dom then [hd] else []).length ≤ 1 := by split <;> simp
    have e2 : (if p ++ [aS] ∈ dom then outR dom k (p ++ [aS]) (hd ++ aS) else []).length ≤ 3 ^ k := by split; exact h1; simp
    have e3 : (if p ++ [bS] ∈ dom then outR dom k (p ++ [bS]) (hd ++ bS) else []).length ≤ 3 ^ k := by split; exact h2; simp
    omega
theorem outL_len (dom : List Path) (k : Nat) (p : Path) (hd c : PySem.Str) : (outL dom k p hd c).length ≤ 3 ^ k := by
  unfold outL
  split
  · exact Nat.one_le_pow _ _ (by omega)
  · exact outR_len ..
theorem flat_len {α β : Type} (f : α → List β) (B : Nat) (h : ∀ a, (f a).length ≤ B) : ∀ l : List α, (l.flatMap f).length ≤ l.length * B
  | [] => by simp
  | a :: l => by
    have := flat_len f B h l; have := h a
    rw [List.flatMap_cons, List.length_append, List.length_cons, Nat.succ_mul]; omega
theorem sorted_flat (g : PySem.Str → List PySem.Str) (ss : List PySem.Str) (hn : ss.Nodup) (hl : ∀ c ∈ ss, Letter c) (hs : sortedS ss = true) :
    ss.flatMap g = (if eS ∈ ss then g eS else []) ++ ((if aS ∈ ss then g aS else []) ++ (if bS ∈ ss then g bS else [])) := by
  have h3 := letters3 hn hl
  match ss, hn, hl, hs, h3 with
  | [], _, _, _, _ => simp
  | [a], _, hl, _, _ => rcases hl a (by simp) with rfl | rfl | rfl <;> simp
  | [a, b], hn, hl, hs, _ => rcases hl a (by simp) with rfl | rfl | rfl <;> rcases hl b (by simp) with rfl | rfl | rfl <;> first | exact absurd hn (by decide) | exact absurd hs (by decide) | simp
  | [a, b, c], hn, hl, hs, _ => rcases hl a (by simp) with rfl | rfl | rfl <;> rcases hl b (by simp) with rfl | rfl | rfl <;> rcases hl c (by simp) with rfl | rfl | rfl <;> first | exact absurd hn (by decide) | exact absurd hs (by decide) | simp
  | _ :: _ :: _ :: _ :: _, _, _, _, h3 => simp at h3
theorem mem_kid {l : List (PySem.Str × Tok × Addr)} {k : PySem.Str} (h : k ∈ l.map (·.1)) : (kid l k).isSome = true := by
  obtain ⟨e, he, rfl⟩ := List.mem_map.mp h
  unfold kid
  rw [Option.isSome_map, List.find?_isSome]
  exact ⟨e, he, by simp⟩
theorem Lay.keys {w : World} {Rn : Addr} {l : Led} {T : Tr} {dom : List Path} {fz : Path → Bool} (H : Lay w Rn l T dom fz) {p : Path} {x : Addr} (hp : T.at_ p = some x) (c : PySem.Str) : c ∈ (T.ks p).map (·.1) ↔ p ++ [c] ∈ dom := by
  rw [H.mem, ← H.kd p x c hp]
  exact ⟨mem_kid, kid_mem⟩
structure KeysOk (dom : List Path) (p : Path) (ss : List PySem.Str) : Prop where
  mem : ∀ c, c ∈ ss ↔ p ++ [c] ∈ dom
  nd : ss.Nodup
  lt : ∀ c ∈ ss, Letter c
  len : ss.length ≤ 3
theorem Lay.sorted {w : World} {Rn : Addr} {l : Led} {T : Tr} {dom : List Path} {fz : Path → Bool} (H : Lay w Rn l T dom fz) {p : Path} {x : Addr} (hp : T.at_ p = some x) {ss : List PySem.Str} (hperm : ss.Perm ((T.ks p).map (·.1))) : KeysOk dom p ss := by
  have nd : ss.Nodup := hperm.nodup_iff.mpr (H.kn p x hp)
  have lt : ∀ c ∈ ss, Letter c := fun c hc => by
    obtain ⟨e, he, rfl⟩ := List.mem_map.mp (hperm.mem_iff.mp hc)
    exact H.kl p x hp e he
  exact ⟨fun c => (hperm.mem_iff).trans (H.keys hp c), nd, lt, letters3 nd lt⟩
theorem outR_eq {dom : List Path} {k : Nat} {p : Path} {u : PySem.Str} {ss : List PySem.Str} (K : KeysOk dom p ss) (hs : sortedS ss = true) : ss.flatMap (outL dom k p u) = outR dom (k + 1) p u := by
  rw [sorted_flat _ ss K.nd K.lt hs, outR]
  simp only [K.mem]
  rfl
theorem strsAre_get : ∀ {vs : List Value} {ss : List PySem.Str} {i : Nat} {v : Value}, StrsAre vs ss → vs[i]? = some v → ∃ c t, v = .str c t ∧ ss[i]? = some c
  | _, _, _, _, .nil, h => by simp at h
  | _, _, 0, v, .cons y t _, h => ⟨y, t, by simpa using h.symm, rfl⟩
  | _, _, i + 1, v, .cons y t r, h => by
    rw [List.getElem?_cons_succ] at h
    obtain ⟨c, t', a, b⟩ := strsAre_get r h
    exact ⟨c, t', a, by rw [List.getElem?_cons_succ]; exact b⟩
theorem strsAre_app : ∀ {vs vs' : List Value} {ss ss' : List PySem.Str}, StrsAre vs ss → StrsAre vs' ss' → StrsAre (vs ++ vs') (ss ++ ss')
  | _, _, _, _, .nil, h => h
  | _, _, _, _, .cons y t r, h => .cons y t (strsAre_app r h)
end Mine
end

section
open PySem PySem.W PyProof.Rows PySem.Calls Builtin
set_option maxRecDepth 100000
set_option maxHeartbeats 400000
namespace Mine
section
variable {prog : Program} {w : World} {P : Params} {A : Around} {h : Heap} {g : Array GenState} {d : Drawn} {t : Nat} {os : OsState} {E : Value → Shared → Prop}
theorem lk_con (X : (hd.heap_39 P).In h) : Looks (model prog w) h (typeLookup (.ref 58) "__contains__") (some (.builtin "dict.__contains__")) := looks_findIn X (by kernel_rfl)
theorem lk_bindcon (X : (hd.heap_39 P).In h) (v : Value) : Looks (model prog w) h (bindSpecial (.builtin "dict.__contains__") v) (.builtin "dict.__contains__", [v]) := Looks.of_peek X (by kernel_rfl)
theorem args_dcon (a b : Value) : argsOk "dict.__contains__" ⟨[a, b], []⟩ := by unfold argsOk; kernel_rfl
theorem entry_dcon' : entryFor table "dict.__contains__" = some Builtin.«dict.__contains__» := entryFor_of_tree (by kernel_rfl)
theorem fdd_notIn (X : (hd.heap_39 P).In h) {l : List (Str × Tok × Addr)} {x dx : Addr} {ep : Nat} {f : Value} {k : Str} {tk : Tok} {Q : Value → Shared → Prop} (hx : h.get? x = some (fdd dx (ents w l).toArray ep f)) (hx1 : (x == sysModules) = false)
    (hQ : ∀ t', Q (.bool (!(kid l k).isSome)) ⟨h, g, d, t', os⟩) : wpAny (model prog w) A (compareOp .NotIn (.str k tk) (.ref x)) Q E ⟨h, g, d, t, os⟩ := by
  have L0 := ty58 (prog := prog) (w := w) hx rfl
  have L1 := lk_con (prog := prog) (w := w) X
  have L2 := lk_bindcon (prog := prog) (w := w) X (.ref x)
  have L3 := lk_subdict (prog := prog) (w := w) X
  have L4 : Looks (model prog w) h (isInstance (.ref x) (.type "dict")) true := L0.andThen (f := fun t => isSubtype t (.type "dict")) L3
  have hC := X 58 _ rfl
  show wpAny _ _ (do return .bool (!(← contains (.ref x) (.str k tk)))) Q E _
  unfold contains
  repeat (first | with_reducible refine wpAny_attempt ?_ | with_reducible refine wpAny_call ?_ | lk)
  refine codeAny_call_builtin_at (Code.quiet_builtin _ (by decide +kernel)) entry_dcon' (@check_meth _ _ (model prog w) _ "dict.__contains__" "dict" "__contains__" (.ref x) _ [] _ (by decide +kernel) (by decide +kernel) L4 (args_dcon _ _) ?_)
  unfold Builtin.«dict.__contains__»
  repeat (first | with_reducible refine dget hx rfl ?_ | with_reducible refine wpAny_attempt ?_ | with_reducible refine wpAny_call ?_ | lk)
  cases hk : kid l k with
  | some y =>
    rw [hk] at hQ
    repeat (first | with_reducible refine wpAny_truthy_bool ?_ | exact hQ _ | lk)
  | none =>
    rw [hk] at hQ
    repeat (first | with_reducible refine wpAny_pendingKey_other hx1 ?_ | with_reducible refine wpAny_truthy_bool ?_ | exact hQ _ | lk)
end
end Mine
end

section
open PySem PySem.W PyProof.Rows PySem.Calls Builtin LCg
set_option maxRecDepth 100000
set_option maxHeartbeats 1000000
set_option pp.deepTerms false
set_option pp.deepTerms.threshold 6
namespace Mine
local macro_rules | `(tactic| k_all) => `(tactic| assumption)
local macro_rules | `(tactic| walk_at "eval Name") => `(tactic| (k_here; k_dflt (refine' ld ?k1 ?k2 ?_; (case k1 => k_asm); (case k2 => with_unfolding_all assumption); k_whole)))
noncomputable def Rea (w : World) (G : GG) (base : Heap) (Rn : Addr) (T : Tr) (dom : List Path) (k : Nat) : Prop :=
  ∀ (p : Path) (x : Addr) (S : St) (fz : Path → Bool) (u : PySem.Str) (tu : Tok), p.length + k = 6 → u.cps.size ≤ 10 + p.length → S.Ok Rn → Lay w Rn S.objs T dom fz → T.at_ p = some x →
  ∀ (A : Around) (L : Addr) (h₀ : Heap) (m : PySem.Str → Option Value) (mine : Led) (s : Shared) (R : Result → Shared → Prop),
    Sit w G A L base h₀ → A.depth + 30 * k + 30 < recursionLimit → A.units + 300 * k + 300 < cLine → Fr h₀ L s.heap m → News h₀ L s.heap (mine ++ S.led Rn) → Off mine (S.led Rn) →
    (∀ D vs n h' tk', Fr h₀ L h' m → News h₀ L h' ((D, W.listOf vs.toArray n) :: (mine ++ S.led Rn)) → (∀ q ∈ mine ++ S.led Rn, q.1 ≠ D) → StrsAre vs (outR dom k p u) → R (.ok (.ret (.ref D))) { s with heap := h', toks := tk' }) →
    codeAny (model Challenge.rw_in0102_01.row.prog w) A (.call (.ref 102) ⟨[.ref x, .str u tu], []⟩) R s
noncomputable def ReaJ (dom : List Path) (k : Nat) (p : Path) (u : PySem.Str) (tu : Tok) (x Wd sD : Addr) (os : Obj) (ss : List PySem.Str) (cl : Led) (i : Nat) (m' : PySem.Str → Option Value) (nx : Led) : Prop :=
  ∃ vs n, nx = (Wd, W.listOf vs.toArray n) :: (sD, os) :: cl ∧ StrsAre vs ((ss.take i).flatMap (outL dom k p u)) ∧ m' (Str.ofString "words") = some (.ref Wd) ∧ m' (Str.ofString "head") = some (.str u tu) ∧ m' (Str.ofString "tree") = some (.ref x)
theorem read_step {w : World} {G : GG} {base : Heap} {Rn : Addr} {T₁ : Tr} {dom : List Path} {k : Nat} (ih : Rea w G base Rn T₁ dom k) : Rea w G base Rn T₁ dom (k + 1) := by
  intro p x S fz u tu hpk hul hS H hp A L h₀ m mine s R Si hd hu F N O kk
  obtain ⟨env, outer, A₀, B, hA, hf, hke⟩ := Si.fr
  have X := Si.X
  have T := Si.T
  have hh := Si.hh
  have C1 := Si.C1
  have C2 := Si.C2
  obtain ⟨hd9, dp, fr, gd, un⟩ := A
  dsimp only at hA hh hd hu
  subst hA hh
  revert X; k_fill; intro X
  k_dflt (refine' code_def ?k1 ?k2 ?k3 ?k4 ?k5 ?kA ?kF ?kK ?k6 ?k7 ?k8 ?k9 ?kB ?_ ?c2 ?c3 ?c4 ?c5; (case kA => exact rfl); (case kF => assumption); (case kK => assumption); (case k1 => k_asm); (case k2 => k_asm); (case k3 => k_asm); (case k4 => k_asm); (case k5 => k_asm); (case k6 => k_is); (case k7 => k_is); (case k8 => ((try dsimp only); exact limk0 hd)); (case k9 => exact BindsTo.of_eq rfl); (case c5 => decide); (case kB => exact locs rfl); (case c2 => exact rfl); (case c3 => exact rfl); (case c4 => exact rfl); k_whole; intro g' L' h' FG' F' N' B' X' T'; (try dsimp only); (try k_fold))
  iterate 9 walk1
  rename Fr g' L' _ _ => F2; rename News g' L' _ _ => N2
  rename_i Wd hW lW tW
  refine For_invV g' rfl rfl ?_
  k_steps
  obtain ⟨dx, ep, f, hx, hxd⟩ := NodeAt.has (H.node p x hp)
  have hsys : (x == sysModules) = false := by
    have := hS.big _ hx
    dsimp only at this
    rw [beq_eq_false_iff_ne]
    exact fun e => by rw [e] at this; exact absurd this (by decide)
  have hl3 : (T₁.ks p).length ≤ 3 := by
    have h3 := letters3 (H.kn p x hp) (fun k hk => by obtain ⟨e, he, rfl⟩ := List.mem_map.mp hk; exact H.kl p x hp e he)
    rwa [List.length_map] at h3
  refine fdd_sorted rfl X' F2 N2 (.tail _ (List.mem_append_right _ (.tail _ (.tail _ (.tail _ hx))))) hsys hl3 ?_
  intro sD h3 t3 vs ss e F3 N3 lS hss hperm hsort
  have KO := H.sorted hp hperm
  refine iter_list (ReaJ dom k p u tu x Wd sD (W.listOf vs.toArray e) ss (mine ++ S.led Rn)) rfl F3 (News.sub N3 (b := (Wd, W.listOf #[] 0) :: (sD, W.listOf vs.toArray e) :: (mine ++ S.led Rn)) (by intro q hq; simp only [List.mem_cons] at hq ⊢; grind)) (.tail _ (.head _)) (fun i m' nx h => by obtain ⟨vs', n', rfl, _⟩ := h; exact .tail _ (.head _)) ⟨[], 0, rfl, .nil, rfl, rfl, rfl⟩ ?_ ?_
  · rintro i v m₁ nx h4 tk4 I oI hv ⟨vs', n', rfl, hvs, hw1, hw2, hw3⟩ hoff F4 N4
    obtain ⟨c, t, rfl, hc⟩ := strsAre_get hss (by rw [List.getElem?_toArray] at hv; exact hv)
    have hcs : c ∈ ss := List.mem_of_getElem? hc
    have hLc : Letter c := KO.lt c hcs
    have hpc : p ++ [c] ∈ dom := (KO.mem c).mp hcs
    have hvl : vs'.length ≤ 3 * 3 ^ k := by
      rw [hvs.length]
      refine Nat.le_trans (flat_len _ _ (outL_len dom k p u) _) (Nat.mul_le_mul_right _ ?_)
      have := KO.len
      rw [List.length_take]; exact min3 KO.len
    have h3k : 3 ^ k ≤ 729 := Nat.le_trans (Nat.pow_le_pow_right (by decide) (om_k6 hpk)) (by decide)
    have hsl : 4000 ≤ sizeLine := by decide +kernel
    have step : (ss.take (i + 1)).flatMap (outL dom k p u) = (ss.take i).flatMap (outL dom k p u) ++ outL dom k p u c := by
      rw [List.take_add_one, hc, Option.toList_some, List.flatMap_append]; simp
    k_steps
    · rename_i hce
      have hce : c = eS := (eq_of_beq hce).trans (by decide +kernel)
      subst hce
      refine append_at (hsz := by rw [List.size_toArray]; exact om_v3 hvl h3k hsl) (N4 _ (.tail _ (.head _))).1 fun h5 hs5 hW5 => ?_
      rw [List.push_toArray] at hW5
      have F5 := Fr.upd F4 N4 (.tail _ (.head _)) hs5
      have N5 := News.upd N4 (.tail _ (.head _)) hs5 hW5
      k_steps
      refine (show TurnEnd _ _ _ _ _ _ _ from ⟨_, _, _, (Wd, W.listOf (vs' ++ [Value.str u tu]).toArray (n' + 1)) :: (sD, W.listOf vs.toArray e) :: (mine ++ S.led Rn), rfl, F5, News.sub N5 ?_, ?_, vs' ++ [Value.str u tu], n' + 1, rfl, ?_, hw1, hw2, hw3⟩)
      · intro q hq
        rcases List.mem_cons.mp hq with rfl | hq
        · exact mem_upd_ne (.head _) (hoff (Wd, W.listOf vs'.toArray n') (.head _)).symm
        rcases List.mem_cons.mp hq with rfl | hq
        · exact mem_upd_self (.tail _ (.head _))
        · refine mem_upd_ne (.tail _ (.tail _ hq)) ?_
          rcases List.mem_cons.mp hq with rfl | hq
          · exact Nat.ne_of_gt (lS _ (.head _))
          · exact Nat.ne_of_lt (lW _ hq)
      · intro q hq
        rcases List.mem_cons.mp hq with rfl | hq
        · exact hoff (Wd, W.listOf vs'.toArray n') (.head _)
        · exact hoff _ (.tail _ hq)
      · rw [step, outL, if_pos rfl]; exact strsAre_app hvs (.cons u tu .nil)
    · rename_i hce tk5
      have hcne : ¬ c = eS := fun h => by rw [h] at tk5; exact absurd tk5 (by decide +kernel)
      have hpe : (T₁.at_ (p ++ [c])).isSome = true := (H.mem _).mp hpc
      obtain ⟨y, hpe⟩ := Option.isSome_iff_exists.mp hpe
      refine sub_hit (mine := (I, oI) :: (Wd, W.listOf vs'.toArray n') :: (sD, W.listOf vs.toArray e) :: mine) H hp hpe X' F4 N4 ?_
      k_steps
      have hc1 : c.length ≤ 1 := by rcases hLc with rfl | rfl | rfl <;> decide
      have hu1 : u.length ≤ 20 := om_u20 hpk hul
      refine KXadd.add (K := 20) (L := 1) hu1 hc1 (by decide) fun t6 k6 hk6 => ?_
      k_steps
      have O6 : Off ((I, oI) :: (Wd, W.listOf vs'.toArray n') :: (sD, W.listOf vs.toArray e) :: mine) (S.led Rn) := by
        intro q hq r hr
        rcases List.mem_cons.mp hq with rfl | hq
        · exact (hoff r (.tail _ (.tail _ (List.mem_append_right _ hr)))).symm
        rcases List.mem_cons.mp hq with rfl | hq
        · exact Nat.ne_of_gt (lW r (List.mem_append_right _ hr))
        rcases List.mem_cons.mp hq with rfl | hq
        · exact Nat.ne_of_gt (lS r (.tail _ (List.mem_append_right _ hr)))
        exact O q hq r hr
      refine wpAny_call (ih (p ++ [c]) y S fz (u ++ c) t6 (by rw [List.length_append, List.length_singleton]; exact om_k6' hpk) (by rw [PySem.Str.cps_append, Array.size_append, List.length_append, List.length_singleton]; exact om_u1 hul hc1) hS H hpe _ L' g' _ ((I, oI) :: (Wd, W.listOf vs'.toArray n') :: (sD, W.listOf vs.toArray e) :: mine) _ _ ⟨⟨_, _, _, B', rfl, rfl, rfl⟩, X', T', rfl, C1, C2⟩ (by dsimp only [Around.deeper]; exact limk' hd (by decide)) (by dsimp only [Around.deeper]; exact limk' hu (by decide)) F4 N4 O6 ?_)
      intro D6 vs6 n6 h6 tk6 F6 N6 nD hv6
      dsimp only
      k_steps
      have hv6l : vs6.length ≤ 3 ^ k := by rw [hv6.length]; exact outR_len ..
      refine extend_in (own := [(D6, W.listOf vs6.toArray n6), (I, oI)]) (D := Wd) (ys := vs') (n := n') (rest := (sD, W.listOf vs.toArray e) :: (mine ++ S.led Rn)) (b := D6) (its2 := vs6.toArray) (n2 := n6) F6 N6 ?_ ?_ (N6 _ (.head _)).1 ?_ (by rw [List.size_toArray]; exact om_v4 hvl h3k hsl hv6l)
      · intro q hq
        rcases List.mem_cons.mp hq with rfl | hq
        · exact (nD _ (.tail _ (.head _))).symm
        · rw [List.mem_singleton.mp hq]; exact (hoff _ (.head _)).symm
      · intro q hq
        rcases List.mem_cons.mp hq with rfl | hq
        · exact Nat.ne_of_gt (lS _ (.head _))
        · exact Nat.ne_of_lt (lW _ hq)
      intro h7 n7 F7 N7
      k_steps
      refine (show TurnEnd _ _ _ _ _ _ _ from ⟨_, _, _, (Wd, W.listOf (vs' ++ vs6.toArray.toList).toArray n7) :: (sD, W.listOf vs.toArray e) :: (mine ++ S.led Rn), rfl, F7, News.sub N7 (fun q hq => .tail _ hq), ?_, vs' ++ vs6.toArray.toList, n7, rfl, ?_, hw1, hw2, hw3⟩)
      · intro q hq
        rcases List.mem_cons.mp hq with rfl | hq
        · exact hoff (Wd, W.listOf vs'.toArray n') (.head _)
        · exact hoff _ (.tail _ hq)
      · rw [step, outL, if_neg hcne]; exact strsAre_app hvs hv6
  · rintro m₁ nx h4 tk4 ⟨vs', n', rfl, hvs, hw1, hw2, hw3⟩ F4 N4
    have hsz : ss.length = vs.length := hss.length.symm
    rw [List.size_toArray, ← hsz, List.take_length, outR_eq KO hsort] at hvs
    k_steps
    rename_i kF kN Tc kX
    refine kk Wd vs' n' h4 _ kF (News.sub kN ?_) (fun q hq => Nat.ne_of_lt (lW q hq)) hvs
    intro q hq
    rcases List.mem_cons.mp hq with rfl | hq
    · exact .head _
    · exact .tail _ (.tail _ hq)
theorem read_does {w : World} {G : GG} {base : Heap} {Rn : Addr} {T₁ : Tr} {dom : List Path} (hlen : ∀ q ∈ dom, q.length ≤ 5) : ∀ k, Rea w G base Rn T₁ dom k
  | 0 => by
    intro p x S fz u tu hpk _ hS H hp
    exact (om_no hpk (hlen p ((H.mem p).mpr (by rw [hp]; rfl)))).elim
  | k + 1 => read_step (read_does hlen k)
end Mine
end

section
open PySem PySem.W PyProof.Rows
theorem Mine.clrRead (prog : Program) (w : World) (A : Around) (env : Env) (pos : Pos) (s : Shared) : True := by
  w_top off
  first
  | (have : wpAny (model prog w) A (PySem.eval (.Constant (.int 0) 0 pos) env) (fun _ _ => True) (fun _ _ => True) s := by (walk1; fail "x")); trivial
  | trivial
end

section
open PySem PySem.W PyProof.Rows PySem.Calls Builtin
set_option maxRecDepth 100000
set_option maxHeartbeats 1000000
namespace Mine
noncomputable def outB (domT domU : List Path) : Nat → Path → PySem.Str → List PySem.Str
  | 0, _, _ => []
  | k + 1, p, hd => (if p ++ [eS] ∈ domT then (if p ++ [eS] ∈ domU then [] else [hd]) else []) ++ ((if p ++ [aS] ∈ domT then outB domT domU k (p ++ [aS]) (hd ++ aS) else []) ++ (if p ++ [bS] ∈ domT then outB domT domU k (p ++ [bS]) (hd ++ bS) else []))
noncomputable def outBL (domT domU : List Path) (k : Nat) (p : Path) (hd : PySem.Str) (c : PySem.Str) : List PySem.Str := if c = eS then (if p ++ [eS] ∈ domU then [] else [hd]) else outB domT domU k (p ++ [c]) (hd ++ c)
noncomputable def cB (domT domU : List Path) : Nat → Path → Nat
  | 0, _ => 0
  | k + 1, p => (if p ++ [aS] ∈ domT then (if p ++ [aS] ∈ domU then 0 else 1) + cB domT domU k (p ++ [aS]) else 0) + (if p ++ [bS] ∈ domT then (if p ++ [bS] ∈ domU then 0 else 1) + cB domT domU k (p ++ [bS]) else 0)
noncomputable def cBL (domT domU : List Path) (k : Nat) (p : Path) (c : PySem.Str) : Nat := if c = eS then 0 else (if p ++ [c] ∈ domU then 0 else 1) + cB domT domU k (p ++ [c])
theorem outB_len (domT domU : List Path) : ∀ k p hd, (outB domT domU k p hd).length ≤ 3 ^ k
  | 0, _, _ => by simp [outB]
  | k + 1, p, hd => by
    have h1 := outB_len domT domU k (p ++ [aS]) (hd ++ aS)
    have h2 := outB_len domT domU k (p ++ [bS]) (hd ++ bS)
    have h3 : 1 ≤ 3 ^ k := Nat.one_le_pow _ _ (by omega)
    unfold outB
    rw [List.length_append, List.length_append, Nat.pow_succ]
    have e1 : (if p ++ [eS] ∈ domT then (if p ++ [eS] ∈ domU then [] else [hd]) else []).length ≤ 1 := by split <;> (try split) <;> simp
    have e2 : (if p ++ [aS] ∈ domT then outB domT domU k (p ++ [aS]) (hd ++ aS) else []).length ≤ 3 ^ k := by split; exact h1; simp
    have e3 : (if p ++ [bS] ∈ domT then outB domT domU k (p ++ [bS]) (hd ++ bS) else []).length ≤ 3 ^ k := by split; exact h2; simp
    omega
theorem outBL_len (domT domU : List Path) (k : Nat) (p : Path) (hd c : PySem.Str) : (outBL domT domU k p hd c).length ≤ 3 ^ k := by
  have h3 : 1 ≤ 3 ^ k := Nat.one_le_pow _ _ (by omega)
  unfold outBL
  split
  · split <;> simp; exact h3
  · exact outB_len ..
theorem outB_eq {domT domU : List Path} {k : Nat} {p : Path} {u : PySem.Str} {ss : List PySem.Str} (K : KeysOk domT p ss) (hs : sortedS ss = true) : ss.flatMap (outBL domT domU k p u) = outB domT domU (k + 1) p u := by
  rw [sorted_flat _ ss K.nd K.lt hs, outB]
  simp only [K.mem]
  rfl
theorem sorted_sum (g : PySem.Str → Nat) (ss : List PySem.Str) (hn : ss.Nodup) (hl : ∀ c ∈ ss, Letter c) (hs : sortedS ss = true) :
    sumN (ss.map g) = (if eS ∈ ss then g eS else 0) + ((if aS ∈ ss then g aS else 0) + (if bS ∈ ss then g bS else 0)) := by
  have h3 := letters3 hn hl
  match ss, hn, hl, hs, h3 with
  | [], _, _, _, _ => simp [sumN]
  | [a], _, hl, _, _ => rcases hl a (by simp) with rfl | rfl | rfl <;> simp [sumN]
  | [a, b], hn, hl, hs, _ => rcases hl a (by simp) with rfl | rfl | rfl <;> rcases hl b (by simp) with rfl | rfl | rfl <;> first | exact absurd hn (by decide) | exact absurd hs (by decide) | simp [sumN]
  | [a, b, c], hn, hl, hs, _ => rcases hl a (by simp) with rfl | rfl | rfl <;> rcases hl b (by simp) with rfl | rfl | rfl <;> rcases hl c (by simp) with rfl | rfl | rfl <;> first | exact absurd hn (by decide) | exact absurd hs (by decide) | simp [sumN]
  | _ :: _ :: _ :: _ :: _, _, _, _, h3 => simp at h3
theorem cB_eq {domT domU : List Path} {k : Nat} {p : Path} {ss : List PySem.Str} (K : KeysOk domT p ss) (hs : sortedS ss = true) : sumN (ss.map (cBL domT domU k p)) = cB domT domU (k + 1) p := by
  rw [sorted_sum _ ss K.nd K.lt hs, cB]
  simp only [K.mem]
  have e : (if p ++ [eS] ∈ domT then cBL domT domU k p eS else 0) = 0 := by split <;> rfl
  rw [e, Nat.zero_add]
  rfl
theorem cB_len (domT domU : List Path) : ∀ k p, cB domT domU k p + 2 ≤ 2 ^ (k + 1)
  | 0, _ => by simp [cB]
  | k + 1, p => by
    have h1 := cB_len domT domU k (p ++ [aS])
    have h2 := cB_len domT domU k (p ++ [bS])
    unfold cB
    rw [Nat.pow_succ 2 (k + 1)]
    have e1 : (if p ++ [aS] ∈ domT then (if p ++ [aS] ∈ domU then 0 else 1) + cB domT domU k (p ++ [aS]) else 0) ≤ 1 + cB domT domU k (p ++ [aS]) := by split <;> (try split) <;> omega
    have e2 : (if p ++ [bS] ∈ domT then (if p ++ [bS] ∈ domU then 0 else 1) + cB domT domU k (p ++ [bS]) else 0) ≤ 1 + cB domT domU k (p ++ [bS]) := by split <;> (try split) <;> omega
    omega
/-- the other side at a path: a node of the other tree, or a new, empty one -/
noncomputable def Other (w : World) (Rn : Addr) (l : Led) (T U : Tr) (domU : List Path) (p : Path) (o : Addr) : Prop :=
  U.at_ p = some o ∨ (p ∉ domU ∧ NodeAt w Rn l o [] ∧ (∀ q, U.at_ q ≠ some o) ∧ ∀ q, T.at_ q ≠ some o)
/-- the other side in the loop -/
noncomputable def OthJ (w : World) (Rn : Addr) (l : Led) (T U : Tr) (domU : List Path) (p : Path) (o : Addr) (ks : List PySem.Str) : Prop :=
  U.at_ p = some o ∨ (p ∉ domU ∧ (∃ ks', NodeAt w Rn l o ks' ∧ (∀ e ∈ ks', e.1 ∈ ks) ∧ ks'.length ≤ ks.length) ∧ (∀ q, U.at_ q ≠ some o) ∧ ∀ q, T.at_ q ≠ some o)
structure OStep (w : World) (Rn : Addr) (S S' : St) (T U : Tr) (domT domU : List Path) (fT : Path → Bool) (p : Path) (o : Addr) (ks : List PySem.Str) (c : PySem.Str) (y : Addr) : Prop where
  ok : S'.Ok Rn
  layT : Lay w Rn S'.objs T domT fT
  layU : Lay w Rn S'.objs U domU (fun _ => true)
  other : Other w Rn S'.objs T U domU (p ++ [c]) y
  its : S'.its.size = S.its.size + (if p ++ [c] ∈ domU then 0 else 1)
  old : ∀ q ∈ S.objs, (q.1 ≠ o ∨ U.at_ p = some o) → q ∈ S'.objs
  new : U.at_ (p ++ [c]) = some y ∨ ∀ q ∈ S.objs, q.1 ≠ y
  j : OthJ w Rn S'.objs T U domU p o (ks ++ [c])
theorem OthJ.more {w : World} {Rn : Addr} {l : Led} {T U : Tr} {domU : List Path} {p : Path} {o : Addr} {ks : List PySem.Str} {c : PySem.Str} (h : OthJ w Rn l T U domU p o ks) : OthJ w Rn l T U domU p o (ks ++ [c]) := by
  rcases h with h | ⟨a, ⟨ks', b, d, e⟩, f⟩
  · exact .inl h
  · exact .inr ⟨a, ⟨ks', b, fun x hx => List.mem_append_left _ (d x hx), by rw [List.length_append]; omega⟩, f⟩
theorem not_node_new {w : World} {Rn : Addr} {S : St} {T : Tr} {dom : List Path} {fz : Path → Bool} {y : Addr} (H : Lay w Rn S.objs T dom fz) (hn : ∀ p ∈ S.objs, p.1 ≠ y) : ∀ q, T.at_ q ≠ some y := by
  intro q hq
  obtain ⟨_, _, _, hz, _⟩ := NodeAt.has (H.node q y hq)
  exact hn _ hz rfl
theorem NewT.nodeAt {w : World} {Rn : Addr} {S S' : St} {y : Addr} (h : NewT w.params Rn S S' y) : NodeAt w Rn S'.objs y [] := by
  obtain ⟨dx, f, o, a, b, c, d, e, _⟩ := h.node
  exact ⟨dx, 0, f, o, a, b, c, d, e⟩
end Mine
end

section
open PySem PySem.W PyProof.Rows PySem.Calls Builtin
set_option maxRecDepth 100000
set_option maxHeartbeats 1000000
namespace Mine
theorem other_step {w : World} {G : GG} {base : Heap} {Rn : Addr} {S : St} {T U : Tr} {domT domU : List Path} {fT : Path → Bool} {p : Path} {o : Addr} {ks : List PySem.Str} {c : PySem.Str} {tk : Tok}
    (hS : S.Ok Rn) (hsz : S.its.size < 100000) (HT : Lay w Rn S.objs T domT fT) (HU : Lay w Rn S.objs U domU (fun _ => true)) (J : OthJ w Rn S.objs T U domU p o ks) (hc : c ∉ ks) (hkl : ks.length ≤ 100)
    {A : Around} {L : Addr} {h₀ : Heap} {m : PySem.Str → Option Value} {mine : Led} {s : Shared} {value slice : Expr} {Q E : Value → Shared → Prop}
    (Si : Sit w G A L base h₀) (hd : A.depth + 20 < recursionLimit) (hu : A.units + 161 < cLine) (F : Fr h₀ L s.heap m) (N : News h₀ L s.heap (mine ++ S.led Rn)) (O : Off mine (S.led Rn))
    (kk : ∀ y S' h' tk', Fr h₀ L h' m → News h₀ L h' (mine ++ S'.led Rn) → Off mine (S'.led Rn) → OStep w Rn S S' T U domT domU fT p o ks c y → Q (.ref y) { s with heap := h', toks := tk' })
    (hs : subscripted slice false (.ref o) (.str c tk) = operate [.ref o, .str c tk] (getItem (.ref o) (.str c tk)) := by with_unfolding_all rfl) (ht : ∀ r, letTemporaryGo value (.ref o) r = pure () := by intro _; with_unfolding_all rfl) :
    wpAny (model Challenge.rw_in0102_01.row.prog w) A (subscriptTail value slice (.ref o) (.str c tk)) Q E s := by
  have X := Si.X.keeps F.keep
  rcases J with hUo | ⟨hpU, ⟨ks', hn, hks, hkl'⟩, nU, nT⟩
  · have hxN := HU.node p o hUo
    obtain ⟨dx, ep, f, hx, hxd⟩ := NodeAt.has hxN
    have mx : (o, fdd dx (ents w (U.ks p)).toArray ep (.ref f)) ∈ mine ++ S.led Rn := List.mem_append_right _ (.tail _ (.tail _ (.tail _ hx)))
    cases hk : U.at_ (p ++ [c]) with
    | some y =>
      have hm : p ++ [c] ∈ domU := (HU.mem _).mpr (by rw [hk]; rfl)
      refine sub_hit HU hUo hk Si.X F N (kk y S s.heap (s.toks + 1) F N O ⟨hS, HT, HU, .inl hk, by rw [if_pos hm]; rfl, fun q h _ => h, .inl hk, .inl hUo⟩) hs ht
    | none =>
      have hm : ¬ p ++ [c] ∈ domU := fun h => by rw [HU.mem, hk] at h; cases h
      have hkn : kid (U.ks p) c = none := (HU.kd p o c hUo).trans hk
      have hsys : (o == sysModules) = false := by
        have := hS.big _ hx
        dsimp only at this
        rw [beq_eq_false_iff_ne]
        exact fun e => by rw [e] at this; exact absurd this (by decide)
      obtain ⟨hh, g, d, t, os⟩ := s
      refine fdd_tail X (N _ mx).1 rfl (getItem_miss X (N _ mx).1 hsys hkn ?_) hs ht
      refine missfz_run (s := ⟨hh, g, d, t + 1, os⟩) hS hsz hxN _ L h₀ m mine _ Si.in hd (by dsimp only [Around.in1]; omega) F N O fun y S' h' tk' F' N' O' W => kk y S' h' tk' F' N' O' ⟨W.ok, HT.mono W.old, HU.mono W.old, ?_, ?_, fun q h _ => W.old q h, .inr W.new, .inl hUo⟩
      · exact .inr ⟨hm, W.nodeAt, not_node_new HU W.new, not_node_new HT W.new⟩
      · rw [if_neg hm]; exact W.its
  · obtain ⟨dx, ep, f, hx, hxd⟩ := NodeAt.has (b := false) hn
    have mx : (o, fdd dx (ents w ks').toArray ep (.ref f)) ∈ mine ++ S.led Rn := List.mem_append_right _ (.tail _ (.tail _ (.tail _ hx)))
    have hm : ¬ p ++ [c] ∈ domU := fun h => by
      rw [HU.mem] at h
      exact hpU ((HU.mem p).mpr (HU.up p c h))
    have hkn : kid ks' c = none := by
      cases h : kid ks' c with
      | none => rfl
      | some y =>
        obtain ⟨e, he, h2⟩ := List.mem_map.mp (kid_mem (l := ks') (k := c) (by rw [h]; rfl))
        exact absurd (h2 ▸ hks e he) hc
    have hsys : (o == sysModules) = false := by
      have := hS.big _ hx
      dsimp only at this
      rw [beq_eq_false_iff_ne]
      exact fun e => by rw [e] at this; exact absurd this (by decide)
    obtain ⟨hh, g, d, t, os⟩ := s
    refine fdd_tail X (N _ mx).1 rfl (getItem_miss X (N _ mx).1 hsys hkn ?_) hs ht
    refine miss_run (s := ⟨hh, g, d, t + 1, os⟩) hS hsz hn hkn (by omega) _ L h₀ m mine _ Si.in (by dsimp only [Around.in1]; omega) (by dsimp only [Around.in1]; omega) F N O fun y S' h' tk' F' N' O' W => ?_
    have HT' := HT.other hS hx W.old nT
    have HU' := HU.other hS hx W.old nU
    refine kk y S' h' tk' F' N' O' ⟨W.ok, HT', HU', ?_, ?_, fun q h h2 => W.old q h ?_, .inr W.new, ?_⟩
    · exact .inr ⟨hm, W.ny, not_node_new HU W.new, not_node_new HT W.new⟩
    · rw [if_neg hm]; exact W.its
    · rcases h2 with h2 | h2
      · exact h2
      · exact absurd h2 (nU p)
    · refine .inr ⟨hpU, ⟨_, W.nx, fun e he => ?_, by rw [List.length_append, List.length_append, List.length_singleton, List.length_singleton]; omega⟩, nU, nT⟩
      rcases List.mem_append.mp he with he | he
      · exact List.mem_append_left _ (hks e he)
      · rw [List.mem_singleton.mp he]; exact List.mem_append_right _ (.head _)
end Mine
end

section
open PySem PySem.W PyProof.Rows PySem.Calls Builtin LCg
set_option maxRecDepth 100000
set_option maxHeartbeats 1000000
set_option pp.deepTerms false
set_option pp.deepTerms.threshold 6
namespace Mine
local macro_rules | `(tactic| k_all) => `(tactic| assumption)
local macro_rules | `(tactic| walk_at "eval Name") => `(tactic| (k_here; k_dflt (refine' ld ?k1 ?k2 ?_; (case k1 => k_asm); (case k2 => with_unfolding_all assumption); k_whole)))
theorem sumN_le {α : Type} (f : α → Nat) (B : Nat) (h : ∀ a, f a ≤ B) : ∀ l : List α, sumN (l.map f) ≤ l.length * B
  | [] => by simp [sumN]
  | a :: l => by
    have := sumN_le f B h l; have := h a
    rw [List.map_cons, sumN_cons, List.length_cons, Nat.succ_mul]; omega
theorem cBL_len (domT domU : List Path) (k : Nat) (p : Path) (c : PySem.Str) : cBL domT domU k p c + 1 ≤ 2 ^ (k + 1) := by
  have := cB_len domT domU k (p ++ [c])
  unfold cBL
  split
  · rw [Nat.zero_add]; exact Nat.le_trans (by decide) (lim_le this)
  · refine Nat.le_trans (Nat.add_le_add_right (Nat.add_le_add_right (?_ : _ ≤ 1) _) 1) (by rw [Nat.add_comm 1]; exact this)
    split <;> decide
theorem bey_lay {w : World} {Rn : Addr} {S S1 : St} {T U V : Tr} {domU dV : List Path} {fV : Path → Bool} {p : Path} {o : Addr} (hS : S.Ok Rn) (HV : Lay w Rn S.objs V dV fV) (hO : Other w Rn S.objs T U domU p o)
    (P : ∀ q ∈ S.objs, (q.1 ≠ o ∨ U.at_ p = some o) → q ∈ S1.objs) (hV : U.at_ p = some o ∨ ∀ q, V.at_ q ≠ some o) : Lay w Rn S1.objs V dV fV := by
  rcases hV with r | hV
  · exact HV.mono fun q h => P q h (.inr r)
  · rcases hO with r | ⟨_, hn, _⟩
    · exact HV.mono fun q h => P q h (.inr r)
    · obtain ⟨dx, ep, f, hx, _⟩ := NodeAt.has (b := false) hn
      exact HV.other hS hx (fun q h hne => P q h (.inl hne)) hV
structure BeyPost (w : World) (Rn : Addr) (S S' : St) (U : Tr) (p : Path) (o : Addr) (n : Nat) : Prop where
  ok : S'.Ok Rn
  old : ∀ q ∈ S.objs, (q.1 ≠ o ∨ U.at_ p = some o) → q ∈ S'.objs
  its : S'.its.size = S.its.size + n
noncomputable def Bey (w : World) (G : GG) (base : Heap) (Rn : Addr) (T U : Tr) (domT domU : List Path) (fT : Path → Bool) (k : Nat) : Prop :=
  ∀ (p : Path) (x o : Addr) (S : St) (u : PySem.Str) (tu : Tok), p.length + k = 6 → u.cps.size ≤ 10 + p.length → S.Ok Rn → S.its.size + 4 ^ (k + 1) < 50000 → Lay w Rn S.objs T domT fT → Lay w Rn S.objs U domU (fun _ => true) → T.at_ p = some x → Other w Rn S.objs T U domU p o →
  ∀ (A : Around) (L : Addr) (h₀ : Heap) (m : PySem.Str → Option Value) (mine : Led) (s : Shared) (R : Result → Shared → Prop),
    Sit w G A L base h₀ → A.depth + 30 * k + 30 < recursionLimit → A.units + 300 * k + 300 < cLine → Fr h₀ L s.heap m → News h₀ L s.heap (mine ++ S.led Rn) → Off mine (S.led Rn) →
    (∀ D vs n S' h' tk', Fr h₀ L h' m → News h₀ L h' ((D, W.listOf vs.toArray n) :: (mine ++ S'.led Rn)) → (∀ q ∈ mine ++ S'.led Rn, q.1 ≠ D) → Off mine (S'.led Rn) → StrsAre vs (outB domT domU k p u) → BeyPost w Rn S S' U p o (cB domT domU k p) → R (.ok (.ret (.ref D))) { s with heap := h', toks := tk' }) →
    codeAny (model Challenge.rw_in0102_01.row.prog w) A (.call (.ref 109) ⟨[.ref x, .ref o, .str u tu], []⟩) R s
noncomputable def BeyJ (w : World) (Rn : Addr) (S : St) (T U : Tr) (domT domU : List Path) (k : Nat) (p : Path) (u : PySem.Str) (tu : Tok) (x o Wd sD : Addr) (os : Obj) (ss : List PySem.Str) (mine : Led) (i : Nat) (m' : PySem.Str → Option Value) (nx : Led) : Prop :=
  ∃ vs n S1, nx = (Wd, W.listOf vs.toArray n) :: (sD, os) :: (mine ++ S1.led Rn) ∧ StrsAre vs ((ss.take i).flatMap (outBL domT domU k p u)) ∧ m' (Str.ofString "words") = some (.ref Wd) ∧ m' (Str.ofString "head") = some (.str u tu) ∧ m' (Str.ofString "tree") = some (.ref x) ∧ m' (Str.ofString "other") = some (.ref o) ∧
    Off ((Wd, W.listOf vs.toArray n) :: (sD, os) :: mine) (S1.led Rn) ∧ BeyPost w Rn S S1 U p o (sumN ((ss.take i).map (cBL domT domU k p))) ∧ OthJ w Rn S1.objs T U domU p o (ss.take i)
theorem bey_step {w : World} {G : GG} {base : Heap} {Rn : Addr} {T₁ U : Tr} {domT domU : List Path} {fT : Path → Bool} {k : Nat} (ih : Bey w G base Rn T₁ U domT domU fT k) : Bey w G base Rn T₁ U domT domU fT (k + 1) := by
  intro p x o S u tu hpk hul hS hsz HT HU hp hO A L h₀ m mine s R Si hd hu F N O kk
  obtain ⟨env, outer, A₀, B, hA, hf, hke⟩ := Si.fr
  have X := Si.X
  have T := Si.T
  have hh := Si.hh
  have C1 := Si.C1
  have C2 := Si.C2
  obtain ⟨hd9, dp, fr, gd, un⟩ := A
  dsimp only at hA hh hd hu
  subst hA hh
  revert X; k_fill; intro X
  k_dflt (refine' code_def ?k1 ?k2 ?k3 ?k4 ?k5 ?kA ?kF ?kK ?k6 ?k7 ?k8 ?k9 ?kB ?_ ?c2 ?c3 ?c4 ?c5; (case kA => exact rfl); (case kF => assumption); (case kK => assumption); (case k1 => k_asm); (case k2 => k_asm); (case k3 => k_asm); (case k4 => k_asm); (case k5 => k_asm); (case k6 => k_is); (case k7 => k_is); (case k8 => ((try dsimp only); exact limk0 hd)); (case k9 => exact BindsTo.of_eq rfl); (case c5 => decide); (case kB => exact locs rfl); (case c2 => exact rfl); (case c3 => exact rfl); (case c4 => exact rfl); k_whole; intro g' L' h' FG' F' N' B' X' T'; (try dsimp only); (try k_fold))
  iterate 9 walk1
  rename Fr g' L' _ _ => F2; rename News g' L' _ _ => N2
  rename_i Wd hW lW tW
  refine For_invV g' rfl rfl ?_
  k_steps
  obtain ⟨dx, ep, f, hx, hxd⟩ := NodeAt.has (HT.node p x hp)
  have hsys : (x == sysModules) = false := by
    have := hS.big _ hx
    dsimp only at this
    rw [beq_eq_false_iff_ne]
    exact fun e => by rw [e] at this; exact absurd this (by decide)
  have hl3 : (T₁.ks p).length ≤ 3 := by
    have h3 := letters3 (HT.kn p x hp) (fun k hk => by obtain ⟨e, he, rfl⟩ := List.mem_map.mp hk; exact HT.kl p x hp e he)
    rwa [List.length_map] at h3
  refine fdd_sorted rfl X' F2 N2 (.tail _ (List.mem_append_right _ (.tail _ (.tail _ (.tail _ hx))))) hsys hl3 ?_
  intro sD h3 t3 vs ss e F3 N3 lS hss hperm hsort
  have KO := HT.sorted hp hperm
  have J0 : OthJ w Rn S.objs T₁ U domU p o [] := by
    rcases hO with h | ⟨a, b, c⟩
    · exact .inl h
    · exact .inr ⟨a, ⟨[], b, fun e he => (by cases he), Nat.le_refl _⟩, c⟩
  refine iter_list (BeyJ w Rn S T₁ U domT domU k p u tu x o Wd sD (W.listOf vs.toArray e) ss mine) rfl F3 (News.sub N3 (b := (Wd, W.listOf #[] 0) :: (sD, W.listOf vs.toArray e) :: (mine ++ S.led Rn)) swap1) (.tail _ (.head _)) (fun i m' nx h => by obtain ⟨vs', n', S1, rfl, _⟩ := h; exact .tail _ (.head _)) ⟨[], 0, S, rfl, .nil, rfl, rfl, rfl, rfl, ?_, ⟨hS, fun q h _ => h, rfl⟩, J0⟩ ?_ ?_
  · intro q hq r hr
    rcases List.mem_cons.mp hq with rfl | hq
    · exact Nat.ne_of_gt (lW r (List.mem_append_right _ hr))
    rcases List.mem_cons.mp hq with rfl | hq
    · exact Nat.ne_of_gt (lS r (.tail _ (List.mem_append_right _ hr)))
    exact O q hq r hr
  · rintro i v m₁ nx h4 tk4 I oI hv ⟨vs', n', S1, rfl, hvs, hw1, hw2, hw3, hw4, O1, P1, J1⟩ hoff F4 N4
    obtain ⟨c, t, rfl, hc⟩ := strsAre_get hss (by rw [List.getElem?_toArray] at hv; exact hv)
    have hcs : c ∈ ss := List.mem_of_getElem? hc
    have hLc : Letter c := KO.lt c hcs
    have hpc : p ++ [c] ∈ domT := (KO.mem c).mp hcs
    have hvl : vs'.length ≤ 3 * 3 ^ k := by
      rw [hvs.length]
      refine Nat.le_trans (flat_len _ _ (outBL_len domT domU k p u) _) (Nat.mul_le_mul_right _ ?_)
      have := KO.len
      rw [List.length_take]; exact min3 KO.len
    have h3k : 3 ^ k ≤ 729 := Nat.le_trans (Nat.pow_le_pow_right (by decide) (om_k6 hpk)) (by decide)
    have hsl : 4000 ≤ sizeLine := by decide +kernel
    have step : (ss.take (i + 1)).flatMap (outBL domT domU k p u) = (ss.take i).flatMap (outBL domT domU k p u) ++ outBL domT domU k p u c := by
      rw [List.take_add_one, hc, Option.toList_some, List.flatMap_append]; simp
    have HT1 : Lay w Rn S1.objs T₁ domT fT := bey_lay hS HT hO P1.old (by rcases hO with h | h; exact .inl h; exact .inr h.2.2.2)
    have HU1 : Lay w Rn S1.objs U domU (fun _ => true) := bey_lay hS HU hO P1.old (by rcases hO with h | h; exact .inl h; exact .inr h.2.2.1)
    have hcn : c ∉ ss.take i := by
      intro hm
      obtain ⟨j, hj, hje⟩ := List.mem_take_iff_getElem.mp hm
      have hil : i < ss.length := (List.getElem?_eq_some_iff.mp hc).1
      have := (List.getElem_inj (i := i) (j := j) (h₀ := hil) (h₁ := om_lt hj) KO.nd).mp (by
        rw [hje]; exact (List.getElem?_eq_some_iff.mp hc).2)
      exact om_ir hj this
    have hcsum : sumN ((ss.take (i + 1)).map (cBL domT domU k p)) = sumN ((ss.take i).map (cBL domT domU k p)) + cBL domT domU k p c := by
      rw [List.take_add_one, hc, Option.toList_some, List.map_append, List.map_singleton, sumN_app]
    have hcle : sumN ((ss.take i).map (cBL domT domU k p)) ≤ 3 * (2 ^ (k + 1) - 1) := by
      refine Nat.le_trans (sumN_le _ (2 ^ (k + 1) - 1) (fun a => om_le1 (cBL_len domT domU k p a)) _) (Nat.mul_le_mul_right _ ?_)
      rw [List.length_take]; exact min3 KO.len
    have h24 : 2 ^ (k + 1) ≤ 4 ^ (k + 1) := Nat.pow_le_pow_left (by decide) _
    have h20 : 1 ≤ 2 ^ (k + 1) := Nat.one_le_pow _ _ (by decide)
    have h44 : 4 ^ (k + 1 + 1) = 4 * 4 ^ (k + 1) := (Nat.pow_succ ..).trans (Nat.mul_comm _ 4)
    have its1 := P1.its
    have O4 : Off ((I, oI) :: (Wd, W.listOf vs'.toArray n') :: (sD, W.listOf vs.toArray e) :: mine) (S1.led Rn) := by
      intro q hq r hr
      rcases List.mem_cons.mp hq with rfl | hq
      · exact (hoff r (.tail _ (.tail _ (List.mem_append_right _ hr)))).symm
      · exact O1 q hq r hr
    have hWI : Wd ≠ I := hoff (Wd, W.listOf vs'.toArray n') (.head _)
    k_steps
    · rename_i hce tk5
      have hcne : ¬ c = eS := fun h => by rw [h] at tk5; exact absurd tk5 (by decide +kernel)
      have hpe : (T₁.at_ (p ++ [c])).isSome = true := (HT1.mem _).mp hpc
      obtain ⟨y, hpe⟩ := Option.isSome_iff_exists.mp hpe
      refine sub_hit (mine := (I, oI) :: (Wd, W.listOf vs'.toArray n') :: (sD, W.listOf vs.toArray e) :: mine) HT1 hp hpe X' F4 N4 ?_
      k_steps
      refine other_step (mine := (I, oI) :: (Wd, W.listOf vs'.toArray n') :: (sD, W.listOf vs.toArray e) :: mine) P1.ok (om_b1 hsz hcle h24 h20 h44 its1) HT1 HU1 J1 hcn (by rw [List.length_take]; exact Nat.le_trans (min3 KO.len) (by decide)) ⟨⟨_, _, _, B', rfl, rfl, rfl⟩, X', T', rfl, C1, C2⟩ (by dsimp only [Around.deeper]; exact limk hd (by decide)) (by dsimp only [Around.deeper]; exact limk hu (by decide)) F4 N4 O4 ?_
      intro y2 S2 h5 t5 F5 N5 O5 st
      k_steps
      have hc1 : c.length ≤ 1 := by rcases hLc with rfl | rfl | rfl <;> decide
      have hu1 : u.length ≤ 20 := om_u20 hpk hul
      refine KXadd.add (K := 20) (L := 1) hu1 hc1 (by decide) fun t6 k6 hk6 => ?_
      k_steps
      have its2 := st.its
      have hd1 : (if p ++ [c] ∈ domU then 0 else 1) ≤ 1 := by split <;> decide
      refine wpAny_call (ih (p ++ [c]) y y2 S2 (u ++ c) t6 (by rw [List.length_append, List.length_singleton]; exact om_k6' hpk) (by rw [PySem.Str.cps_append, Array.size_append, List.length_append, List.length_singleton]; exact om_u1 hul hc1) st.ok (om_b2 hsz hcle h24 h20 h44 its1 its2 hd1) st.layT st.layU hpe st.other _ L' g' _ ((I, oI) :: (Wd, W.listOf vs'.toArray n') :: (sD, W.listOf vs.toArray e) :: mine) _ _ ⟨⟨_, _, _, B', rfl, rfl, rfl⟩, X', T', rfl, C1, C2⟩ (by dsimp only [Around.deeper]; exact limk' hd (by decide)) (by dsimp only [Around.deeper]; exact limk' hu (by decide)) F5 N5 O5 ?_)
      intro D6 vs6 n6 S3 h6 tk6 F6 N6 nD O6 hv6 P6
      dsimp only
      k_steps
      have hv6l : vs6.length ≤ 3 ^ k := by rw [hv6.length]; exact outB_len ..
      refine extend_in (own := [(D6, W.listOf vs6.toArray n6), (I, oI)]) (D := Wd) (ys := vs') (n := n') (rest := (sD, W.listOf vs.toArray e) :: (mine ++ S3.led Rn)) (b := D6) (its2 := vs6.toArray) (n2 := n6) F6 N6 ?_ ?_ (N6 _ (.head _)).1 ?_ (by rw [List.size_toArray]; exact om_v4 hvl h3k hsl hv6l)
      · intro q hq
        rcases List.mem_cons.mp hq with rfl | hq
        · exact (nD _ (.tail _ (.head _))).symm
        · rw [List.mem_singleton.mp hq]; exact hWI.symm
      · intro q hq
        rcases List.mem_cons.mp hq with rfl | hq
        · exact Nat.ne_of_gt (lS _ (.head _))
        rcases List.mem_append.mp hq with hq | hq
        · exact Nat.ne_of_lt (lW _ (List.mem_append_left _ hq))
        · exact (O6 _ (.tail _ (.head _)) q hq).symm
      intro h7 n7 F7 N7
      k_steps
      refine (show TurnEnd _ _ _ _ _ _ _ from ⟨_, _, _, (Wd, W.listOf (vs' ++ vs6.toArray.toList).toArray n7) :: (sD, W.listOf vs.toArray e) :: (mine ++ S3.led Rn), rfl, F7, News.sub N7 (fun q hq => .tail _ hq), ?_, vs' ++ vs6.toArray.toList, n7, S3, rfl, ?_, hw1, hw2, hw3, hw4, ?_, ?_, ?_⟩)
      · intro q hq
        rcases List.mem_cons.mp hq with rfl | hq
        · exact hWI
        rcases List.mem_cons.mp hq with rfl | hq
        · exact hoff (sD, W.listOf vs.toArray e) (.tail _ (.head _))
        rcases List.mem_append.mp hq with hq | hq
        · exact hoff q (.tail _ (.tail _ (List.mem_append_left _ hq)))
        · exact (O6 _ (.head _) q hq).symm
      · rw [step, outBL, if_neg hcne]; exact strsAre_app hvs hv6
      · intro q hq r hr
        rcases List.mem_cons.mp hq with rfl | hq
        · exact O6 (Wd, W.listOf vs'.toArray n') (.tail _ (.head _)) r hr
        · exact O6 q (.tail _ (.tail _ hq)) r hr
      · refine ⟨P6.ok, fun q hq h => ?_, ?_⟩
        · have q1 := P1.old q hq h
          refine P6.old q (st.old q q1 h) ?_
          rcases st.new with a | a
          · exact .inr a
          · exact .inl (a q q1)
        · rw [hcsum, P6.its, its2, its1, cBL, if_neg hcne]; exact om_b3
      · have htk : ss.take (i + 1) = ss.take i ++ [c] := by rw [List.take_add_one, hc, Option.toList_some]
        rw [htk]
        rcases st.j with r | ⟨a, ⟨ks', b, b2, b3⟩, nU, nT⟩
        · exact .inl r
        · have hy2 : ¬ U.at_ (p ++ [c]) = some y2 := fun h => a ((HU1.mem p).mpr (HU1.up p c (by rw [h]; rfl)))
          obtain ⟨_, hn2, _, _⟩ := st.other.resolve_left hy2
          obtain ⟨dx2, ep2, f2, hx2, _⟩ := NodeAt.has (b := false) hn2
          have hnew := st.new.resolve_left hy2
          rcases J1 with r | ⟨_, ⟨ks0, b0, _⟩, _⟩
          · exact .inl r
          · obtain ⟨dx0, ep0, f0, hx0, _⟩ := NodeAt.has (b := false) b0
            have : NodeX w Rn S3.objs o ks' false := NodeX.step st.ok hx2 (fun q hq hne => P6.old q hq (.inl hne)) (hnew _ hx0) b
            exact .inr ⟨a, ⟨ks', this, b2, b3⟩, nU, nT⟩
    · rename_i hce tk5
      have hce : c = eS := by
        have h1 : c = Str.ofString "" := by simpa using tk5
        exact h1.trans (by decide +kernel)
      subst hce
      obtain ⟨dxo, epo, fo, kso, hxo, hko⟩ : ∃ dxo epo fo kso, (o, fdd dxo (ents w kso).toArray epo (.ref fo)) ∈ S1.objs ∧ (kid kso (Str.ofString "")).isSome = decide (p ++ [eS] ∈ domU) := by
        have e0 : Str.ofString "" = eS := by decide +kernel
        rw [e0]
        rcases J1 with r | ⟨a, ⟨ks', b, b2, b3⟩, nU, nT⟩
        · obtain ⟨dx1, ep1, f1, hx1, _⟩ := NodeAt.has (HU1.node p o r)
          refine ⟨dx1, ep1, f1, U.ks p, hx1, ?_⟩
          rw [HU1.kd p o eS r]
          have := HU1.mem (p ++ [eS])
          cases h : (U.at_ (p ++ [eS])).isSome <;> rw [h] at this <;> simp [this]
        · obtain ⟨dx1, ep1, f1, hx1, _⟩ := NodeAt.has (b := false) b
          refine ⟨dx1, ep1, f1, ks', hx1, ?_⟩
          have h1 : ¬ p ++ [eS] ∈ domU := fun h => a ((HU1.mem p).mpr (HU1.up p eS ((HU1.mem _).mp h)))
          have h2 : kid ks' eS = none := by
            cases h : kid ks' eS with
            | none => rfl
            | some y =>
              obtain ⟨e9, he9, h29⟩ := List.mem_map.mp (kid_mem (l := ks') (k := eS) (by rw [h]; rfl))
              exact absurd (h29 ▸ b2 e9 he9) hcn
          rw [h2]; simp [h1]
      have hsyso : (o == sysModules) = false := by
        have := P1.ok.big _ hxo
        dsimp only at this
        rw [beq_eq_false_iff_ne]
        exact fun e => by rw [e] at this; exact absurd this (by decide)
      refine fdd_notIn (X'.keeps F4.keep) (N4 _ (.tail _ (.tail _ (.tail _ (List.mem_append_right _ (.tail _ (.tail _ (.tail _ hxo)))))))).1 hsyso fun t7 => ?_
      rw [hko]
      have htk : ss.take (i + 1) = ss.take i ++ [eS] := by rw [List.take_add_one, hc, Option.toList_some]
      have P2 : BeyPost w Rn S S1 U p o (sumN ((ss.take (i + 1)).map (cBL domT domU k p))) := ⟨P1.ok, P1.old, by rw [hcsum, its1, cBL, if_pos rfl]; rfl⟩
      have J2 : OthJ w Rn S1.objs T₁ U domU p o (ss.take (i + 1)) := by rw [htk]; exact J1.more
      by_cases hdu : p ++ [eS] ∈ domU
      · rw [decide_eq_true hdu]
        k_steps
        refine (show TurnEnd _ _ _ _ _ _ _ from ⟨_, _, _, (Wd, W.listOf vs'.toArray n') :: (sD, W.listOf vs.toArray e) :: (mine ++ S1.led Rn), rfl, F4, N4, hoff, vs', n', S1, rfl, ?_, hw1, hw2, hw3, hw4, O1, P2, J2⟩)
        rw [step, outBL, if_pos rfl, if_pos hdu, List.append_nil]; exact hvs
      · rw [decide_eq_false hdu]
        k_steps
        refine append_at (hsz := by rw [List.size_toArray]; exact om_v3 hvl h3k hsl) (N4 _ (.tail _ (.head _))).1 fun h5 hs5 hW5 => ?_
        rw [List.push_toArray] at hW5
        have F5 := Fr.upd F4 N4 (.tail _ (.head _)) hs5
        have N5 := News.upd N4 (.tail _ (.head _)) hs5 hW5
        k_steps
        refine (show TurnEnd _ _ _ _ _ _ _ from ⟨_, _, _, (Wd, W.listOf (vs' ++ [Value.str u tu]).toArray (n' + 1)) :: (sD, W.listOf vs.toArray e) :: (mine ++ S1.led Rn), rfl, F5, News.sub N5 ?_, ?_, vs' ++ [Value.str u tu], n' + 1, S1, rfl, ?_, hw1, hw2, hw3, hw4, ?_, P2, J2⟩)
        · intro q hq
          rcases List.mem_cons.mp hq with rfl | hq
          · exact mem_upd_ne (.head _) hWI.symm
          rcases List.mem_cons.mp hq with rfl | hq
          · exact mem_upd_self (.tail _ (.head _))
          · refine mem_upd_ne (.tail _ (.tail _ hq)) ?_
            rcases List.mem_cons.mp hq with rfl | hq
            · exact Nat.ne_of_gt (lS _ (.head _))
            rcases List.mem_append.mp hq with hq | hq
            · exact Nat.ne_of_lt (lW _ (List.mem_append_left _ hq))
            · exact (O1 _ (.head _) q hq).symm
        · intro q hq
          rcases List.mem_cons.mp hq with rfl | hq
          · exact hWI
          · exact hoff _ (.tail _ hq)
        · rw [step, outBL, if_pos rfl, if_neg hdu]; exact strsAre_app hvs (.cons u tu .nil)
        · intro q hq r hr
          rcases List.mem_cons.mp hq with rfl | hq
          · exact O1 (Wd, W.listOf vs'.toArray n') (.head _) r hr
          · exact O1 q (.tail _ hq) r hr
  · rintro m₁ nx h4 tk4 ⟨vs', n', S1, rfl, hvs, hw1, hw2, hw3, hw4, O1, P1, J1⟩ F4 N4
    have hsz : ss.length = vs.length := hss.length.symm
    rw [List.size_toArray, ← hsz, List.take_length] at hvs P1
    rw [outB_eq KO hsort] at hvs
    rw [cB_eq KO hsort] at P1
    k_steps
    rename_i kF kN Tc kX
    refine kk Wd vs' n' S1 h4 _ kF (News.sub kN ?_) ?_ (fun q hq => O1 q (.tail _ (.tail _ hq))) hvs P1
    · intro q hq
      rcases List.mem_cons.mp hq with rfl | hq
      · exact .head _
      · exact .tail _ (.tail _ hq)
    · intro q hq
      rcases List.mem_append.mp hq with hq | hq
      · exact Nat.ne_of_lt (lW q (List.mem_append_left _ hq))
      · exact (O1 _ (.head _) q hq).symm
theorem bey_does {w : World} {G : GG} {base : Heap} {Rn : Addr} {T₁ U : Tr} {domT domU : List Path} {fT : Path → Bool} (hlen : ∀ q ∈ domT, q.length ≤ 5) : ∀ k, Bey w G base Rn T₁ U domT domU fT k
  | 0 => by
    intro p x o S u tu hpk _ hS _ H _ hp
    exact (om_no hpk (hlen p ((H.mem p).mpr (by rw [hp]; rfl)))).elim
  | k + 1 => bey_step (bey_does hlen k)
end Mine
end

section
open PySem PySem.W PyProof.Rows
theorem Mine.clrBeyo (prog : Program) (w : World) (A : Around) (env : Env) (pos : Pos) (s : Shared) : True := by
  w_top off
  first
  | (have : wpAny (model prog w) A (PySem.eval (.Constant (.int 0) 0 pos) env) (fun _ _ => True) (fun _ _ => True) s := by (walk1; fail "x")); trivial
  | trivial
end

section
open PySem PySem.W PyProof.Rows PySem.Calls Builtin
set_option maxRecDepth 100000
set_option maxHeartbeats 1000000
namespace Mine
noncomputable abbrev tupOf (its : Array Value) : Obj := { cls := .type "tuple", data := .seq its }
section
variable {prog : Program} {w : World} {A : Around} {E : Value → Shared → Prop} {s : Shared} {env : Env} {h₀ : Heap} {x : Str} {body : List Stmt} {Q : Flow → Shared → Prop}
theorem iter_tup {l : Addr} {its : Array Value} {m₀ : Str → Option Value} {news : Led} (J : Nat → (Str → Option Value) → Led → Prop)
    (hh : A.handled = none) (F : Fr h₀ env.locals s.heap m₀) (N : News h₀ env.locals s.heap news) (hl : (l, tupOf its) ∈ news) (hJ : ∀ i m nx, J i m nx → (l, tupOf its) ∈ nx) (hj : J 0 m₀ news)
    (turn : ∀ i v m₁ nx h tk I oI, its[i]? = some v → J i m₁ nx → (∀ p ∈ nx, p.1 ≠ I) → Fr h₀ env.locals h (fun y => if y = x then some v else m₁ y) → News h₀ env.locals h ((I, oI) :: nx) →
      wpAny (model prog w) A (execs body env) (TurnPost h₀ env.locals I oI (J (i + 1)) s Q) E { s with heap := h, toks := tk })
    (done : ∀ m₁ nx h tk, J its.size m₁ nx → Fr h₀ env.locals h m₁ → News h₀ env.locals h nx → Q .next { s with heap := h, toks := tk }) :
    wpAny (model prog w) A (pyIter (.ref l)) (fun it s₂ => LoopAtV prog w A h₀ env x body Q E it s₂) E s := by
  have hls : s.heap.IsTuple l its := ⟨_, (N _ hl).1, rfl, _, rfl⟩
  have hne : l ≠ s.heap.objs.size := Nat.ne_of_lt (Heap.lt_size (N _ hl).1)
  refine wpAny_pyIter_tuple hls ?_
  have Wk := Walks.tuple (prog := prog) (w := w) hh s.heap.objs.size l hne its
  refine ⟨_, _, _, its.size, _, _, m₀, news, J, rfl, Wk, ?_, ?_, ?_, ⟨⟨_, Heap.get?_push_size _ rfl, rfl, rfl⟩, hls.at fun o e => Heap.get?_push_of_some _ e⟩, F.push _, (fun p hp => ⟨Heap.get?_push_of_some _ (N p hp).1, (N p hp).2⟩), hj, ?_, ?_⟩
  · intro hm
    rcases List.mem_cons.mp hm with e | hm
    · exact absurd F.ns.lt (e ▸ Nat.lt_irrefl _)
    · exact (N _ hl).2.1 (List.mem_singleton.mp hm).symm
  · intro b hb
    rw [List.mem_singleton.mp hb]
    exact next_is_new F
  · intro p hp hI
    exact absurd (Heap.lt_size (N p hp).1) ((List.mem_singleton.mp hI) ▸ Nat.lt_irrefl _)
  · rintro i v m₁ news₁ s₁ own ⟨hh', tk', rfl⟩ hin hP hJ1 hoff hown hget hmem hst F₁ N₁
    obtain ⟨⟨oi, hoi, _⟩, _⟩ := hst
    have hI : (s.heap.objs.size, oi) ∈ own := hmem _ (.head _) (next_is_new F) oi hoi
    have N₂ : News h₀ env.locals hh' ((s.heap.objs.size, oi) :: news₁) := fun p hp => N₁ p ((List.mem_cons.mp hp).elim (fun h => h ▸ List.mem_append.mpr (.inl hI)) fun h => List.mem_append.mpr (.inr h))
    refine wpAny_mono (turn i v m₁ news₁ hh' tk' _ oi hP hJ1 (fun p hp e => hoff p hp (List.mem_singleton.mpr e)) F₁ N₂) (fun f s₂ p => ?_) fun _ _ e => e
    have hll := hJ _ _ _ hJ1
    have fin : TurnEnd h₀ env.locals s.heap.objs.size oi (J (i + 1)) s s₂ → LoopStepU h₀ env.locals [s.heap.objs.size] own (J (i + 1)) { s with heap := hh', toks := tk' } .next s₂ := by
      rintro ⟨h', tk, m', nx', e, F', N', ha, hm⟩
      refine ⟨rfl, h', tk, m', nx', e, F', fun p hp => ?_, fun p hp hq => ha p hp (List.mem_singleton.mp hq), hm⟩
      rcases List.mem_append.mp hp with hp | hp
      · have e1 := hget p hp
        rcases List.mem_cons.mp (hown p hp) with h1 | h1
        · have : p = (s.heap.objs.size, oi) := by
            have e2 := e1; rw [h1, hoi] at e2
            exact Prod.ext h1 (Option.some.inj e2).symm
          rw [this]; exact N' _ (.head _)
        · have h2 := List.mem_singleton.mp h1
          have : p = (l, tupOf its) := by
            have e2 := e1; rw [h2, (N₂ _ (.tail _ hll)).1] at e2
            exact Prod.ext h2 (Option.some.inj e2).symm
          rw [this]; exact N' _ (.tail _ (hJ _ _ _ hm))
      · exact N' p (.tail _ hp)
    cases f with
    | ret v => exact .ret p
    | brk => exact .brk p
    | next => exact .next (fin p)
    | cont => exact .cont (fin p)
  · rintro h' tk m' news' F' N' _ hJ
    exact done m' news' h' tk hJ F' N'
end
end Mine
end

section
open PySem PySem.W PyProof.Rows PySem.Calls Builtin
set_option maxRecDepth 100000
set_option maxHeartbeats 1000000
namespace Mine
/-- the strict order of texts, and lists that rise by it -/
noncomputable abbrev slt (a b : PySem.Str) : Prop := a.cps.toList < b.cps.toList
noncomputable def Rise (l : List PySem.Str) : Prop := l.Pairwise slt
theorem slt_irrefl (a : PySem.Str) : ¬ slt a a := List.lt_irrefl _
theorem slt_trans {a b c : PySem.Str} (h : slt a b) (h' : slt b c) : slt a c := List.lt_trans h h'
theorem slt_asymm {a b : PySem.Str} (h : slt a b) : ¬ slt b a := fun h' => slt_irrefl a (slt_trans h h')
theorem slt_tri (a b : PySem.Str) : slt a b ∨ a = b ∨ slt b a := by
  by_cases h : slt a b
  · exact .inl h
  by_cases h' : slt b a
  · exact .inr (.inr h')
  · refine .inr (.inl ?_)
    have := List.le_antisymm (as := a.cps.toList) (bs := b.cps.toList) h' h
    obtain ⟨⟨a⟩⟩ := a; obtain ⟨⟨b⟩⟩ := b; simp only at this; rw [this]
theorem Rise.nodup {l : List PySem.Str} (h : Rise l) : l.Nodup := List.Pairwise.imp (R := slt) (S := fun a b => a ≠ b) (fun {a b} h e => slt_irrefl b (by rw [e] at h; exact h)) h
theorem rise_unique {l l' : List PySem.Str} (h : Rise l) (h' : Rise l') (hm : ∀ x, x ∈ l ↔ x ∈ l') : l = l' :=
  List.Perm.eq_of_pairwise (le := slt) (fun _ _ _ _ h1 h2 => absurd h2 (slt_asymm h1)) h h' ((List.perm_ext_iff_of_nodup h.nodup h'.nodup).mpr hm)
theorem Rise.filter {l : List PySem.Str} (h : Rise l) (f : PySem.Str → Bool) : Rise (l.filter f) := List.Pairwise.filter f h
theorem Rise.get {l : List PySem.Str} (h : Rise l) {i j : Nat} {a b : PySem.Str} (hij : i < j) (hi : l[i]? = some a) (hj : l[j]? = some b) : slt a b := by
  obtain ⟨h1, rfl⟩ := List.getElem?_eq_some_iff.mp hi
  obtain ⟨h2, rfl⟩ := List.getElem?_eq_some_iff.mp hj
  exact List.pairwise_iff_getElem.mp h i j h1 h2 hij
/-- the sorted list without its doubles, as the law's comprehension keeps it -/
noncomputable def keepAt (l : List PySem.Str) : Nat → Bool
  | 0 => true
  | i + 1 => l[i]? != l[i + 1]?
noncomputable def onceN (l : List PySem.Str) : Nat → List PySem.Str
  | 0 => []
  | i + 1 => onceN l i ++ if keepAt l i then (l[i]?).toList else []
theorem onceN_len (l : List PySem.Str) : ∀ i, (onceN l i).length ≤ i
  | 0 => Nat.le_refl _
  | i + 1 => by
    have := onceN_len l i
    have h1 : (if keepAt l i then (l[i]?).toList else []).length ≤ 1 := by
      split
      · cases l[i]? <;> simp
      · simp
    rw [onceN, List.length_append]; omega
theorem risingS_pw : ∀ (p : PySem.Str) (l : List PySem.Str), risingS p l = true → (p :: l).Pairwise fun a b => ¬ slt b a
  | p, [], _ => by simp
  | p, x :: r, h => by
    simp only [risingS, Bool.and_eq_true, Bool.not_eq_true', ltCps_eq, decide_eq_false_iff_not] at h
    have ih := risingS_pw x r h.2
    refine List.pairwise_cons.mpr ⟨fun y hy => ?_, ih⟩
    rcases List.mem_cons.mp hy with rfl | hy
    · exact h.1
    · have h2 := (List.pairwise_cons.mp ih).1 y hy
      intro h3
      rcases slt_tri x y with h4 | h4 | h4
      · exact h.1 (slt_trans h4 h3)
      · rw [← h4] at h3; exact h.1 h3
      · exact h2 h4
theorem sortedS_pw {l : List PySem.Str} (h : sortedS l = true) : l.Pairwise fun a b => ¬ slt b a := by
  cases l with
  | nil => exact .nil
  | cons x r => exact risingS_pw x r h
theorem onceN_spec {l : List PySem.Str} (hs : sortedS l = true) : ∀ i, i ≤ l.length → Rise (onceN l i) ∧ ∀ x, x ∈ onceN l i ↔ x ∈ l.take i := by
  have pw := sortedS_pw hs
  intro i
  induction i with
  | zero => intro _; exact ⟨.nil, fun x => by simp [onceN]⟩
  | succ i ih =>
    intro hi
    obtain ⟨h1, h2⟩ := ih (by omega)
    have hg : l[i]? = some l[i] := List.getElem?_eq_getElem (by omega)
    have ht : l.take (i + 1) = l.take i ++ [l[i]] := by rw [List.take_add_one, hg]; rfl
    cases hk : keepAt l i with
    | false =>
      cases i with
      | zero => cases hk
      | succ j =>
        have hk : l[j]? = l[j + 1]? := by simpa [keepAt] using hk
        have hm : l[j + 1] ∈ l.take (j + 1) := by
          rw [List.take_add_one, hk, hg]; simp
        rw [onceN, show keepAt l (j + 1) = false by simp [keepAt, hk], ht]
        simp only [Bool.false_eq_true, if_false, List.append_nil]
        refine ⟨h1, fun x => ?_⟩
        rw [h2, List.mem_append, List.mem_singleton]
        exact ⟨.inl, fun h => h.elim id fun e => e ▸ hm⟩
    | true =>
      rw [onceN, hk, if_pos rfl, hg, ht]
      refine ⟨List.pairwise_append.mpr ⟨h1, List.pairwise_singleton .., fun a ha b hb => ?_⟩, fun x => ?_⟩
      · obtain rfl : b = l[i] := by simpa using hb
        have ha := (h2 a).mp ha
        cases i with
        | zero => simp at ha
        | succ j =>
          have hk : ¬ l[j]? = l[j + 1]? := by simpa [keepAt] using hk
          have hgj : l[j]? = some l[j] := List.getElem?_eq_getElem (by omega)
          rw [hgj, hg] at hk
          have hjl : slt l[j] l[j + 1] := by
            have := List.pairwise_iff_getElem.mp pw j (j + 1) (by omega) (by omega) (by omega)
            rcases slt_tri l[j] l[j + 1] with h | h | h
            · exact h
            · exact absurd (congrArg some h) hk
            · exact absurd h this
          obtain ⟨m, hm, rfl⟩ := List.mem_take_iff_getElem.mp ha
          by_cases e : m = j
          · subst e; exact hjl
          · have := List.pairwise_iff_getElem.mp pw m j (by omega) (by omega) (by omega)
            rcases slt_tri l[m] l[j] with h | h | h
            · exact slt_trans h hjl
            · rw [h]; exact hjl
            · exact absurd h this
      · rw [List.mem_append, List.mem_append, h2]; rfl
theorem once_rise {l us : List PySem.Str} (hp : l.Perm us) (hs : sortedS l = true) : Rise (onceN l l.length) ∧ ∀ x, x ∈ onceN l l.length ↔ x ∈ us := by
  obtain ⟨h1, h2⟩ := onceN_spec hs l.length (Nat.le_refl _)
  exact ⟨h1, fun x => by rw [h2, List.take_length]; exact hp.mem_iff⟩
end Mine
end

section
open PySem PySem.W PyProof.Rows PySem.Calls Builtin
set_option maxRecDepth 100000
set_option maxHeartbeats 1000000
namespace Mine
noncomputable def pathC (r : List Nat) : Path := r.map fun c => (⟨#[c]⟩ : PySem.Str)
noncomputable def Ab (r : List Nat) : Prop := ∀ c ∈ r, c = 97 ∨ c = 98
noncomputable def UpC (dom : List Path) : Prop := ∀ (p : Path) (k : PySem.Str), p ++ [k] ∈ dom → p ∈ dom
theorem UpC.app {dom : List Path} (h : UpC dom) (a : Path) : ∀ b : Path, a ++ b ∈ dom → a ∈ dom := by
  intro b
  generalize hr : b.reverse = r
  induction r generalizing b with
  | nil => intro h; obtain rfl : b = [] := List.reverse_eq_nil_iff.mp hr; rwa [List.append_nil] at h
  | cons k r ih =>
    intro h1
    obtain rfl : b = r.reverse ++ [k] := by rw [← List.reverse_reverse b, hr, List.reverse_cons]
    rw [← List.append_assoc] at h1
    exact ih r.reverse (List.reverse_reverse r) (h _ _ h1)
theorem str_app (hd : PySem.Str) (c : Nat) (r : List Nat) : hd ++ (⟨#[c]⟩ : PySem.Str) ++ (⟨r.toArray⟩ : PySem.Str) = hd ++ (⟨(c :: r).toArray⟩ : PySem.Str) := by
  apply PySem.Str.ext'
  simp only [PySem.Str.cps_append, Array.append_assoc]
  congr 1
  apply Array.ext'
  simp
theorem str_nil (hd : PySem.Str) : hd ++ (⟨([] : List Nat).toArray⟩ : PySem.Str) = hd := by
  apply PySem.Str.ext'
  simp [PySem.Str.cps_append]
theorem cps_app (a b : PySem.Str) : (a ++ b).cps.toList = a.cps.toList ++ b.cps.toList := by rw [PySem.Str.cps_append, Array.toList_append]
theorem path_cons (p : Path) (c : Nat) (r : List Nat) (q : Path) : p ++ [(⟨#[c]⟩ : PySem.Str)] ++ (pathC r ++ q) = p ++ (pathC (c :: r) ++ q) := by simp [pathC]
theorem Ab.cons {c : Nat} {r : List Nat} (hc : c = 97 ∨ c = 98) (h : Ab r) : Ab (c :: r) := fun x hx => (List.mem_cons.mp hx).elim (fun e => e ▸ hc) (h x)
theorem outR_mem {dom : List Path} (up : UpC dom) : ∀ k p hd u, u ∈ outR dom k p hd ↔ ∃ r, Ab r ∧ r.length < k ∧ u = hd ++ (⟨r.toArray⟩ : PySem.Str) ∧ p ++ (pathC r ++ [eS]) ∈ dom
  | 0, p, hd, u => by simp [outR]
  | k + 1, p, hd, u => by
    rw [outR, List.mem_append, List.mem_append]
    constructor
    · rintro (h | h | h)
      · split at h
        · rename_i hm
          exact ⟨[], (fun _ h => by cases h), Nat.succ_pos _, by rw [str_nil]; simpa using h, hm⟩
        · cases h
      · split at h
        · obtain ⟨r, h1, h2, h3, h4⟩ := (outR_mem up k _ _ _).mp h
          exact ⟨97 :: r, h1.cons (.inl rfl), by simpa using h2, by rw [h3, str_app], by rw [← path_cons]; exact h4⟩
        · cases h
      · split at h
        · obtain ⟨r, h1, h2, h3, h4⟩ := (outR_mem up k _ _ _).mp h
          exact ⟨98 :: r, h1.cons (.inr rfl), by simpa using h2, by rw [h3, str_app], by rw [← path_cons]; exact h4⟩
        · cases h
    · rintro ⟨r, h1, h2, h3, h4⟩
      cases r with
      | nil =>
        have h4 : p ++ [eS] ∈ dom := h4
        left; rw [if_pos h4, h3, str_nil]; simp
      | cons c r =>
        have h5 := h4
        rw [← path_cons] at h4
        have hr : Ab r := fun x hx => h1 x (.tail _ hx)
        rcases h1 c (.head _) with rfl | rfl
        · right; left
          rw [if_pos (up.app _ _ h4)]
          exact (outR_mem up k _ _ _).mpr ⟨r, hr, by simpa using h2, by rw [h3, str_app], h4⟩
        · right; right
          rw [if_pos (up.app _ _ h4)]
          exact (outR_mem up k _ _ _).mpr ⟨r, hr, by simpa using h2, by rw [h3, str_app], h4⟩
theorem slt_ext (hd : PySem.Str) {x y : List Nat} (h : x < y) : slt (hd ++ (⟨x.toArray⟩ : PySem.Str)) (hd ++ (⟨y.toArray⟩ : PySem.Str)) := by
  unfold slt; rw [cps_app, cps_app]; exact List.append_left_lt h
theorem ext_nil (hd : PySem.Str) : hd = hd ++ (⟨([] : List Nat).toArray⟩ : PySem.Str) := (str_nil hd).symm
theorem nil_lt_cons' (c : Nat) (r : List Nat) : ([] : List Nat) < c :: r := List.nil_lt_cons ..
theorem rise3 {hd : PySem.Str} {e A B : List PySem.Str} (he : e = [] ∨ e = [hd]) (hA : Rise A) (hB : Rise B) (ha : ∀ x ∈ A, ∃ r : List Nat, x = hd ++ (⟨(97 :: r).toArray⟩ : PySem.Str)) (hb : ∀ x ∈ B, ∃ r : List Nat, x = hd ++ (⟨(98 :: r).toArray⟩ : PySem.Str)) : Rise (e ++ (A ++ B)) := by
  refine List.pairwise_append.mpr ⟨?_, List.pairwise_append.mpr ⟨hA, hB, ?_⟩, ?_⟩
  · rcases he with rfl | rfl
    · exact .nil
    · exact List.pairwise_singleton ..
  · intro x hx y hy
    obtain ⟨r, rfl⟩ := ha x hx
    obtain ⟨r', rfl⟩ := hb y hy
    exact slt_ext hd (List.cons_lt_cons_iff.mpr (.inl (by decide)))
  · intro x hx y hy
    obtain rfl : x = hd := by rcases he with rfl | rfl; cases hx; simpa using hx
    have : ∃ (c : Nat) (r : List Nat), y = x ++ (⟨(c :: r).toArray⟩ : PySem.Str) := by
      rcases List.mem_append.mp hy with hy | hy
      · obtain ⟨r, h⟩ := ha y hy; exact ⟨97, r, h⟩
      · obtain ⟨r, h⟩ := hb y hy; exact ⟨98, r, h⟩
    obtain ⟨c, r, rfl⟩ := this
    have h := slt_ext x (nil_lt_cons' c r)
    rwa [str_nil] at h
theorem outR_ext {dom : List Path} : ∀ k p hd u, u ∈ outR dom k p hd → ∃ r : List Nat, u = hd ++ (⟨r.toArray⟩ : PySem.Str)
  | 0, _, _, u, h => by simp [outR] at h
  | k + 1, p, hd, u, h => by
    rw [outR, List.mem_append, List.mem_append] at h
    rcases h with h | h | h <;> split at h
    · exact ⟨[], by rw [str_nil]; simpa using h⟩
    · cases h
    · obtain ⟨r, h3⟩ := outR_ext k _ _ _ h
      exact ⟨97 :: r, by rw [h3, str_app]⟩
    · cases h
    · obtain ⟨r, h3⟩ := outR_ext k _ _ _ h
      exact ⟨98 :: r, by rw [h3, str_app]⟩
    · cases h
theorem outR_rise (dom : List Path) : ∀ k p hd, Rise (outR dom k p hd)
  | 0, _, _ => .nil
  | k + 1, p, hd => by
    rw [outR]
    refine rise3 (hd := hd) ?_ ?_ ?_ ?_ ?_
    · split; exact .inr rfl; exact .inl rfl
    · split; exact outR_rise dom k _ _; exact .nil
    · split; exact outR_rise dom k _ _; exact .nil
    · intro x hx
      split at hx
      · obtain ⟨r, h⟩ := outR_ext k _ _ _ hx; exact ⟨r, by rw [h, str_app]⟩
      · cases hx
    · intro x hx
      split at hx
      · obtain ⟨r, h⟩ := outR_ext k _ _ _ hx; exact ⟨r, by rw [h, str_app]⟩
      · cases hx
theorem outB_mem {domT domU : List Path} (up : UpC domT) : ∀ k p hd u, u ∈ outB domT domU k p hd ↔ ∃ r, Ab r ∧ r.length < k ∧ u = hd ++ (⟨r.toArray⟩ : PySem.Str) ∧ p ++ (pathC r ++ [eS]) ∈ domT ∧ p ++ (pathC r ++ [eS]) ∉ domU
  | 0, p, hd, u => by simp [outB]
  | k + 1, p, hd, u => by
    rw [outB, List.mem_append, List.mem_append]
    constructor
    · rintro (h | h | h)
      · split at h
        · rename_i hm
          split at h
          · cases h
          · rename_i hm2
            exact ⟨[], (fun _ h => by cases h), Nat.succ_pos _, by rw [str_nil]; simpa using h, hm, hm2⟩
        · cases h
      · split at h
        · obtain ⟨r, h1, h2, h3, h4⟩ := (outB_mem up k _ _ _).mp h
          exact ⟨97 :: r, h1.cons (.inl rfl), by simpa using h2, by rw [h3, str_app], by rw [← path_cons]; exact h4⟩
        · cases h
      · split at h
        · obtain ⟨r, h1, h2, h3, h4⟩ := (outB_mem up k _ _ _).mp h
          exact ⟨98 :: r, h1.cons (.inr rfl), by simpa using h2, by rw [h3, str_app], by rw [← path_cons]; exact h4⟩
        · cases h
    · rintro ⟨r, h1, h2, h3, h4, h6⟩
      cases r with
      | nil =>
        have h4 : p ++ [eS] ∈ domT := h4
        have h6 : p ++ [eS] ∉ domU := h6
        left; rw [if_pos h4, if_neg h6, h3, str_nil]; simp
      | cons c r =>
        rw [← path_cons] at h4 h6
        have hr : Ab r := fun x hx => h1 x (.tail _ hx)
        rcases h1 c (.head _) with rfl | rfl
        · right; left
          rw [if_pos (up.app _ _ h4)]
          exact (outB_mem up k _ _ _).mpr ⟨r, hr, by simpa using h2, by rw [h3, str_app], h4, h6⟩
        · right; right
          rw [if_pos (up.app _ _ h4)]
          exact (outB_mem up k _ _ _).mpr ⟨r, hr, by simpa using h2, by rw [h3, str_app], h4, h6⟩
theorem outB_ext {domT domU : List Path} : ∀ k p hd u, u ∈ outB domT domU k p hd → ∃ r : List Nat, u = hd ++ (⟨r.toArray⟩ : PySem.Str)
  | 0, _, _, u, h => by simp [outB] at h
  | k + 1, p, hd, u, h => by
    rw [outB, List.mem_append, List.mem_append] at h
    rcases h with h | h | h <;> split at h
    · split at h
      · cases h
      · exact ⟨[], by rw [str_nil]; simpa using h⟩
    · cases h
    · obtain ⟨r, h3⟩ := outB_ext k _ _ _ h
      exact ⟨97 :: r, by rw [h3, str_app]⟩
    · cases h
    · obtain ⟨r, h3⟩ := outB_ext k _ _ _ h
      exact ⟨98 :: r, by rw [h3, str_app]⟩
    · cases h
theorem outB_rise (domT domU : List Path) : ∀ k p hd, Rise (outB domT domU k p hd)
  | 0, _, _ => .nil
  | k + 1, p, hd => by
    rw [outB]
    refine rise3 (hd := hd) ?_ ?_ ?_ ?_ ?_
    · split
      · split; exact .inl rfl; exact .inr rfl
      · exact .inl rfl
    · split; exact outB_rise domT domU k _ _; exact .nil
    · split; exact outB_rise domT domU k _ _; exact .nil
    · intro x hx
      split at hx
      · obtain ⟨r, h⟩ := outB_ext k _ _ _ hx; exact ⟨r, by rw [h, str_app]⟩
      · cases hx
    · intro x hx
      split at hx
      · obtain ⟨r, h⟩ := outB_ext k _ _ _ hx; exact ⟨r, by rw [h, str_app]⟩
      · cases hx
/-- the paths that are in the one tree and not in the other -/
noncomputable def outH (domT domU : List Path) : Nat → Path → List Path
  | 0, _ => []
  | k + 1, p => (if p ++ [aS] ∈ domT then (if p ++ [aS] ∈ domU then [] else [p ++ [aS]]) ++ outH domT domU k (p ++ [aS]) else []) ++ (if p ++ [bS] ∈ domT then (if p ++ [bS] ∈ domU then [] else [p ++ [bS]]) ++ outH domT domU k (p ++ [bS]) else [])
theorem outH_len (domT domU : List Path) : ∀ k p, (outH domT domU k p).length = cB domT domU k p
  | 0, _ => rfl
  | k + 1, p => by
    rw [outH, cB, List.length_append, ← outH_len domT domU k, ← outH_len domT domU k]
    congr 1
    · split
      · split <;> simp <;> omega
      · rfl
    · split
      · split <;> simp <;> omega
      · rfl
theorem outH_mem {domT domU : List Path} (up : UpC domT) : ∀ k p q, q ∈ outH domT domU k p ↔ ∃ r, Ab r ∧ r ≠ [] ∧ r.length ≤ k ∧ q = p ++ pathC r ∧ q ∈ domT ∧ q ∉ domU
  | 0, p, q => by
    simp only [outH, List.not_mem_nil, false_iff]
    rintro ⟨r, _, h, h2, _⟩
    exact h (List.length_eq_zero_iff.mp (by omega))
  | k + 1, p, q => by
    have side : ∀ c : Nat, (c = 97 ∨ c = 98) → (q ∈ (if p ++ [(⟨#[c]⟩ : PySem.Str)] ∈ domT then (if p ++ [(⟨#[c]⟩ : PySem.Str)] ∈ domU then [] else [p ++ [(⟨#[c]⟩ : PySem.Str)]]) ++ outH domT domU k (p ++ [(⟨#[c]⟩ : PySem.Str)]) else []) ↔
        ∃ r, Ab (c :: r) ∧ r.length ≤ k ∧ q = p ++ pathC (c :: r) ∧ q ∈ domT ∧ q ∉ domU) := by
      intro c hc
      have e1 : ∀ r, p ++ pathC (c :: r) = p ++ [(⟨#[c]⟩ : PySem.Str)] ++ pathC r := fun r => by simp [pathC]
      constructor
      · intro h
        split at h
        · rename_i hm
          rcases List.mem_append.mp h with h | h
          · split at h
            · cases h
            · rename_i hm2
              obtain rfl : q = p ++ [(⟨#[c]⟩ : PySem.Str)] := by simpa using h
              exact ⟨[], Ab.cons hc (fun _ h => by cases h), Nat.zero_le _, rfl, hm, hm2⟩
          · obtain ⟨r, h1, _, h3, h4, h5⟩ := (outH_mem up k _ _).mp h
            exact ⟨r, h1.cons hc, h3, by rw [h4, e1], h5⟩
        · cases h
      · rintro ⟨r, h1, h2, h3, h4, h5⟩
        have hr : Ab r := fun x hx => h1 x (.tail _ hx)
        have hm : p ++ [(⟨#[c]⟩ : PySem.Str)] ∈ domT := up.app _ (pathC r) (by rw [← e1, ← h3]; exact h4)
        rw [if_pos hm, List.mem_append]
        cases r with
        | nil =>
          left
          have h3 : q = p ++ [(⟨#[c]⟩ : PySem.Str)] := h3
          rw [← h3, if_neg h5]; simp
        | cons d r =>
          right
          exact (outH_mem up k _ _).mpr ⟨d :: r, hr, by simp, h2, by rw [h3, e1], h4, h5⟩
    rw [outH, List.mem_append, side 97 (.inl rfl), side 98 (.inr rfl)]
    constructor
    · rintro (⟨r, h1, h2, h⟩ | ⟨r, h1, h2, h⟩)
      · exact ⟨97 :: r, h1, by simp, by simpa using h2, h⟩
      · exact ⟨98 :: r, h1, by simp, by simpa using h2, h⟩
    · rintro ⟨r, h1, h2, h3, h⟩
      cases r with
      | nil => exact absurd rfl h2
      | cons c r =>
        rcases h1 c (.head _) with rfl | rfl
        · exact .inl ⟨r, h1, by simpa using h3, h⟩
        · exact .inr ⟨r, h1, by simpa using h3, h⟩
theorem outH_ext {domT domU : List Path} : ∀ k p q, q ∈ outH domT domU k p → ∃ c r, q = p ++ c :: r ∧ (c = aS ∨ c = bS)
  | 0, _, _, h => by simp [outH] at h
  | k + 1, p, q, h => by
    rw [outH, List.mem_append] at h
    rcases h with h | h <;> split at h
    · rcases List.mem_append.mp h with h | h
      · split at h
        · cases h
        · exact ⟨aS, [], by simpa using h, .inl rfl⟩
      · obtain ⟨c, r, e, _⟩ := outH_ext k _ _ h
        exact ⟨aS, c :: r, by rw [e]; simp, .inl rfl⟩
    · cases h
    · rcases List.mem_append.mp h with h | h
      · split at h
        · cases h
        · exact ⟨bS, [], by simpa using h, .inr rfl⟩
      · obtain ⟨c, r, e, _⟩ := outH_ext k _ _ h
        exact ⟨bS, c :: r, by rw [e]; simp, .inr rfl⟩
    · cases h
theorem outH_sub {domT domU : List Path} : ∀ k p c q, q ∈ outH domT domU k (p ++ [c]) → ∃ d r, q = p ++ c :: d :: r := by
  intro k p c q h
  obtain ⟨d, r, e, _⟩ := outH_ext k _ _ h
  exact ⟨d, r, by rw [e]; simp⟩
theorem outH_nd (domT domU : List Path) : ∀ k p, (outH domT domU k p).Nodup
  | 0, _ => List.nodup_nil
  | k + 1, p => by
    have side : ∀ c : PySem.Str, (if p ++ [c] ∈ domT then (if p ++ [c] ∈ domU then [] else [p ++ [c]]) ++ outH domT domU k (p ++ [c]) else []).Nodup ∧
        ∀ q ∈ (if p ++ [c] ∈ domT then (if p ++ [c] ∈ domU then [] else [p ++ [c]]) ++ outH domT domU k (p ++ [c]) else []), ∃ r, q = p ++ c :: r := by
      intro c
      split
      · refine ⟨List.nodup_append.mpr ⟨by split <;> simp, outH_nd domT domU k _, ?_⟩, ?_⟩
        · intro a ha b hb e
          split at ha
          · cases ha
          · obtain rfl : a = p ++ [c] := by simpa using ha
            obtain ⟨d, r, h⟩ := outH_sub k p c b hb
            rw [h, List.append_cancel_left_eq] at e
            cases e
        · intro q hq
          rcases List.mem_append.mp hq with hq | hq
          · split at hq
            · cases hq
            · exact ⟨[], by simpa using hq⟩
          · obtain ⟨d, r, h⟩ := outH_sub k p c q hq
            exact ⟨_, h⟩
      · exact ⟨List.nodup_nil, fun q hq => by cases hq⟩
    rw [outH]
    refine List.nodup_append.mpr ⟨(side aS).1, (side bS).1, ?_⟩
    intro a ha b hb e
    obtain ⟨r, h1⟩ := (side aS).2 a ha
    obtain ⟨r', h2⟩ := (side bS).2 b hb
    rw [h1, h2, List.append_cancel_left_eq] at e
    have := (List.cons.inj e).1
    exact absurd this (by decide)
end Mine
end

section
open PySem PySem.W PyProof.Rows PySem.Calls Builtin
set_option maxRecDepth 100000
set_option maxHeartbeats 1000000
namespace Mine
theorem mem_ins (d : List Path) (q x : Path) : x ∈ ins d q ↔ x ∈ d ∨ x = q := by
  unfold ins
  split
  · rename_i h; exact ⟨.inl, fun h' => h'.elim id fun e => e ▸ h⟩
  · rw [List.mem_cons]; exact or_comm
theorem ins_nd {d : List Path} (h : d.Nodup) (q : Path) : (ins d q).Nodup := by
  unfold ins
  split
  · exact h
  · rename_i hq; exact List.nodup_cons.mpr ⟨hq, h⟩
theorem mem_insPre (d : List Path) (u : PySem.Str) (x : Path) : ∀ i, x ∈ insPre d u i ↔ x ∈ d ∨ ∃ j, 0 < j ∧ j ≤ i ∧ x = (pathOf u).take j
  | 0 => by
    simp only [insPre]
    exact ⟨.inl, fun h => h.elim id fun ⟨j, a, b, _⟩ => by omega⟩
  | i + 1 => by
    rw [insPre, mem_ins, mem_insPre d u x i]
    constructor
    · rintro ((h | ⟨j, a, b, c⟩) | h)
      · exact .inl h
      · exact .inr ⟨j, a, by omega, c⟩
      · exact .inr ⟨i + 1, by omega, Nat.le_refl _, h⟩
    · rintro (h | ⟨j, a, b, c⟩)
      · exact .inl (.inl h)
      · by_cases e : j = i + 1
        · subst e; exact .inr c
        · exact .inl (.inr ⟨j, a, by omega, c⟩)
theorem insPre_nd {d : List Path} (h : d.Nodup) (u : PySem.Str) : ∀ i, (insPre d u i).Nodup
  | 0 => h
  | i + 1 => ins_nd (insPre_nd h u i) _
noncomputable def inWord (u : PySem.Str) (x : Path) : Prop := (∃ j, 0 < j ∧ j ≤ u.cps.size ∧ x = (pathOf u).take j) ∨ x = pathOf u ++ [eS]
theorem mem_insWord (d : List Path) (u : PySem.Str) (x : Path) : x ∈ insWord d u ↔ x ∈ d ∨ inWord u x := by
  unfold insWord inWord
  rw [mem_ins, mem_insPre, or_assoc]
theorem mem_foldW (us : List PySem.Str) (x : Path) : ∀ d, x ∈ us.foldl insWord d ↔ x ∈ d ∨ ∃ u ∈ us, inWord u x := by
  induction us with
  | nil => intro d; simp
  | cons u us ih =>
    intro d
    rw [List.foldl_cons, ih, mem_insWord]
    simp only [List.mem_cons, exists_eq_or_imp, or_assoc]
theorem foldW_nd (us : List PySem.Str) : ∀ d : List Path, d.Nodup → (us.foldl insWord d).Nodup := by
  induction us with
  | nil => intro d h; exact h
  | cons u us ih => intro d h; exact ih _ (ins_nd (insPre_nd h u _) _)
theorem domOf_nd (us : List PySem.Str) : (domOf us).Nodup := foldW_nd us _ (by simp)
theorem domOf_mem (us : List PySem.Str) (x : Path) : x ∈ domOf us ↔ x = [] ∨ ∃ u ∈ us, inWord u x := by
  unfold domOf; rw [mem_foldW]; simp
theorem pathC_inj : ∀ {r r' : List Nat}, pathC r = pathC r' → r = r'
  | [], [], _ => rfl
  | [], _ :: _, h => by simp [pathC] at h
  | _ :: _, [], h => by simp [pathC] at h
  | a :: r, b :: r', h => by
    have h : (⟨#[a]⟩ : PySem.Str) :: pathC r = (⟨#[b]⟩ : PySem.Str) :: pathC r' := h
    have h1 := (List.cons.inj h).1
    have h2 := pathC_inj (List.cons.inj h).2
    have : a = b := by simpa using h1
    rw [this, h2]
theorem pathC_take (r : List Nat) (j : Nat) : (pathC r).take j = pathC (r.take j) := by unfold pathC; rw [List.map_take]
theorem eS_notin (r : List Nat) : eS ∉ pathC r := by
  intro h
  obtain ⟨c, _, h⟩ := List.mem_map.mp h
  exact absurd h (by simp)
theorem pathOf_eq (u : PySem.Str) : pathOf u = pathC u.cps.toList := rfl
noncomputable abbrev ofL (r : List Nat) : PySem.Str := ⟨r.toArray⟩
theorem ofL_toList (u : PySem.Str) : ofL u.cps.toList = u := by obtain ⟨⟨c⟩⟩ := u; rfl
theorem ofL_inj {r r' : List Nat} (h : ofL r = ofL r') : r = r' := by
  have := congrArg (fun s : PySem.Str => s.cps.toList) h
  simpa using this
/-- the beginning of a text -/
noncomputable def headOf (u : PySem.Str) (j : Nat) : PySem.Str := ofL (u.cps.toList.take j)
theorem end_mem (us : List PySem.Str) (r : List Nat) : pathC r ++ [eS] ∈ domOf us ↔ ofL r ∈ us := by
  rw [domOf_mem]
  constructor
  · rintro (h | ⟨u, hu, ⟨j, _, _, h⟩ | h⟩)
    · simp at h
    · exfalso
      rw [pathOf_eq, pathC_take] at h
      exact eS_notin _ (h ▸ List.mem_append_right _ (.head _))
    · have h1 := List.append_inj_left' h rfl
      rw [pathOf_eq] at h1
      rw [pathC_inj h1, ofL_toList]; exact hu
  · intro h
    refine .inr ⟨_, h, .inr ?_⟩
    rw [pathOf_eq]
theorem pre_mem {us : List PySem.Str} (hne : us ≠ []) (r : List Nat) : pathC r ∈ domOf us ↔ ∃ u ∈ us, ∃ j, j ≤ u.cps.size ∧ ofL r = headOf u j := by
  rw [domOf_mem]
  constructor
  · rintro (h | ⟨u, hu, ⟨j, _, h1, h⟩ | h⟩)
    · obtain ⟨u, us', rfl⟩ := List.exists_cons_of_ne_nil hne
      have : r = [] := by simpa [pathC] using h
      subst this
      exact ⟨u, .head _, 0, Nat.zero_le _, rfl⟩
    · rw [pathOf_eq, pathC_take] at h
      exact ⟨u, hu, j, h1, by rw [pathC_inj h]; rfl⟩
    · exact absurd (h ▸ List.mem_append_right _ (.head _)) (eS_notin r)
  · rintro ⟨u, hu, j, h1, h2⟩
    have h3 : r = u.cps.toList.take j := ofL_inj h2
    by_cases e : r = []
    · exact .inl (by rw [e]; rfl)
    · refine .inr ⟨u, hu, .inl ⟨j, ?_, h1, by rw [h3, pathOf_eq, pathC_take]⟩⟩
      rcases Nat.eq_zero_or_pos j with h4 | h4
      · rw [h4] at h3; exact absurd h3 e
      · exact h4
theorem domOf_up (us : List PySem.Str) : UpC (domOf us) := by
  intro p k h
  rw [domOf_mem] at h ⊢
  rcases h with h | ⟨u, hu, ⟨j, h0, h1, h⟩ | h⟩
  · simp at h
  · have hl := congrArg List.length h
    rw [List.length_append, List.length_singleton, List.length_take, pathOf_len] at hl
    have h2 : p = (pathOf u).take (j - 1) := by
      have := congrArg (List.take p.length) h
      rw [List.take_left, List.take_take] at this
      rw [this]; congr 1; omega
    rcases Nat.eq_zero_or_pos (j - 1) with e | e
    · exact .inl (by rw [h2, e]; rfl)
    · exact .inr ⟨u, hu, .inl ⟨j - 1, e, by omega, h2⟩⟩
  · have h1 : p = pathOf u := List.append_inj_left' h rfl
    rcases Nat.eq_zero_or_pos u.cps.size with e | e
    · exact .inl (by rw [h1]; exact List.length_eq_zero_iff.mp (by rw [pathOf_len, e]))
    · refine .inr ⟨u, hu, .inl ⟨u.cps.size, e, Nat.le_refl _, ?_⟩⟩
      rw [h1, ← pathOf_len, List.take_length]
theorem domOf_dlen {us : List PySem.Str} (hw : ∀ u ∈ us, IsWord u) : ∀ q ∈ domOf us, q.length ≤ 5 := by
  intro q hq
  rw [domOf_mem] at hq
  rcases hq with rfl | ⟨u, hu, ⟨j, _, _, rfl⟩ | rfl⟩
  · simp
  · have := (hw u hu).1
    rw [List.length_take, pathOf_len]; omega
  · have := (hw u hu).1
    rw [List.length_append, pathOf_len, List.length_singleton]; omega
theorem nil_app (r : List Nat) : eS ++ ofL r = ofL r := by
  apply PySem.Str.ext'
  simp [PySem.Str.cps_append]
theorem read_eq {us first : List PySem.Str} (hw : ∀ u ∈ us, IsWord u) (hR : Rise first) (hm : ∀ x, x ∈ first ↔ x ∈ us) : outR (domOf us) 6 [] eS = first := by
  refine rise_unique (outR_rise _ _ _ _) hR fun x => ?_
  rw [outR_mem (domOf_up us), hm]
  constructor
  · rintro ⟨r, _, _, h3, h4⟩
    rw [h3, nil_app]
    exact (end_mem us r).mp h4
  · intro h
    have := (hw x h).1
    refine ⟨x.cps.toList, (hw x h).2, by rw [Array.length_toList]; omega, ?_, ?_⟩
    · rw [nil_app, ofL_toList]
    · exact (end_mem us _).mpr (by rw [ofL_toList]; exact h)
noncomputable def lacks (second : List PySem.Str) (x : PySem.Str) : Bool := !second.contains x
theorem lacks_iff (second : List PySem.Str) (x : PySem.Str) : lacks second x = true ↔ x ∉ second := by
  unfold lacks; simp
theorem bey_eq {us vs first second : List PySem.Str} (hw : ∀ u ∈ us, IsWord u) (hR : Rise first) (hm : ∀ x, x ∈ first ↔ x ∈ us) (hm2 : ∀ x, x ∈ second ↔ x ∈ vs) : outB (domOf us) (domOf vs) 6 [] eS = first.filter (lacks second) := by
  refine rise_unique (outB_rise _ _ _ _ _) (hR.filter _) fun x => ?_
  rw [outB_mem (domOf_up us), List.mem_filter, lacks_iff, hm, hm2]
  constructor
  · rintro ⟨r, _, _, h3, h4, h5⟩
    rw [h3, nil_app]
    exact ⟨(end_mem us r).mp h4, fun h => h5 ((end_mem vs r).mpr h)⟩
  · rintro ⟨h, h'⟩
    have := (hw x h).1
    refine ⟨x.cps.toList, (hw x h).2, by rw [Array.length_toList]; omega, ?_, ?_, ?_⟩
    · rw [nil_app, ofL_toList]
    · exact (end_mem us _).mpr (by rw [ofL_toList]; exact h)
    · exact fun h5 => h' (by rw [← ofL_toList x]; exact (end_mem vs _).mp h5)
structure Heads (us H : List PySem.Str) : Prop where
  rise : Rise H
  mem : ∀ x, x ∈ H ↔ ∃ u ∈ us, ∃ j, j ≤ u.cps.size ∧ x = headOf u j
theorem nodup_map_inj {α β : Type} {f : α → β} (hf : ∀ a b, f a = f b → a = b) {l : List α} (h : l.Nodup) : (l.map f).Nodup :=
  List.pairwise_map.mpr (List.Pairwise.imp (R := fun a b : α => a ≠ b) (fun {a b} h e => h (hf a b e)) h)
theorem pathOf_inj {u v : PySem.Str} (h : pathOf u = pathOf v) : u = v := by
  rw [pathOf_eq, pathOf_eq] at h
  rw [← ofL_toList u, pathC_inj h, ofL_toList]
theorem Heads.path {us H : List PySem.Str} (h : Heads us H) (hne : us ≠ []) (x : PySem.Str) : pathOf x ∈ domOf us ↔ x ∈ H := by
  rw [pathOf_eq, pre_mem hne, h.mem, ofL_toList]
theorem cnt_eq {us first H : List PySem.Str} (hne : us ≠ []) (hR : Rise first) (hm : ∀ x, x ∈ first ↔ x ∈ us) (hH : Heads us H) : cnt (domOf us) [] = H.length + first.length := by
  have e : cnt (domOf us) [] = (domOf us).length := by
    unfold cnt; rw [List.countP_eq_length]; intro _ _; rfl
  have hp : (domOf us).Perm (H.map pathOf ++ first.map fun u => pathOf u ++ [eS]) := by
    refine (List.perm_ext_iff_of_nodup (domOf_nd us) (List.nodup_append.mpr ⟨nodup_map_inj (fun _ _ => pathOf_inj) hH.rise.nodup, nodup_map_inj (fun a b h => pathOf_inj (List.append_inj_left' h rfl)) hR.nodup, ?_⟩)).mpr fun q => ?_
    · intro a ha b hb e
      obtain ⟨x, _, rfl⟩ := List.mem_map.mp ha
      obtain ⟨y, _, rfl⟩ := List.mem_map.mp hb
      exact eS_notin x.cps.toList (by rw [← pathOf_eq, e]; exact List.mem_append_right _ (.head _))
    · rw [List.mem_append, List.mem_map, List.mem_map]
      constructor
      · intro h
        have h' := h
        rw [domOf_mem] at h
        rcases h with rfl | ⟨u, hu, ⟨j, _, _, rfl⟩ | rfl⟩
        · exact .inl ⟨eS, (hH.path hne eS).mp h', rfl⟩
        · refine .inl ⟨headOf u j, (hH.path hne _).mp ?_, ?_⟩
          · rw [pathOf_eq, pathC_take] at h'; exact h'
          · rw [pathOf_eq u, pathC_take]; rfl
        · exact .inr ⟨u, (hm u).mpr hu, rfl⟩
      · rintro (⟨x, hx, rfl⟩ | ⟨u, hu, rfl⟩)
        · exact (hH.path hne x).mpr hx
        · rw [pathOf_eq]; exact (end_mem us _).mpr (by rw [ofL_toList]; exact (hm u).mp hu)
  rw [e, hp.length_eq, List.length_append, List.length_map, List.length_map]
theorem Heads.word {us H : List PySem.Str} (hw : ∀ u ∈ us, IsWord u) (h : Heads us H) : ∀ x ∈ H, IsWord x := by
  intro x hx
  obtain ⟨u, hu, j, hj, rfl⟩ := (h.mem x).mp hx
  have h1 := (hw u hu).1
  refine ⟨?_, fun c hc => (hw u hu).2 c ?_⟩
  · show (u.cps.toList.take j).toArray.size ≤ 4
    rw [List.size_toArray, List.length_take, Array.length_toList]; omega
  · have : c ∈ (u.cps.toList.take j).toArray.toList := hc
    rw [List.toList_toArray] at this
    exact List.mem_of_mem_take this
theorem cB_heads {us vs H K : List PySem.Str} (hw : ∀ u ∈ us, IsWord u) (hne : us ≠ []) (hne' : vs ≠ []) (hH : Heads us H) (hK : Heads vs K) : cB (domOf us) (domOf vs) 6 [] = (H.filter (lacks K)).length := by
  rw [← outH_len, ← List.length_map (f := pathOf)]
  refine List.Perm.length_eq ((List.perm_ext_iff_of_nodup (outH_nd _ _ _ _) (nodup_map_inj (fun _ _ => pathOf_inj) (hH.rise.filter _).nodup)).mpr fun q => ?_)
  rw [outH_mem (domOf_up us), List.mem_map]
  constructor
  · rintro ⟨r, h1, h2, h3, h4, h5, h6⟩
    have h4 : q = pathOf (ofL r) := h4
    subst h4
    refine ⟨ofL r, ?_, rfl⟩
    rw [List.mem_filter, lacks_iff]
    exact ⟨(hH.path hne _).mp h5, fun h => h6 ((hK.path hne' _).mpr h)⟩
  · rintro ⟨x, hx, rfl⟩
    rw [List.mem_filter, lacks_iff] at hx
    have hxw := hH.word hw x hx.1
    refine ⟨x.cps.toList, hxw.2, ?_, ?_, rfl, (hH.path hne _).mpr hx.1, fun h => hx.2 ((hK.path hne' _).mp h)⟩
    · intro e
      have : pathOf x = [] := by rw [pathOf_eq, e]; rfl
      refine hx.2 ((hK.path hne' _).mp ?_)
      rw [this, domOf_mem]; exact .inl rfl
    · have := hxw.1
      rw [Array.length_toList]; omega
end Mine
end

section
open PySem PySem.W PyProof.Rows PySem.Calls Builtin
set_option maxRecDepth 100000
set_option maxHeartbeats 1000000
namespace Mine
/-- two rising lists read side by side, up to i and j -/
structure PJ (es as : List PySem.Str) (i j : Nat) : Prop where
  hi : i ≤ es.length
  hj : j ≤ as.length
  lt1 : ∀ x ∈ es.take i, ∀ y ∈ as.drop j, slt x y
  lt2 : ∀ y ∈ as.take j, ∀ x ∈ es.drop i, slt y x
theorem PJ.zero (es as : List PySem.Str) : PJ es as 0 0 := ⟨Nat.zero_le _, Nat.zero_le _, fun x hx => by simp at hx, fun x hx => by simp at hx⟩
theorem PJ.sym {es as : List PySem.Str} {i j : Nat} (h : PJ es as i j) : PJ as es j i := ⟨h.hj, h.hi, h.lt2, h.lt1⟩
theorem drop_cons' {l : List PySem.Str} {i : Nat} {x : PySem.Str} (hx : l[i]? = some x) : l.drop i = x :: l.drop (i + 1) := by
  obtain ⟨h, rfl⟩ := List.getElem?_eq_some_iff.mp hx
  exact List.drop_eq_getElem_cons h
theorem take_snoc' {l : List PySem.Str} {i : Nat} {x : PySem.Str} (hx : l[i]? = some x) : l.take (i + 1) = l.take i ++ [x] := by
  rw [List.take_add_one, hx]; rfl
theorem rise_drop {l : List PySem.Str} (h : Rise l) {i : Nat} {x : PySem.Str} (hx : l[i]? = some x) : ∀ y ∈ l.drop (i + 1), slt x y := by
  have h1 : Rise (l.drop i) := List.Pairwise.drop h
  rw [drop_cons' hx] at h1
  exact (List.pairwise_cons.mp h1).1
theorem PJ.a {es as : List PySem.Str} {i j : Nat} {x y : PySem.Str} (ra : Rise as) (h : PJ es as i j) (hx : es[i]? = some x) (hy : as[j]? = some y) (hlt : slt x y) :
    PJ es as (i + 1) j ∧ (es.take (i + 1)).filter (lacks as) = (es.take i).filter (lacks as) ++ [x] := by
  have hil : i < es.length := (List.getElem?_eq_some_iff.mp hx).1
  have hxd : ∀ z ∈ as.drop j, slt x z := by
    rw [drop_cons' hy]
    intro z hz
    rcases List.mem_cons.mp hz with rfl | hz
    · exact hlt
    · exact slt_trans hlt (rise_drop ra hy z hz)
  refine ⟨⟨hil, h.hj, fun u hu z hz => ?_, fun z hz u hu => ?_⟩, ?_⟩
  · rw [take_snoc' hx] at hu
    rcases List.mem_append.mp hu with hu | hu
    · exact h.lt1 u hu z hz
    · rw [List.mem_singleton.mp hu]; exact hxd z hz
  · exact h.lt2 z hz u (by rw [drop_cons' hx]; exact .tail _ hu)
  · have hn : lacks as x = true := by
      rw [lacks_iff]
      intro hm
      rw [← List.take_append_drop j as] at hm
      rcases List.mem_append.mp hm with hm | hm
      · exact slt_irrefl x (h.lt2 x hm x (by rw [drop_cons' hx]; exact .head _))
      · exact slt_irrefl x (hxd x hm)
    rw [take_snoc' hx, List.filter_append, List.filter_cons_of_pos hn]; rfl
theorem PJ.c {es as : List PySem.Str} {i j : Nat} {x : PySem.Str} (re : Rise es) (ra : Rise as) (h : PJ es as i j) (hx : es[i]? = some x) (hy : as[j]? = some x) :
    PJ es as (i + 1) (j + 1) ∧ (es.take (i + 1)).filter (lacks as) = (es.take i).filter (lacks as) ∧ (as.take (j + 1)).filter (lacks es) = (as.take j).filter (lacks es) := by
  have hil : i < es.length := (List.getElem?_eq_some_iff.mp hx).1
  have hjl : j < as.length := (List.getElem?_eq_some_iff.mp hy).1
  refine ⟨⟨hil, hjl, fun u hu z hz => ?_, fun z hz u hu => ?_⟩, ?_, ?_⟩
  · rw [take_snoc' hx] at hu
    rcases List.mem_append.mp hu with hu | hu
    · exact h.lt1 u hu z (by rw [drop_cons' hy]; exact .tail _ hz)
    · rw [List.mem_singleton.mp hu]; exact rise_drop ra hy z hz
  · rw [take_snoc' hy] at hz
    rcases List.mem_append.mp hz with hz | hz
    · exact h.lt2 z hz u (by rw [drop_cons' hx]; exact .tail _ hu)
    · rw [List.mem_singleton.mp hz]; exact rise_drop re hx u hu
  · have hn : ¬ lacks as x = true := by rw [lacks_iff]; exact fun h => h (List.mem_of_getElem? hy)
    rw [take_snoc' hx, List.filter_append, List.filter_cons_of_neg hn]; simp
  · have hn : ¬ lacks es x = true := by rw [lacks_iff]; exact fun h => h (List.mem_of_getElem? hx)
    rw [take_snoc' hy, List.filter_append, List.filter_cons_of_neg hn]; simp
theorem PJ.fin {es as : List PySem.Str} {i j : Nat} (h : PJ es as i j) (he : i = es.length ∨ j = as.length) : es.filter (lacks as) = (es.take i).filter (lacks as) ++ es.drop i := by
  conv => lhs; rw [← List.take_append_drop i es, List.filter_append]
  congr 1
  rw [List.filter_eq_self]
  intro x hx
  rw [lacks_iff]
  intro hm
  rcases he with he | he
  · rw [he, List.drop_length] at hx; cases hx
  · have := h.lt2 x (by rw [he, List.take_length]; exact hm) x hx
    exact slt_irrefl x this
theorem next_ne {l : List PySem.Str} (h : Rise l) {i : Nat} {x y : PySem.Str} (hx : l[i]? = some x) (hy : l[i + 1]? = some y) : y ≠ x := by
  rintro rfl
  exact slt_irrefl y (h.get (Nat.lt_succ_self i) hx hy)
end Mine
end

section
open PySem PySem.W PyProof.Rows PySem.Calls Builtin LCg
set_option maxRecDepth 100000
set_option maxHeartbeats 1000000
set_option pp.deepTerms false
set_option pp.deepTerms.threshold 9
namespace Mine
local macro_rules | `(tactic| k_all) => `(tactic| assumption)
local macro_rules | `(tactic| size_fits) => `(tactic| assumption)
theorem ne_of_allLt {d : Addr} {l : Led} (h : AllLt d l) : ∀ p ∈ l, p.1 ≠ d := by
  induction l with
  | nil => intro p hp; cases hp
  | cons a l ih =>
    intro p hp
    rcases List.mem_cons.mp hp with e | hp
    · rw [e]; exact Nat.ne_of_lt h.1
    · exact ih h.2 p hp
local macro_rules | `(tactic| walk_at "eval Name") => `(tactic| (k_here; k_dflt (refine' ld ?k1 ?k2 ?_; (case k1 => k_asm); (case k2 => with_unfolding_all assumption); k_whole)))
/-- the letters of a code to the base 3, up to its first nought -/
noncomputable def wordC : Nat → Int → PySem.Str
  | 0, _ => ⟨#[]⟩
  | n + 1, c => if c.fmod 3 = 0 then ⟨#[]⟩ else (⟨#[96 + (c.fmod 3).toNat]⟩ : PySem.Str) ++ wordC n (c.fdiv 3)
noncomputable def wordX (x : Int) : PySem.Str := wordC 4 ((x.fdiv 3).fmod 81)
noncomputable def WhJ (tot : PySem.Str) (x : Int) (tx : Tok) (tp : Addr) (led : Led) (n : Nat) (m' : PySem.Str → Option Value) (nx : Led) : Prop :=
  ∃ (c : Int) (u : PySem.Str) (tc tw : Tok), nx = led ∧ m' (Str.ofString "code") = some (.int c tc) ∧ m' (Str.ofString "word") = some (.str u tw) ∧ m' (Str.ofString "x") = some (.int x tx) ∧ m' (Str.ofString "rows") = some (.ref tp) ∧
    0 ≤ c ∧ c < 3 ^ n ∧ u ++ wordC n c = tot ∧ u.cps.size + n ≤ 4
/-- which row takes the word of x -/
noncomputable def selR (side : Nat) (x : Int) : Bool := decide (x.fmod 3 = side) || decide (x.fmod 3 = 2)
noncomputable def rowW (side : Nat) (xs : List Int) : List PySem.Str := (xs.filter (selR side)).map wordX
noncomputable def xsOf (ns : List Int) : List Int := [21, 5, 7, 76, 24] ++ ns.take 6
noncomputable def RowJ (l r0 r1 tp : Addr) (ol ot : Obj) (mine : Led) (xs : List Int) (i : Nat) (m' : PySem.Str → Option Value) (nx : Led) : Prop :=
  ∃ v0 n0 v1 n1, nx = (l, ol) :: (tp, ot) :: (r1, W.listOf v1.toArray n1) :: (r0, W.listOf v0.toArray n0) :: mine ∧ StrsAre v0 (rowW 0 (xs.take i)) ∧ StrsAre v1 (rowW 1 (xs.take i)) ∧ m' (Str.ofString "rows") = some (.ref tp)
theorem xs11 (ns : List Int) : (xsOf ns).length ≤ 11 := by
  unfold xsOf; rw [List.length_append, List.length_take]; exact Nat.add_le_add_left (Nat.min_le_left 6 ns.length) 5
theorem rowW_len (i : Nat) (xs : List Int) : (rowW i xs).length ≤ xs.length := by unfold rowW; rw [List.length_map]; exact List.length_filter_le ..
theorem rowW_step (s : Nat) {xs : List Int} {i : Nat} {x : Int} (hx : xs[i]? = some x) : rowW s (xs.take (i + 1)) = rowW s (xs.take i) ++ if selR s x = true then [wordX x] else [] := by
  unfold rowW
  rw [List.take_add_one, hx, Option.toList_some, List.filter_append, List.map_append]
  by_cases h : selR s x = true
  · rw [if_pos h, List.filter_cons_of_pos h]; rfl
  · rw [if_neg h, List.filter_cons_of_neg h]; rfl
noncomputable def SideJ (sp r0 r1 tp : Addr) (osp : Obj) (pre mine : Led) (x : Int) (tx : Tok) (b0 b1 : List PySem.Str) (i : Nat) (m' : PySem.Str → Option Value) (nx : Led) : Prop :=
  ∃ v0 n0 v1 n1 tw, nx = (sp, osp) :: (pre ++ ((r1, W.listOf v1.toArray n1) :: (r0, W.listOf v0.toArray n0) :: mine)) ∧ StrsAre v0 (b0 ++ if 1 ≤ i ∧ selR 0 x = true then [wordX x] else []) ∧ StrsAre v1 (b1 ++ if 2 ≤ i ∧ selR 1 x = true then [wordX x] else []) ∧
    m' (Str.ofString "rows") = some (.ref tp) ∧ m' (Str.ofString "x") = some (.int x tx) ∧ m' (Str.ofString "word") = some (.str (wordX x) tw)
theorem rows_does {w : World} {G : GG} {base : Heap} {sc : Addr} {vs : List Value} {ns : List Int}
  (A : Around) (L : Addr) (h₀ : Heap) (m : PySem.Str → Option Value) (mine : Led) (s : Shared) (R : Result → Shared → Prop) (hl : h₀.IsList sc vs.toArray) (hi : IntsAre vs ns) (hn : ns.length ≤ 63)
    (Si : Sit w G A L base h₀) (hd : A.depth + 20 < recursionLimit) (hu : A.units + 160 < cLine) (F : Fr h₀ L s.heap m) (N : News h₀ L s.heap mine)
    (kk : ∀ tp r0 r1 v0 n0 v1 n1 h' tk', Fr h₀ L h' m → News h₀ L h' ((tp, tupOf #[.ref r0, .ref r1]) :: (r1, W.listOf v1.toArray n1) :: (r0, W.listOf v0.toArray n0) :: mine) → (r1 < tp ∧ r0 < tp ∧ AllLt tp mine) → (r0 < r1 ∧ AllLt r1 mine) → (∀ p ∈ mine, p.1 < r0) →
      StrsAre v0 (rowW 0 (xsOf ns)) → StrsAre v1 (rowW 1 (xsOf ns)) → R (.ok (.ret (.ref tp))) { s with heap := h', toks := tk' }) :
    codeAny (model Challenge.rw_in0102_01.row.prog w) A (.call (.ref 83) ⟨[.ref sc], []⟩) R s := by
  obtain ⟨env, outer, A₀, B, hA, hf, hke⟩ := Si.fr
  have X := Si.X
  have T := Si.T
  have hh := Si.hh
  have C1 := Si.C1
  have C2 := Si.C2
  obtain ⟨hd9, dp, fr, gd, un⟩ := A
  dsimp only at hA hh hd hu
  subst hA hh
  revert X; k_fill; intro X
  k_dflt (refine' code_def ?k1 ?k2 ?k3 ?k4 ?k5 ?kA ?kF ?kK ?k6 ?k7 ?k8 ?k9 ?kB ?_ ?c2 ?c3 ?c4 ?c5; (case kA => exact rfl); (case kF => assumption); (case kK => assumption); (case k1 => k_asm); (case k2 => k_asm); (case k3 => k_asm); (case k4 => k_asm); (case k5 => k_asm); (case k6 => k_is); (case k7 => k_is); (case k8 => ((try dsimp only); exact lim0 hd)); (case k9 => exact BindsTo.of_eq rfl); (case c5 => decide); (case kB => exact locs rfl); (case c2 => exact rfl); (case c3 => exact rfl); (case c4 => exact rfl); k_whole; intro g' L' h' FG' F' N' B' X' T'; (try dsimp only); (try k_fold))
  have hl' : g'.IsList sc vs.toArray := hl.at fun o e => FG'.keep _ _ e
  iterate 16 walk1
  refine For_invV g' rfl rfl ?_
  k_steps
  rename_i r0 hA lA r1 hB lB tp hCC lCC hDD l5 hE lE D6 ws6 hF hI6 hC6 hL6 lF xl wsx hG F2 N2 hIx lG
  have N3 : News g' L' hG ((xl, W.listOf wsx.toArray 0) :: (tp, { cls := .type "tuple", data := .seq #[.ref r0, .ref r1] }) :: (r1, W.listOf #[] 0) :: (r0, W.listOf #[] 0) :: mine) := News.sub N2 skip2
  refine iter_list (RowJ xl r0 r1 tp (W.listOf wsx.toArray 0) { cls := .type "tuple", data := .seq #[.ref r0, .ref r1] } mine (xsOf ns)) rfl F2 N3 (.head _) (fun i m' nx h => by obtain ⟨v0, n0, v1, n1, rfl, _⟩ := h; exact .head _) ⟨[], 0, [], 0, rfl, .nil, .nil, rfl⟩ ?_ ?_
  · rintro i v m₁ nx h4 tk4 I oI hv ⟨v0, n0, v1, n1, rfl, hv0, hv1, hw1⟩ hoff F4 N4
    obtain ⟨x, t, rfl, hx⟩ := hIx.at i v (by rw [List.getElem?_toArray] at hv; exact hv)
    iterate 15 walk1
    rename Fr g' L' _ _ => F5; rename News g' L' _ _ => N5
    refine While_inv (WhJ (wordX x) x t tp ((I, oI) :: (xl, W.listOf wsx.toArray 0) :: (tp, { cls := .type "tuple", data := .seq #[.ref r0, .ref r1] }) :: (r1, W.listOf v1.toArray n1) :: (r0, W.listOf v0.toArray n0) :: mine)) (n₀ := 4) F5 N5 ⟨_, _, _, _, rfl, rfl, rfl, rfl, hw1, ?_, ?_, ?_, ?_⟩ ?_
    · exact Int.fmod_nonneg_of_pos _ (by decide)
    · exact Int.fmod_lt_of_pos _ (by decide)
    · rw [show (Str.ofString "" : PySem.Str) = ⟨#[]⟩ by decide +kernel]
      apply PySem.Str.ext'
      simp [PySem.Str.cps_append, wordX]
    · decide
    · rintro n m₂ nx h6 tk6 F6 N6 ⟨c, u, tc, tw, rfl, hq1, hq2, hq3, hq4, hq5, hq6, hq7, hq8⟩
      iterate 9 walk1
      · k_steps
        rename_i hc3 hitem
        have hm1 := Int.fmod_nonneg_of_pos c (show (0 : Int) < 3 by decide)
        have hm2 := Int.fmod_lt_of_pos c (show (0 : Int) < 3 by decide)
        have hn1 : ∃ n', n = n' + 1 := by
          cases n with
          | zero => rw [Int.pow_zero] at hq6; exfalso; exact hc3 (by rw [om_c0 hq5 hq6]; rfl)
          | succ n => exact ⟨n, rfl⟩
        obtain ⟨n', rfl⟩ := hn1
        have hit : Txt.item (Str.ofString "ab") (c.fmod 3 - 1) = ⟨#[96 + (c.fmod 3).toNat]⟩ := by
          rcases (om_m3 hc3 hm1 hm2) with h | h <;> rw [h] <;> decide +kernel
        rw [hit]
        refine KXadd.add (K := 20) (L := 1) (by unfold PySem.Str.length; exact om_sz hq8) (Nat.le_refl _) (by decide) fun t6 k6 hk6 => ?_
        k_steps
        rename Fr g' L' _ _ => F8; rename News g' L' _ _ => N8
        have hdv : c.fdiv 3 = c / 3 := Int.fdiv_eq_ediv_of_nonneg _ (by decide)
        refine WhileStep.intro F8 N8 (Nat.lt_succ_self n') ⟨_, _, _, _, rfl, rfl, rfl, hq3, hq4, ?_, ?_, ?_, ?_⟩
        · rw [hdv]; exact om_d0 hq5
        · rw [hdv]; rw [Int.pow_succ] at hq6; exact om_d3 hq6
        · rw [← hq7, wordC, if_neg hc3]
          apply PySem.Str.ext'
          simp only [PySem.Str.cps_append, Array.append_assoc]
        · rw [PySem.Str.cps_append, Array.size_append]; simp only [List.size_toArray, List.length_singleton]; exact om_sz2 hq8
      · walk1
        refine For_invV g' rfl rfl ?_
        k_steps
        rename_i hc3 sp hS _ _ lS
        have hu : u = wordX x := by
          rw [← hq7]
          cases n with
          | zero => apply PySem.Str.ext'; simp [PySem.Str.cps_append, wordC]
          | succ n => rw [wordC, if_pos (by assumption)]; apply PySem.Str.ext'; simp [PySem.Str.cps_append]
        subst hu
        have hm0 : ∀ p ∈ mine, p.1 ≠ r0 := fun p hp => Nat.ne_of_lt (lA p hp)
        have hm1 : ∀ p ∈ mine, p.1 ≠ r1 := ne_of_allLt lB.2
        have hI0 : @Ne Nat I r0 := (hoff (r0, W.listOf v0.toArray n0) (.tail _ (.tail _ (.tail _ (.head _))))).symm
        have hI1 : @Ne Nat I r1 := (hoff (r1, W.listOf v1.toArray n1) (.tail _ (.tail _ (.head _)))).symm
        have hxl := xs11 ns
        have hsl : 4000 ≤ sizeLine := by decide +kernel
        rename Fr g' L' _ _ => F8; rename News g' L' _ _ => N8
        refine iter_tup (SideJ sp r0 r1 tp _ [(I, oI), (xl, W.listOf wsx.toArray 0), (tp, { cls := .type "tuple", data := .seq #[.ref r0, .ref r1] })] mine x t (rowW 0 ((xsOf ns).take i)) (rowW 1 ((xsOf ns).take i))) rfl F8 N8 (.head _) (fun i m' nx h => by obtain ⟨v0, n0, v1, n1, _, rfl, _⟩ := h; exact .head _) ⟨v0, n0, v1, n1, tw, rfl, by simpa using hv0, by simpa using hv1, hq4, hq3, hq2⟩ ?_ ?_
        · rintro j v m₃ nx h7 tk7 I7 oI7 hv7 ⟨v0, n0, v1, n1, tw, rfl, hv0, hv1, hw1, hw2, hw3⟩ hoff7 F9 N9
          match j, hv7 with
          | 0, hv7 =>
            obtain ⟨t9, rfl⟩ : ∃ t9, v = .int 0 t9 := ⟨_, (Option.some.inj hv7).symm⟩
            simp only [List.cons_append, List.nil_append] at N9 hoff7
            have hz7 : v0.toArray.size ≤ sizeLine := by
              rw [List.size_toArray, hv0.length, List.length_append]
              have h1 : (if 1 ≤ 0 ∧ selR 0 x = true then [wordX x] else []).length ≤ 1 := by split <;> simp
              have h2 := rowW_len 0 ((xsOf ns).take i)
              rw [List.length_take] at h2
              exact om_row hxl hsl h1 h2
            have hI70 : @Ne Nat I7 r0 := (hoff7 (r0, W.listOf v0.toArray n0) (.tail _ (.tail _ (.tail _ (.tail _ (.tail _ (.head _))))))).symm
            k_steps
            · rename (List.any _ _ = true) => hyes
              have hsel : selR 0 x = true := by
                simp only [List.any_cons, List.any_nil, Bool.or_false, Bool.or_eq_true, beq_iff_eq] at hyes
                unfold selR; rw [Bool.or_eq_true, decide_eq_true_iff, decide_eq_true_iff]; exact hyes.imp Eq.symm Eq.symm
              rename Fr g' _ _ _ => F10; rename News g' _ _ _ => N10
              rw [List.push_toArray] at N10
              refine (show TurnEnd _ _ _ _ _ _ _ from ⟨_, _, _, _, rfl, F10, News.sub N10 (fun q hq => .tail _ hq), ?_, v0 ++ [Value.str (wordX x) tw], n0 + 1, v1, n1, tw, rfl, ?_, ?_, hw1, hw2, hw3⟩)
              · exact off_set2 (pre := [_, _, _, _]) hoff7
              · rw [if_pos ⟨Nat.le_refl _, hsel⟩]; rw [if_neg (by exact not_and1 (by decide)), List.append_nil] at hv0; exact strsAre_app hv0 (.cons _ _ .nil)
              · rw [if_neg (by exact not_and1 (by decide))] at hv1 ⊢; exact hv1
            · rename (List.any _ _ = false) => hno
              have hsel : selR 0 x = false := by
                simp only [List.any_cons, List.any_nil, Bool.or_false, Bool.or_eq_false_iff, beq_eq_false_iff_ne] at hno
                unfold selR; rw [Bool.or_eq_false_iff, decide_eq_false_iff_not, decide_eq_false_iff_not]; exact ⟨fun e => hno.1 e.symm, fun e => hno.2 e.symm⟩
              rename Fr g' _ _ _ => F10; rename News g' _ _ _ => N10
              refine (show TurnEnd _ _ _ _ _ _ _ from ⟨_, _, _, _, rfl, F10, News.sub N10 (fun q hq => .tail _ hq), hoff7, v0, n0, v1, n1, tw, rfl, ?_, ?_, hw1, hw2, hw3⟩)
              · rw [if_neg (by rw [hsel]; simp)]; rw [if_neg (by exact not_and1 (by decide))] at hv0; exact hv0
              · rw [if_neg (by exact not_and1 (by decide))] at hv1 ⊢; exact hv1
          | 1, hv7 =>
            obtain ⟨t9, rfl⟩ : ∃ t9, v = .int 1 t9 := ⟨_, (Option.some.inj hv7).symm⟩
            simp only [List.cons_append, List.nil_append] at N9 hoff7
            have hz7 : v1.toArray.size ≤ sizeLine := by
              rw [List.size_toArray, hv1.length, List.length_append]
              have h1 : (if 2 ≤ 1 ∧ selR 1 x = true then [wordX x] else []).length ≤ 1 := by split <;> simp
              have h2 := rowW_len 1 ((xsOf ns).take i)
              rw [List.length_take] at h2
              exact om_row hxl hsl h1 h2
            have hI70 : @Ne Nat I7 r1 := (hoff7 (r1, W.listOf v1.toArray n1) (.tail _ (.tail _ (.tail _ (.tail _ (.head _)))))).symm
            k_steps
            · rename (List.any _ _ = true) => hyes
              have hsel : selR 1 x = true := by
                simp only [List.any_cons, List.any_nil, Bool.or_false, Bool.or_eq_true, beq_iff_eq] at hyes
                unfold selR; rw [Bool.or_eq_true, decide_eq_true_iff, decide_eq_true_iff]; exact hyes.imp Eq.symm Eq.symm
              rename Fr g' _ _ _ => F10; rename News g' _ _ _ => N10
              rw [List.push_toArray] at N10
              refine (show TurnEnd _ _ _ _ _ _ _ from ⟨_, _, _, _, rfl, F10, News.sub N10 (fun q hq => .tail _ hq), ?_, v0, n0, v1 ++ [Value.str (wordX x) tw], n1 + 1, tw, rfl, ?_, ?_, hw1, hw2, hw3⟩)
              · exact off_set2 (pre := [_, _, _, _]) hoff7
              · simpa using hv0
              · rw [if_pos ⟨Nat.le_refl _, hsel⟩]; rw [if_neg (by exact not_and1 (by decide)), List.append_nil] at hv1; exact strsAre_app hv1 (.cons _ _ .nil)
            · rename (List.any _ _ = false) => hno
              have hsel : selR 1 x = false := by
                simp only [List.any_cons, List.any_nil, Bool.or_false, Bool.or_eq_false_iff, beq_eq_false_iff_ne] at hno
                unfold selR; rw [Bool.or_eq_false_iff, decide_eq_false_iff_not, decide_eq_false_iff_not]; exact ⟨fun e => hno.1 e.symm, fun e => hno.2 e.symm⟩
              rename Fr g' _ _ _ => F10; rename News g' _ _ _ => N10
              refine (show TurnEnd _ _ _ _ _ _ _ from ⟨_, _, _, _, rfl, F10, News.sub N10 (fun q hq => .tail _ hq), hoff7, v0, n0, v1, n1, tw, rfl, ?_, ?_, hw1, hw2, hw3⟩)
              · simpa using hv0
              · rw [if_neg (by rw [hsel]; simp)]; rw [if_neg (by exact not_and1 (by decide))] at hv1; exact hv1
          | n + 2, hv7 => cases hv7
        · rintro m₃ nx h7 tk7 ⟨v0', n0', v1', n1', tw, rfl, hv0', hv1', hw1, hw2, hw3⟩ F9 N9
          simp only [List.cons_append, List.nil_append] at N9
          k_steps
          rename Fr g' _ _ _ => F10; rename News g' _ _ _ => N10
          refine (show TurnEnd _ _ _ _ _ _ _ from ⟨_, _, _, _, rfl, F10, News.sub N10 (b := (I, oI) :: (xl, W.listOf wsx.toArray 0) :: (tp, tupOf #[.ref r0, .ref r1]) :: (r1, W.listOf v1'.toArray n1') :: (r0, W.listOf v0'.toArray n0') :: mine) (fun q hq => .tail _ hq), ?_, v0', n0', v1', n1', rfl, ?_, ?_, hw1⟩)
          · exact off_set2 (pre := [_, _]) hoff
          · rw [rowW_step (xs := xsOf ns) 0 hx]; simpa using hv0'
          · rw [rowW_step (xs := xsOf ns) 1 hx]; simpa using hv1'
  · rintro m₁ nx h4 tk4 ⟨v0, n0, v1, n1, rfl, hv0, hv1, hw1⟩ F4 N4
    have hsz : wsx.toArray.size = (xsOf ns).length := by rw [List.size_toArray]; exact hIx.length
    rw [hsz, List.take_length] at hv0 hv1
    k_steps
    rename_i kF kN Tc kX
    exact kk tp r0 r1 v0 n0 v1 n1 h4 _ kF (News.sub kN fun q hq => .tail _ hq) lCC lB lA hv0 hv1
end Mine
end

section
open PySem PySem.W PyProof.Rows
theorem Mine.clrRowsB (prog : Program) (w : World) (A : Around) (env : Env) (pos : Pos) (s : Shared) : True := by
  w_top off
  first
  | (have : wpAny (model prog w) A (PySem.eval (.Constant (.int 0) 0 pos) env) (fun _ _ => True) (fun _ _ => True) s := by (walk1; fail "x")); trivial
  | trivial
end

section
open PySem PySem.W PyProof.Rows PySem.Calls Builtin LCg
set_option maxRecDepth 100000
set_option maxHeartbeats 1000000
namespace Mine
section
variable {prog : Program} {w : World} {A : Around} {E : Value → Shared → Prop} {s : Shared} {h₀ : Heap} {L : Addr} {m : Str → Option Value} {env : Env}
/-- a turn's end: the block's own four objects and the ledger stand as they stood -/
noncomputable def EnEnd (h₀ : Heap) (L : Addr) (m : Str → Option Value) (s : Shared) (own news : Led) (P : Prop) (s' : Shared) : Prop :=
  ∃ h' tk, s' = { s with heap := h', toks := tk } ∧ Fr h₀ L h' m ∧ News h₀ L h' (own ++ news) ∧ P
theorem EnEnd.intro {own news all : Led} {P : Prop} {h' : Heap} {tk : Nat} (F : Fr h₀ L h' m) (N : News h₀ L h' all) (sub : ∀ p ∈ own ++ news, p ∈ all) (hP : P) : EnEnd h₀ L m s own news P { s with heap := h', toks := tk } :=
  ⟨h', tk, rfl, F, fun p hp => N p (sub p hp), hP⟩
noncomputable def EnTurn (prog : Program) (w : World) (A : Around) (h₀ : Heap) (L : Addr) (m : Str → Option Value) (env : Env) (c elt : Expr) (a b : Str) (scope : Scope) (cl : List (Str × Addr)) (s : Shared) (its : Array Value) (news : Led) (J : Nat → List Value → Prop) : Prop :=
  ∀ (i : Nat) (v : Value) (t : Tok) (ys : List Value) (e : Addr) (oE : Obj) (it : Addr) (oI : Obj) (C : Addr) (oC : Obj) (D : Addr) (m₂ : Str → Option Value) (h : Heap) (tk : Nat) (E' : Value → Shared → Prop),
    its[i]? = some v → J i ys → NsObj oC m₂ → m₂ a = some (.int (i : Int) t) → m₂ b = some v → Fr h₀ L h m → News h₀ L h ((e, oE) :: (it, oI) :: (C, oC) :: (D, lst ys) :: news) →
      wpAny (model prog w) A (isTrue c (compEnvC scope cl C env) (eval c (compEnvC scope cl C env))) (fun ok s₃ => if ok = true then
        wpAny (model prog w) A (eval elt (compEnvC scope cl C env)) (fun y s₄ => EnEnd h₀ L m s [(e, oE), (it, oI), (C, oC), (D, lst ys)] news (J (i + 1) (ys ++ [y])) s₄) E' s₃
        else EnEnd h₀ L m s [(e, oE), (it, oI), (C, oC), (D, lst ys)] news (J (i + 1) ys) s₃) E' { s with heap := h, toks := tk }
theorem enum_block {elt iter c : Expr} {a b : Str} {pa pb tp : Pos} {kk : Nat} {scope : Scope} {cl : List (Str × Addr)} {pos : Pos} {s₂ : Shared} {e it l : Addr} {its : Array Value} {n0 : Nat} {news : Led} (J : Nat → List Value → Prop)
    {RR : Value → Addr → Result → Shared → Prop}
    (hh : A.handled = none) (hsz : its.size ≤ sizeLine) (hl : (l, W.listOf its n0) ∈ news) (hE : IsEnum s₂.heap e it 0 .none) (hIt : s₂.heap.IsListIter it l 0) (hei : e ≠ it)
    (hcell : ∀ y ∈ scope.names, y.2 ≠ .cell) (hkind : scope.kind = .function) (hxa : scope.names.lookup a = some .local) (hxb : scope.names.lookup b = some .local) (hab : ¬ a = b)
    (F : Fr h₀ L s₂.heap m) (N : News h₀ L s₂.heap news) (heL : e ≠ L) (hiL : it ≠ L) (he₀ : h₀.get? e = none) (hi₀ : h₀.get? it = none) (offe : ∀ p ∈ news, p.1 ≠ e) (offi : ∀ p ∈ news, p.1 ≠ it)
    (hj : J 0 []) (turn : EnTurn prog w A h₀ L m env c elt a b scope cl s₂ its news J)
    (hRR : ∀ D C h tk m' ys, Fr h₀ L h m → News h₀ L h ((D, lst ys) :: news) → Off1 D news → h.Ns C m' → h₀.get? C = none → h₀.get? D = none → C ≠ L → D ≠ L → C ≠ D → (∀ p ∈ news, p.1 ≠ C) → J its.size ys → RR (.ref D) C (.ok .next) { s₂ with heap := h, toks := tk }) :
    wpAny (model prog w) A (newList []) (fun acc s₃ => wpAny (model prog w) A (newFunctionEnv scope env.globals cl [] env.qual none .none (some env)) (fun cenv s₄ =>
      codeAny (model prog w) A (.compStart (.ListComp elt [⟨.Tuple [.Name a pa, .Name b pb] kk tp, iter, [c], 0⟩] scope pos) 0 (.ref e) acc { cenv with scope := relabel scope env }) (RR acc cenv.locals) s₄) E s₃) E s₂ := by
  refine wpAny_newObj_type (wpAny_newFunctionEnv hcell (by intro y hy; simp at hy) (fun h₁ hns₁ hsb₁ => ?_) hkind)
  dsimp only at hns₁ hsb₁ ⊢
  generalize hH2 : s₂.heap.push { cls := .type "list", dict := none, data := .seq ([] : List Value).toArray } = H2 at hns₁ hsb₁ ⊢
  have hC : H2.objs.size = s₂.heap.objs.size + 1 := by rw [← hH2, Heap.size_push]
  have fresh₀ : ∀ a, s₂.heap.objs.size ≤ a → h₀.get? a = none := fun a ha => by
    cases e : h₀.get? a with
    | none => rfl
    | some o' => exact absurd (Heap.lt_size (F.keep a o' e)) (Nat.not_lt.mpr ha)
  have below : ∀ b, b < s₂.heap.objs.size → b ≠ H2.objs.size ∧ b ≠ s₂.heap.objs.size := fun b hb => ⟨by rw [hC]; exact Nat.ne_of_lt (Nat.lt_succ_of_lt hb), Nat.ne_of_lt hb⟩
  have old : ∀ b o, s₂.heap.get? b = some o → h₁.get? b = some o := fun b o e => hsb₁.extBut b o (below b (Heap.lt_size e)).1 (Heap.get?_push_of_some _ (hH2 ▸ Heap.get?_push_of_some _ e))
  have hDC : s₂.heap.objs.size ≠ H2.objs.size := by rw [hC]; exact Nat.ne_of_lt (Nat.lt_succ_self _)
  have hacc : h₁.get? s₂.heap.objs.size = some (lst []) := hsb₁.extBut _ _ hDC (Heap.get?_push_of_some _ (hH2 ▸ Heap.get?_push_size _ rfl))
  have hD₀ : h₀.get? s₂.heap.objs.size = none := fresh₀ _ (Nat.le_refl _)
  have hC₀ : h₀.get? H2.objs.size = none := fresh₀ _ (by rw [hC]; exact Nat.le_succ _)
  have hLs := below L F.ns.lt
  have hes := below e (Heap.lt_size hE)
  have his := below it (by obtain ⟨o, h, _⟩ := hIt; exact Heap.lt_size h)
  have hns := fun p (hp : p ∈ news) => below p.1 (Heap.lt_size (N p hp).1)
  generalize s₂.heap.objs.size = D at *
  generalize H2.objs.size = C at *
  have W := WalksT.enumerate (prog := prog) (w := w) (A := A) hh e it l hei (offe _ hl) (offi _ hl) its
  have loop : ∀ s₃ : Shared, s₃ = { s₂ with heap := h₁, toks := s₂.toks + ([] : List (Str × Value)).length } →
      codeAny (model prog w) A (.compLoop (.ListComp elt [⟨.Tuple [.Name a pa, .Name b pb] kk tp, iter, [c], 0⟩] scope pos) 0 (.ref e) (.ref D) (compEnvC scope cl C env)) (RR (.ref D) C) s₃ := by
    rintro s₃ rfl
    refine kct_loop (fun k s' => ∃ h' tk i ys m', s' = { s₂ with heap := h', toks := tk } ∧ i ≤ its.size ∧ k = its.size + 1 - i ∧ ys.length ≤ i ∧ (∃ old, IsEnum h' e it i old) ∧ h'.IsListIter it l i ∧ Fr h₀ L h' m ∧ h'.Ns C m' ∧ News h₀ L h' ((D, lst ys) :: news) ∧ J i ys) ?_ (its.size + 1)
      ⟨h₁, _, 0, [], _, rfl, Nat.zero_le _, rfl, Nat.le_refl _, ⟨_, old _ _ hE⟩, hIt.at fun o x => old _ _ x, F.keeps old, hns₁, fun p hp => ?_, hj⟩
    · rintro k s' ⟨h', tk, i, ys, m', rfl, hi, rfl, hyl, hE', hI', F', hn', N', hJ⟩
      have N0 : News h₀ L h' news := fun p hp => N' p (.tail _ hp)
      have hst : (∃ old, IsEnum h' e it i old) ∧ h'.IsListIter it l i ∧ h'.IsList l its := ⟨hE', hI', News.isList N0 hl⟩
      by_cases hlt : i < its.size
      · refine W.item i _ _ _ hlt hst fun T vals h₂ tk₂ hP _ hT hM hk₂ => ?_
        obtain ⟨t, v, hv, rfl⟩ := hP
        have hTw := W.apart _ _ _ hM
        refine W.go _ _ _ i T _ _ _ hM fun h₃ hst₃ hk₃ => ?_
        have hT₃ : h₃.IsTuple T #[.int i t, v] := hT.at fun o x => hk₃ _ _ hTw x
        have up₃ : ∀ c o, c ≠ e → c ≠ it → h'.get? c = some o → h₃.get? c = some o := fun c o h1 h2 x => hk₃ c o (by simp [h1, h2]) (hk₂ c o (by simp [h1, h2]) x)
        have hCe : C ≠ e := hes.1.symm
        have hCi : C ≠ it := his.1.symm
        refine kcp_assign (env := compEnvC scope cl C env) hh hT₃ (lookup_relabel_local hxa) (lookup_relabel_local hxb) (by simp [compEnvC, relabel, hkind]) (hn'.at' fun o x => up₃ _ o hCe hCi x) fun h₄ tk₄ hn₄ hs₄ => ?_
        have up : ∀ c o, c ≠ e → c ≠ it → c ≠ C → h'.get? c = some o → h₄.get? c = some o := fun c o h1 h2 h3 x => hs₄ c o h3 (up₃ c o h1 h2 x)
        obtain ⟨⟨old3, hE₃⟩, hI₃, _⟩ := hst₃
        have hE₄ : IsEnum h₄ e it ((i + 1 : Nat) : Int) old3 := hs₄ e _ hCe.symm hE₃
        obtain ⟨oI, gI, cI, dI⟩ : h₄.IsListIter it l (i + 1) := hI₃.at fun o x => hs₄ it _ hCi.symm x
        obtain ⟨oC, heC, hoC⟩ := ns_obj hn₄
        have F₄ : Fr h₀ L h₄ m := ⟨F'.ns.at' fun o x => up _ o heL.symm hiL.symm hLs.1 x, fun c o x => up c o (fun q => by rw [q, he₀] at x; cases x) (fun q => by rw [q, hi₀] at x; cases x) (fun q => by rw [q, hC₀] at x; cases x) (F'.keep c o x), F'.above⟩
        have N₄ : News h₀ L h₄ ((e, _) :: (it, oI) :: (C, oC) :: (D, lst ys) :: news) := fun q hq => by
          rcases List.mem_cons.mp hq with rfl | hq
          · exact ⟨hE₄, heL, he₀⟩
          rcases List.mem_cons.mp hq with rfl | hq
          · exact ⟨gI, hiL, hi₀⟩
          rcases List.mem_cons.mp hq with rfl | hq
          · exact ⟨heC, hLs.1.symm, hC₀⟩
          have z := N' q hq
          refine ⟨up _ _ ?_ ?_ ?_ z.1, z.2⟩
          · rcases List.mem_cons.mp hq with rfl | hq
            · exact hes.2.symm
            · exact offe q hq
          · rcases List.mem_cons.mp hq with rfl | hq
            · exact his.2.symm
            · exact offi q hq
          · rcases List.mem_cons.mp hq with rfl | hq
            · exact hDC
            · exact (hns q hq).1
        have fin : ∀ (ys' : List Value) (h₅ : Heap) (tk₅ : Nat), ys'.length ≤ i + 1 → Fr h₀ L h₅ m → News h₀ L h₅ ((e, { cls := .type "enumerate", dict := none, data := .fields #[.none, .bool false, .ref it, rawInt ((i + 1 : Nat) : Int), .none, old3], slots := #[] }) :: (it, oI) :: (C, oC) :: (D, lst ys') :: news) → J (i + 1) ys' →
            ∃ q', q' < its.size + 1 - i ∧ (∃ h' tk i ys m', ({ s₂ with heap := h₅, toks := tk₅ } : Shared) = { s₂ with heap := h', toks := tk } ∧ i ≤ its.size ∧ q' = its.size + 1 - i ∧ ys.length ≤ i ∧ (∃ old, IsEnum h' e it i old) ∧ h'.IsListIter it l i ∧ Fr h₀ L h' m ∧ h'.Ns C m' ∧ News h₀ L h' ((D, lst ys) :: news) ∧ J i ys) := by
          intro ys' h₅ tk₅ hl5 F₅ N₅ hJ5
          exact ⟨its.size + 1 - (i + 1), by omega, h₅, tk₅, i + 1, ys', _, rfl, hlt, rfl, hl5, ⟨_, (N₅ _ (.head _)).1⟩, ⟨oI, (N₅ _ (.tail _ (.head _))).1, cI, dI⟩, F₅, hoC.ns (N₅ _ (.tail _ (.tail _ (.head _)))).1, fun q hq => N₅ q (.tail _ (.tail _ (.tail _ hq))), hJ5⟩
        refine wpAny_mono (turn i v t ys e _ it oI C oC D _ h₄ tk₄ _ hv hJ hoC (by simp [hab]) (by simp) F₄ N₄) (fun okb s₅ h₅ => ?_) fun _ _ x => x
        cases okb with
        | false =>
          simp only [Bool.false_eq_true, if_false] at h₅ ⊢
          obtain ⟨h₅, tk₅, rfl, F₅, N₅, hJ5⟩ := h₅
          exact fin ys h₅ tk₅ (Nat.le_succ_of_le hyl) F₅ N₅ hJ5
        | true =>
          simp only [if_true] at h₅ ⊢
          refine wpAny_mono h₅ (fun y s₆ h₆ => ?_) fun _ _ x => x
          obtain ⟨h₅, tk₅, rfl, F₅, N₅, hJ5⟩ := h₆
          simp only [List.cons_append, List.nil_append] at N₅
          refine append_at (hsz := by show ys.toArray.size ≤ sizeLine; rw [List.size_toArray]; exact Nat.le_trans hyl (Nat.le_trans hi hsz)) (N₅ (D, lst ys) (.tail _ (.tail _ (.tail _ (.head _))))).1 fun h₆ hs₆ hD₆ => ?_
          refine fin (ys ++ [y]) h₆ _ (by rw [List.length_append, List.length_singleton]; exact Nat.succ_le_succ hyl) (F₅.change hs₆ hLs.2.symm hD₀) (fun q hq => ?_) hJ5
          rcases List.mem_cons.mp hq with rfl | hq
          · exact ⟨hs₆.extBut _ _ hes.2 (N₅ _ (.head _)).1, heL, he₀⟩
          rcases List.mem_cons.mp hq with rfl | hq
          · exact ⟨hs₆.extBut _ _ his.2 (N₅ _ (.tail _ (.head _))).1, hiL, hi₀⟩
          rcases List.mem_cons.mp hq with rfl | hq
          · exact ⟨hs₆.extBut _ _ hDC.symm (N₅ _ (.tail _ (.tail _ (.head _)))).1, hLs.1.symm, hC₀⟩
          rcases List.mem_cons.mp hq with rfl | hq
          · exact ⟨hD₆.trans (congrArg some (lst_snoc ys y)), hLs.2.symm, hD₀⟩
          · exact ⟨hs₆.extBut _ _ (hns q hq).2 (N₅ _ (.tail _ (.tail _ (.tail _ (.tail _ hq))))).1, (N₅ _ (.tail _ (.tail _ (.tail _ (.tail _ hq))))).2⟩
      · obtain rfl : i = its.size := Nat.le_antisymm hi (Nat.not_lt.mp hlt)
        refine W.done _ _ _ hst fun h₂ tk₂ hk₂ => ?_
        have up : ∀ c o, c ≠ e → c ≠ it → h'.get? c = some o → h₂.get? c = some o := fun c o h1 h2 x => hk₂ c o (by simp [h1, h2]) x
        refine hRR D C h₂ tk₂ m' ys ⟨F'.ns.at' fun o x => up _ o heL.symm hiL.symm x, fun c o x => up c o (fun q => by rw [q, he₀] at x; cases x) (fun q => by rw [q, hi₀] at x; cases x) (F'.keep c o x), F'.above⟩ (fun q hq => ?_) ?_ (hn'.at' fun o x => up _ o hes.1.symm his.1.symm x) hC₀ hD₀ hLs.1.symm hLs.2.symm hDC.symm (fun p hp => (hns p hp).1) hJ
        · have z := N' q hq
          refine ⟨up _ _ ?_ ?_ z.1, z.2⟩
          · rcases List.mem_cons.mp hq with rfl | hq
            · exact hes.2.symm
            · exact offe q hq
          · rcases List.mem_cons.mp hq with rfl | hq
            · exact his.2.symm
            · exact offi q hq
        · have : ∀ l : Led, (∀ p ∈ l, p.1 ≠ D) → Off1 D l := by
            intro l
            induction l with
            | nil => intro _; trivial
            | cons p r ih => intro h; exact ⟨h p (.head _), ih fun q hq => h q (.tail _ hq)⟩
          exact this _ fun p hp => (hns p hp).2
    · rcases List.mem_cons.mp hp with rfl | hp
      · exact ⟨hacc, hLs.2.symm, hD₀⟩
      · exact ⟨old _ _ (N p hp).1, (N p hp).2⟩
  exact codeAny_compStart_list (loop _ rfl) (W.self 0 _ _ _ ⟨⟨_, old _ _ hE⟩, hIt.at fun o x => old _ _ x, News.isList (fun p hp => ⟨old _ _ (N p hp).1, (N p hp).2⟩) hl⟩ (loop _ rfl))
noncomputable def EnSrc (prog : Program) (w : World) (A : Around) (h₀ : Heap) (L : Addr) (m : Str → Option Value) (env : Env) (c elt : Expr) (a b : Str) (scope : Scope) (cl : List (Str × Addr)) (Fin : Shared → List Value → Led → Prop) (xv : Value) (s₁ : Shared) : Prop :=
  ∃ (e it l : Addr) (its : Array Value) (n0 : Nat) (news : Led) (J : Nat → List Value → Prop), xv = .ref e ∧ A.handled = none ∧ its.size ≤ sizeLine ∧ (l, W.listOf its n0) ∈ news ∧ IsEnum s₁.heap e it 0 .none ∧ s₁.heap.IsListIter it l 0 ∧ e ≠ it ∧
    Fr h₀ L s₁.heap m ∧ News h₀ L s₁.heap news ∧ (e ≠ L ∧ it ≠ L ∧ h₀.get? e = none ∧ h₀.get? it = none) ∧ (∀ p ∈ news, p.1 ≠ e) ∧ (∀ p ∈ news, p.1 ≠ it) ∧ J 0 [] ∧ EnTurn prog w A h₀ L m env c elt a b scope cl s₁ its news J ∧ ∀ ys, J its.size ys → Fin s₁ ys news
theorem enum_ListComp {c elt iter : Expr} {a b : Str} {pa pb tp : Pos} {kk : Nat} {scope : Scope} {cl : List (Str × Addr)} {pos : Pos} {Q : Value → Shared → Prop} (_F₀ : Fr h₀ L s.heap m)
    (hclos : closureFor scope env = pure cl) (hcell : ∀ y ∈ scope.names, y.2 ≠ .cell) (hkind : scope.kind = .function)
    (hnames : ∀ y ∈ scope.names, y.2 = .local → scope.names.lookup y.1 = some .local) (hxa : scope.names.lookup a = some .local) (hxb : scope.names.lookup b = some .local) (hab : ¬ a = b)
    (h : wpAny (model prog w) A (eval iter env) (EnSrc prog w A h₀ L m env c elt a b scope cl (fun s₂ => FinE h₀ L m s₂ Q)) E s)
    (hs : ∀ x, foldedSetIterable iter env x = pure x := by intro _; rfl) :
    wpAny (model prog w) A (eval (.ListComp elt [⟨.Tuple [.Name a pa, .Name b pb] kk tp, iter, [c], 0⟩] scope pos) env) Q E s := by
  rw [eval_ListComp]
  refine wpAny_comprehension_free (use := none) rfl hs hclos hkind hnames (wpAny_mono h (fun xv s₁ h₁ => ?_) fun _ _ e => e)
  obtain ⟨e, it, l, its, n0, news, J, rfl, hh, hsz, hl, hE, hIt, hei, F, N, ⟨heL, hiL, he₀, hi₀⟩, offe, offi, hj, turn, fin⟩ := h₁
  refine wpAny_pyIter_enum hE ?_
  refine enum_block J hh hsz hl hE hIt hei hcell hkind hxa hxb hab F N heL hiL he₀ hi₀ offe offi hj turn ?_
  intro D C h tk m' ys F' N' o1 hn hC₀ hD₀ hCL hDL hCD offC hJ
  refine ⟨m', hn, fun h'' hs'' => fin ys hJ D h'' tk (F'.change hs'' hCL hC₀) (fun p hp => ?_) o1⟩
  refine ⟨hs''.extBut _ _ ?_ (N' p hp).1, (N' p hp).2⟩
  rcases List.mem_cons.mp hp with rfl | hp
  · exact Ne.symm hCD
  · exact offC p hp
/-- the enumerate object of a ledger's list -/
theorem EnSrc.call {c elt : Expr} {a b : Str} {scope : Scope} {cl : List (Str × Addr)} {Fin : Shared → List Value → Led → Prop} {l : Addr} {its : Array Value} {n0 : Nat} {news : Led} (J : Nat → List Value → Prop)
    (hh : A.handled = none) (F : Fr h₀ L s.heap m) (N : News h₀ L s.heap news) (hl : (l, W.listOf its n0) ∈ news) (hsz : its.size ≤ sizeLine) (hj : J 0 [])
    (turn : ∀ g, EnTurn prog w A h₀ L m env c elt a b scope cl { s with heap := g } its news J) (fin : ∀ g ys, J its.size ys → Fin { s with heap := g } ys news) :
    wpAny (model prog w) A (call (.type "enumerate") [.ref l]) (EnSrc prog w A h₀ L m env c elt a b scope cl Fin) E s := by
  refine call_enumerate_list (News.isList N hl) fun h' hE hI hz hk => ?_
  have lt : ∀ b o, s.heap.get? b = some o → b < s.heap.objs.size := fun b o e => Heap.lt_size e
  have none₀ : ∀ a, s.heap.objs.size ≤ a → h₀.get? a = none := fun a ha => by
    cases e : h₀.get? a with
    | none => rfl
    | some o' => exact absurd (lt _ _ (F.keep a o' e)) (Nat.not_lt.mpr ha)
  refine ⟨_, _, l, its, n0, news, J, rfl, hh, hsz, hl, hE, hI, Nat.succ_ne_self _, F.keeps hk, N.grown hk, ⟨?_, ?_, none₀ _ (Nat.le_succ _), none₀ _ (Nat.le_refl _)⟩, fun p hp => ?_, fun p hp => ?_, hj, turn _, fin _⟩
  · exact Nat.ne_of_gt (Nat.lt_succ_of_lt F.ns.lt)
  · exact Nat.ne_of_gt F.ns.lt
  · exact Nat.ne_of_lt (Nat.lt_succ_of_lt (lt _ _ (N p hp).1))
  · exact Nat.ne_of_lt (lt _ _ (N p hp).1)
end
end Mine
end

section
open PySem PySem.W PyProof.Rows PySem.Calls Builtin
set_option maxRecDepth 100000
set_option maxHeartbeats 1000000
namespace Mine
noncomputable def Words (us : List PySem.Str) : Prop := ∀ u ∈ us, IsWord u
theorem word_ok {u : PySem.Str} (h : IsWord u) : PyData.strOk u = true := by
  unfold PyData.strOk
  rw [Array.all_eq_true_iff_forall_mem]
  intro c hc
  have := h.2 c (Array.mem_toList_iff.mpr hc)
  rcases this with rfl | rfl <;> decide
noncomputable abbrev strD (us : List PySem.Str) : List PyData := us.map PyData.str
theorem canLay_strs : ∀ {us : List PySem.Str}, Words us → PyData.canLayAll0 (strD us) = true
  | [], _ => rfl
  | u :: us, h => by
    simp only [strD, List.map_cons, PyData.canLayAll0, PyData.canLay0, Bool.and_eq_true]
    exact ⟨word_ok (h u (.head _)), canLay_strs fun v hv => h v (.tail _ hv)⟩
theorem depth_strs : ∀ us : List PySem.Str, PyData.depthAll (strD us) = 0
  | [] => rfl
  | u :: us => by
    have := depth_strs us
    simp only [strD] at this
    simp [strD, PyData.depthAll, PyData.depth, this]
theorem shaped_strs {us : List PySem.Str} (h : Words us) : SeqAt.shaped (.list (strD us)) = true := by
  simp [SeqAt.shaped, PyData.canLay0, PyData.depth, canLay_strs h, depth_strs]
theorem eqvAll_strs : ∀ us vs : List PySem.Str, PyData.eqvAll (strD us) (strD vs) = decide (us = vs)
  | [], [] => by simp [strD, PyData.eqvAll]
  | [], _ :: _ => by simp [strD, PyData.eqvAll]
  | _ :: _, [] => by simp [strD, PyData.eqvAll]
  | a :: r, b :: t => by
    have := eqvAll_strs r t
    simp only [strD] at this
    simp only [strD, List.map_cons, PyData.eqvAll, PyData.eqv, this]
    by_cases h : a = b <;> by_cases h' : r = t <;> simp [h, h']
theorem carried_strs : ∀ {vs : List Value} {us : List PySem.Str}, StrsAre vs us → CarriedAll vs (strD us)
  | _, _, .nil => .nil
  | _, _, .cons _ t r => .cons (.str _ t) (carried_strs r)
section
variable {prog : Program} {w : World} {A : Around} {E : Value → Shared → Prop} {s : Shared} {a b : Addr} {xs ys : List Value} {us vs : List PySem.Str} {Q : Value → Shared → Prop}
theorem reads_strs {h : Heap} (ha : h.IsList a xs.toArray) (hi : StrsAre xs us) : Reads h (.ref a) (.list (strD us)) [a] := reads_newData ha (carried_strs hi)
theorem ne_strs (ha : s.heap.IsList a xs.toArray) (hb : s.heap.IsList b ys.toArray) (hi : StrsAre xs us) (hj : StrsAre ys vs) (hw : Words us) (hv : Words vs) (hu : A.units + 64 < cLine) (h : Q (.bool (!decide (us = vs))) s) :
    wpAny (model prog w) A (compareOp .NotEq (.ref a) (.ref b)) Q E s :=
  ne_dataH (reads_strs ha hi) (reads_strs hb hj) (shaped_strs hw) (shaped_strs hv) hu (by
    have : PyData.eqv (.list (strD us)) (.list (strD vs)) = decide (us = vs) := by simp only [PyData.eqv]; exact eqvAll_strs us vs
    rw [this]; exact h)
end
end Mine
end

section
open PySem PySem.W PyProof.Rows PySem.Calls Builtin LCg
set_option maxRecDepth 100000
set_option maxHeartbeats 1000000
set_option pp.deepTerms false
set_option pp.deepTerms.threshold 7
namespace Mine
local macro_rules | `(tactic| k_all) => `(tactic| assumption)
local macro_rules | `(tactic| ke_room) => `(tactic| (dsimp only [Around.deeper]; omega))
noncomputable def prevL {α : Type} (l : List α) : Nat → List α
  | 0 => []
  | j + 1 => (l[j]?).toList
theorem pick_prev {vs : List Value} {i : Nat} (h : i < vs.length) : slicePick vs.toArray (some ((i : Int) - 1)) (some (i : Int)) none = (prevL vs i).toArray := by
  cases i with
  | zero =>
    have e : sliceBounds (some (((0 : Nat) : Int) - 1)) (some ((0 : Nat) : Int)) none vs.toArray.size = (((vs.length - 1 : Nat) : Int), ((0 : Nat) : Int), 1) := by
      rw [List.size_toArray]
      simp only [sliceBounds, Option.getD_none, show (1 : Int) > 0 by decide, if_true]
      rw [if_pos (show (((0 : Nat) : Int) - 1) < 0 by decide), if_neg (show ¬ (((0 : Nat) : Int) < 0) by decide)]
      congr 1
      · omega
    rw [kmk_pick_nat _ e]
    simp [prevL]
  | succ j =>
    have e : sliceBounds (some (((j + 1 : Nat) : Int) - 1)) (some ((j + 1 : Nat) : Int)) none vs.toArray.size = (((j : Nat) : Int), ((j + 1 : Nat) : Int), 1) := by
      rw [List.size_toArray]
      simp only [sliceBounds, Option.getD_none, show (1 : Int) > 0 by decide, if_true]
      rw [if_neg (show ¬ (((j + 1 : Nat) : Int) - 1 < 0) by omega), if_neg (show ¬ (((j + 1 : Nat) : Int) < 0) by omega)]
      congr 1
      · omega
      · congr 1; omega
    rw [kmk_pick_nat _ e]
    have hj : j < vs.length := by omega
    rw [List.toList_toArray, List.drop_eq_getElem_cons hj, show j + 1 - j = 1 by omega]
    show _ = (vs[j]?).toList.toArray
    rw [List.getElem?_eq_getElem hj]
    rfl
theorem prev_strs : ∀ {vs : List Value} {us : List PySem.Str} (i : Nat), StrsAre vs us → StrsAre (prevL vs i) (prevL us i)
  | _, _, 0, _ => .nil
  | vs, us, j + 1, h => by
    show StrsAre (vs[j]?).toList (us[j]?).toList
    cases hv : vs[j]? with
    | none =>
      have : us[j]? = none := by rw [List.getElem?_eq_none_iff] at hv ⊢; rw [← h.length]; exact hv
      rw [this]; exact .nil
    | some v =>
      obtain ⟨c, t, rfl, hc⟩ := strsAre_get h hv
      rw [hc]; exact .cons _ _ .nil
theorem prev_words {us : List PySem.Str} (h : Words us) (i : Nat) : Words (prevL us i) := by
  cases i with
  | zero => intro u hu; cases hu
  | succ j =>
    intro u hu
    have : us[j]? = some u := Option.mem_toList.mp hu
    exact h u (List.mem_of_getElem? this)
theorem keep_prev {ss : List PySem.Str} {i : Nat} {c : PySem.Str} (hc : ss[i]? = some c) : (!decide (prevL ss i = [c])) = keepAt ss i := by
  cases i with
  | zero => simp [prevL, keepAt]
  | succ j =>
    show (!decide ((ss[j]?).toList = [c])) = (ss[j]? != ss[j + 1]?)
    rw [hc]
    cases ss[j]? with
    | none => simp
    | some d => by_cases e : d = c <;> simp [e]
theorem once_does {w : World} {G : GG} {base : Heap} {l : Addr} {vs : List Value} {us : List PySem.Str} {n : Nat}
  (A : Around) (L : Addr) (h₀ : Heap) (m : PySem.Str → Option Value) (mine : Led) (s : Shared) (R : Result → Shared → Prop) (hst : StrsAre vs us) (hwd : Words us) (hlen : us.length < 64) (hmem : (l, W.listOf vs.toArray n) ∈ mine)
    (Si : Sit w G A L base h₀) (hd : A.depth + 20 < recursionLimit) (hu : A.units + 160 < cLine) (F : Fr h₀ L s.heap m) (N : News h₀ L s.heap mine)
    (kk : ∀ D vs' rs n' h' tk', Fr h₀ L h' m → News h₀ L h' ((D, W.listOf vs'.toArray n') :: mine) → (∀ q ∈ mine, q.1 ≠ D) → StrsAre vs' rs → Rise rs → (∀ x, x ∈ rs ↔ x ∈ us) → R (.ok (.ret (.ref D))) { s with heap := h', toks := tk' }) :
    codeAny (model Challenge.rw_in0102_01.row.prog w) A (.call (.ref 119) ⟨[.ref l], []⟩) R s := by
  obtain ⟨env, outer, A₀, B, hA, hf, hke⟩ := Si.fr
  have X := Si.X
  have T := Si.T
  have hh := Si.hh
  have C1 := Si.C1
  have C2 := Si.C2
  obtain ⟨hd9, dp, fr, gd, un⟩ := A
  dsimp only at hA hh hd hu
  subst hA hh
  revert X; k_fill; intro X
  k_dflt (refine' code_defC ?k1 ?k2 ?k3 ?k4 ?k5 ?kA ?kF ?kK ?k6 ?k7 ?k8 ?k9 ?kB ?kD ?_ ?c2 ?c3 ?c4; (case kA => exact rfl); (case kF => assumption); (case kK => assumption); (case k1 => k_asm); (case k2 => k_asm); (case k3 => k_asm); (case k4 => k_asm); (case k5 => k_asm); (case k6 => k_is); (case k7 => k_is); (case k8 => ((try dsimp only); omega)); (case k9 => first | exact BindsTo.of_eq rfl | exact binds_K (by k_in) rfl (by k_is) rfl rfl rfl | fail "k_enter: no rule for these arguments"); (case kB => exact rfl); (case kD => decide +kernel); (case c2 => exact rfl); (case c3 => exact rfl); (case c4 => exact rfl); k_whole; intro g' L' h' tk' cells' FG' F' N' Y' B' X' T' l1; (try k_lt l1); k_cells Y'; (try simp only [List.cons_append, List.nil_append] at N'); (try dsimp only); (try k_lift B'); (try k_fold))
  have hvl : vs.length < 64 := by rw [hst.length]; exact hlen
  k_steps
  refine sorted_N_str F' N' (News.isList N' (.tail _ hmem)) hst hvl ?_
  intro h1 vs1 ss e1 F1 N1 hS1 hp1 hs1
  have lD : ∀ p ∈ (L' + 1, _) :: mine, @LT.lt Nat _ p.1 (h'.objs.size + 1) := fun p hp => Nat.lt_succ_of_lt (Heap.lt_size (N' p hp).1)
  dsimp only at F1 N1 ⊢
  generalize h'.objs.size + 1 = D1 at *
  have ne1 : @Ne Nat D1 (L' + 1) := Nat.ne_of_gt (lD _ (.head _))
  have ne2 : ∀ p ∈ mine, p.1 ≠ L' + 1 := fun p hp => Nat.ne_of_lt (Nat.lt_succ_of_lt (l1 p hp))
  walk1
  iterate 3 walk1
  refine enum_ListComp (by k_asm) (by with_unfolding_all rfl) (by decide) (by rfl) (by decide) (by rfl) (by rfl) (by decide) ?_
  k_steps
  rename Fr g' L' _ _ => F2; rename News g' L' _ _ => N2
  have hvl1 : vs1.length < 64 := by rw [hS1.length, hp1.length_eq]; exact hlen
  have hsl : 4000 ≤ sizeLine := by decide +kernel
  refine EnSrc.call (fun i ys => StrsAre ys (onceN ss i)) rfl F2 N2 (.head _) (by rw [List.size_toArray]; omega) .nil (fun g => ?_) (fun g ys hJ => ?_)
  · intro i v t ys e oE it oI C oC D m₂ h tk E' hv hJ hC hk hw F3 N3
    obtain ⟨c, tc, rfl, hc⟩ := strsAre_get hS1 (by rw [List.getElem?_toArray] at hv; exact hv)
    have hil : i < vs1.length := by
      rw [hS1.length]; exact (List.getElem?_eq_some_iff.mp hc).1
    k_steps
    refine kmk_slice (by k_asm) (by k_asm) (by exact News.isList (by k_asm) (by k_mem)) (by kmk_part) (by kmk_part) ?_ (by with_unfolding_all rfl) (by kmk_pure) (by rw [List.size_toArray]; omega)
    intro D5 h5 F5 N5 l5
    rw [pick_prev hil] at N5
    iterate 5 walk1
    have hwss : Words ss := fun u hu => hwd u (hp1.mem_iff.mp hu)
    have hwc : IsWord c := hwss c (List.mem_of_getElem? hc)
    rename Fr g' L' _ _ => F6; rename News g' L' _ _ => N6
    refine ne_strs (ys := [.str c tc]) (News.isList N6 (.tail _ (.head _))) (News.isList N6 (.head _)) (prev_strs i hS1) (.cons c tc .nil) (prev_words hwss i) (fun u hu => by rw [List.mem_singleton.mp hu]; exact hwc) (by dsimp only [Around.deeper]; omega) ?_
    rw [keep_prev hc]
    have hnx : onceN ss (i + 1) = onceN ss i ++ if keepAt ss i then [c] else [] := by rw [onceN, hc]; rfl
    cases hkp : keepAt ss i with
    | false =>
      rw [hkp] at hnx
      k_steps
      exact EnEnd.intro F6 N6 (fun p hp => .tail _ (.tail _ hp)) (by rw [hnx]; simpa using hJ)
    | true =>
      rw [hkp] at hnx
      k_steps
      exact EnEnd.intro F6 N6 (fun p hp => .tail _ (.tail _ hp)) (by rw [hnx]; exact strsAre_app hJ (.cons _ _ .nil))
  · intro D h tk F3 N3 O3
    k_steps
    rename_i kF kN Tc kX
    obtain ⟨q1, q2⟩ := once_rise hp1 hs1
    rw [List.size_toArray, hS1.length] at hJ
    refine kk D ys _ ys.length h tk kF (News.sub kN fun p hp => ?_) (fun q hq => ?_) hJ q1 q2
    · rcases List.mem_cons.mp hp with rfl | hp
      · exact .head _
      · exact .tail _ (.tail _ (.tail _ hp))
    · exact off1_mem O3 q (.tail _ (.tail _ hq))
end Mine
end

section
open PySem PySem.W PyProof.Rows
theorem Mine.clrOnceB (prog : Program) (w : World) (A : Around) (env : Env) (pos : Pos) (s : Shared) : True := by
  w_top off
  first
  | (have : wpAny (model prog w) A (PySem.eval (.Constant (.int 0) 0 pos) env) (fun _ _ => True) (fun _ _ => True) s := by (walk1; fail "x")); trivial
  | trivial
end

section
open PySem PySem.W PyProof.Rows PySem.Calls Builtin
set_option maxRecDepth 100000
set_option maxHeartbeats 1000000
namespace Mine
/-- an IndexError, its traceback v1, its context c -/
structure Ex (oe : Obj) (v1 c : Value) : Prop where
  cls : oe.cls = .type "IndexError"
  data : ∃ t, oe.data = .fields #[t, v1, c, .none, .bool false, .none]
noncomputable def Tb (o : Obj) (fl : Value) : Prop := ∃ ts, o.data = .fields ts ∧ ts[3]? = some fl
theorem none_keeps {h h' : Heap} {b : Addr} (k : ∀ b o, h.get? b = some o → h'.get? b = some o) (hn : h'.get? b = none) : h.get? b = none := by
  cases hq : h.get? b with
  | none => rfl
  | some o => rw [k b o hq] at hn; cases hn
section
variable {h₀ h h' : Heap} {L' : Addr} {m : PySem.Str → Option Value} {news : Led}
theorem exc_led {e : Addr} {oe : Obj} (F : Fr h₀ L' h m) (N : News h₀ L' h news) (k : ∀ b o, h.get? b = some o → h'.get? b = some o) (hn : h.get? e = none) (he : h'.get? e = some oe) :
    Fr h₀ L' h' m ∧ News h₀ L' h' ((e, oe) :: news) ∧ ∀ p ∈ news, p.1 ≠ e := by
  obtain ⟨oL, es, ep, hL, _⟩ := F.ns
  refine ⟨F.keeps k, fun p hp => ?_, fun p hp q => ?_⟩
  · rcases List.mem_cons.mp hp with rfl | hp
    · exact ⟨he, (fun (q : e = L') => by rw [q, hL] at hn; cases hn), none_keeps F.keep hn⟩
    · exact ⟨k _ _ (N p hp).1, (N p hp).2⟩
  · have := (N p hp).1
    rw [q, hn] at this; cases this
end
section
variable {M : Model} {A : Around} {E : Value → Shared → Prop} {s : Shared} {h₀ : Heap} {L L' : Addr} {m : PySem.Str → Option Value} {oL : Obj} {news : Led} {env env1 : Env}
theorem note_first {e : Addr} {oe : Obj} {c : Value} {new : Led} {Q : Unit → Shared → Prop} (hfr : A.frames = some [env, env1]) (hf : env.frame = some L') (hf1 : env1.frame = some L) (hk : env.scope.kind = .function) (hk1 : env1.scope.kind = .function)
    (F : Fr h₀ L' s.heap m) (N : News h₀ L' s.heap ((e, oe) :: (new ++ [(L, oL)]))) (hoL : ∃ es ep, oL.data = .dict es ep) (hx : Ex oe .none c) (hne : ∀ p ∈ new ++ [(L, oL)], p.1 ≠ e) (hnL : ∀ p ∈ new, p.1 ≠ L)
    (h : ∀ h' tb otb oe' sl, Fr h₀ L' h' m → News h₀ L' h' ((tb, otb) :: (e, oe') :: (new ++ [(L, { oL with slots := sl })])) → Ex oe' (.ref tb) c → Tb otb (rawInt L') → (∀ p ∈ (e, oe') :: (new ++ [(L, ({ oL with slots := sl } : Obj))]), p.1 ≠ tb) → Q () { s with heap := h' }) :
    wpAny M A (noteFrame (.ref e) env) Q E s := by
  obtain ⟨t, hd⟩ := hx.data
  have he := N _ (.head _)
  have hLm := N (L, oL) (.tail _ (List.mem_append_right _ (.head _)))
  obtain ⟨oL', es', ep', hL', hdL', hrest⟩ := id F.ns
  have hl : s.heap.FunFrames h₀ [env, env1] := by
    refine ⟨by rw [hk]; decide, ⟨L', oL', hf, ?_, hL', fun vs q => by rw [hdL'] at q; cases q⟩, by rw [hk1]; decide, ⟨L, oL, hf1, hLm.2.2, hLm.1, fun vs q => by obtain ⟨a, b, d⟩ := hoL; rw [d] at q; cases q⟩, trivial⟩
    exact Heap.get?_none_of_le F.above
  have hS : [env, env1].filterMap (·.frame) = [L', L] := by simp [hf, hf1]
  unfold noteFrame
  simp only [hf]
  refine wpAny_bind (wpAny_field he.1 hd (x := .none) rfl ?_)
  rw [if_neg (by decide)]
  refine wpAny_bind (wpAny_frameOf_fun hfr hl hf fun h₁ hs₁ => ?_)
  rw [hS] at hs₁
  refine wpAny_bind (wpAny_entryPlaceOf fun pl hpl => ?_)
  unfold EntryCells.newEntry newFields
  refine wpAny_bind (wpAny_newObj_type ?_ (hpl.sizeOk5 _ _ _ _ _))
  have eL : e ≠ L := (hne (L, oL) (List.mem_append_right _ (.head _))).symm
  have he₁ : h₁.get? e = some oe := (hs₁.2.1 e (by simp [eL, he.2.1])).trans he.1
  generalize hT : ({ cls := .type "traceback", dict := none, data := .fields ([Value.none, Value.ref L', Value.none, rawInt L', Value.none] ++ (if pl.isEmpty then List.replicate 6 Value.none else pl)).toArray } : Obj) = otb
  have he₂ := Heap.get?_push_of_some (h := h₁) otb he₁
  refine wpAny_setField he₂ hd (by simp) ?_
  have hTe : h₁.objs.size ≠ e := Nat.ne_of_gt (Heap.lt_size he₁)
  have hd₃ := Obj.data_mapFields hd (·.setIfInBounds 1 (Value.ref h₁.objs.size))
  have he₃ := Heap.get?_update_self (Obj.mapFields (·.setIfInBounds 1 (Value.ref h₁.objs.size))) he₂ (Obj.isFreed_of_fields hd₃)
  have hfreed : otb.isFreed = false := by rw [← hT]; rfl
  have hT₃ := (Heap.get?_update_other (h₁.push otb) (Obj.mapFields (·.setIfInBounds 1 (Value.ref h₁.objs.size))) (Ne.symm hTe)).trans (Heap.get?_push_size h₁ hfreed)
  have keep : ∀ b o, b ≠ e → h₁.get? b = some o → ((h₁.push otb).update e (Obj.mapFields (·.setIfInBounds 1 (Value.ref h₁.objs.size)))).get? b = some o := fun b o hbe hb => by
    rw [Heap.get?_update_other _ _ (Ne.symm hbe)]
    exact Heap.get?_push_of_some _ hb
  have keepS : ∀ b o, b ≠ e → b ≠ L' → b ≠ L → s.heap.get? b = some o → ((h₁.push otb).update e (Obj.mapFields (·.setIfInBounds 1 (Value.ref h₁.objs.size)))).get? b = some o := fun b o h1 h2 h3 hb =>
    keep b o h1 ((hs₁.2.1 b (by simp [h2, h3])).trans hb)
  obtain ⟨slL, hsL⟩ := hs₁.2.2 L oL hLm.1
  obtain ⟨slL', hsL'⟩ := hs₁.2.2 L' oL' hL'
  have hn0 : ∀ b, h₀.get? b = none → ∀ p, h₀.get? p ≠ none → p ≠ b := fun b hb p hp q => hp (q ▸ hb)
  have hlt : ∀ p ∈ (e, oe.mapFields (·.setIfInBounds 1 (Value.ref h₁.objs.size))) :: (new ++ [(L, ({ oL with slots := slL } : Obj))]), p.1 ≠ h₁.objs.size := fun p hp => by
    rcases List.mem_cons.mp hp with rfl | hp
    · exact hTe.symm
    rcases List.mem_append.mp hp with hp | hp
    · have hpm : p ∈ (e, oe) :: (new ++ [(L, oL)]) := .tail _ (List.mem_append_left _ hp)
      obtain ⟨sl, hh⟩ := hs₁.2.2 p.1 p.2 (N p hpm).1
      exact Nat.ne_of_lt (Heap.lt_size hh)
    · rw [List.mem_singleton.mp hp]; exact Nat.ne_of_lt (Heap.lt_size hsL)
  refine h _ h₁.objs.size otb (oe.mapFields (·.setIfInBounds 1 (Value.ref h₁.objs.size))) slL ?_ ?_ ?_ ?_ hlt
  · refine ⟨⟨{ oL' with slots := slL' }, es', ep', keep L' _ he.2.1.symm hsL', hdL', hrest⟩, fun b o hb => ?_, F.above⟩
    refine keepS b o (fun q => ?_) (fun q => ?_) (fun q => ?_) (F.keep b o hb)
    · rw [q, he.2.2] at hb; cases hb
    · rw [q, Heap.get?_none_of_le F.above] at hb; cases hb
    · rw [q, hLm.2.2] at hb; cases hb
  · intro p hp
    rcases List.mem_cons.mp hp with rfl | hp
    · refine ⟨hT₃, Nat.ne_of_gt (Heap.lt_size hsL'), ?_⟩
      cases hq : h₀.get? h₁.objs.size with
      | none => rfl
      | some o =>
        obtain ⟨sl, hh⟩ := hs₁.2.2 _ _ (F.keep _ _ hq)
        exact absurd (Heap.lt_size hh) (Nat.lt_irrefl _)
    rcases List.mem_cons.mp hp with rfl | hp
    · exact ⟨he₃, he.2.1, he.2.2⟩
    rcases List.mem_append.mp hp with hp | hp
    · have hpm : p ∈ (e, oe) :: (new ++ [(L, oL)]) := .tail _ (List.mem_append_left _ hp)
      have z := N p hpm
      exact ⟨keepS _ _ (hne p (List.mem_append_left _ hp)) z.2.1 (hnL p hp) z.1, z.2⟩
    · obtain rfl := List.mem_singleton.mp hp
      exact ⟨keep _ _ eL.symm hsL, hLm.2⟩
  · refine ⟨(Obj.cls_mapFields _ _).trans hx.cls, t, hd₃.trans ?_⟩
    rfl
  · refine ⟨_, by rw [← hT], ?_⟩
    first | (simp; done) | (rcases hpl with rfl | ⟨_, _, _, _, _, _, _, rfl⟩ <;> simp)
theorem note_again {e tb : Addr} {oe otb : Obj} {c : Value} {Q : Unit → Shared → Prop} (hf : env.frame = some L') (he : s.heap.get? e = some oe) (hx : Ex oe (.ref tb) c) (ht : s.heap.get? tb = some otb) (hT : Tb otb (rawInt L')) (h : Q () s) :
    wpAny M A (noteFrame (.ref e) env) Q E s := by
  obtain ⟨t, hd⟩ := hx.data
  obtain ⟨ts, hdT, h3⟩ := hT
  unfold noteFrame
  simp only [hf]
  refine wpAny_bind (wpAny_field he hd (x := .ref tb) rfl ?_)
  rw [if_pos (show (Value.ref tb != Value.none) = true from by simp)]
  refine wpAny_bind (wpAny_field ht hdT h3 ?_)
  rw [if_pos (show (rawInt L' == rawInt L') = true from by simp)]
  exact wpAny_pure h
theorem flight_set {e tb : Addr} {oe otb : Obj} {c fl : Value} {rest : Led} {f : Option Addr} {Q : Unit → Shared → Prop} (F : Fr h₀ L' s.heap m) (N : News h₀ L' s.heap ((tb, otb) :: rest)) (hne : ∀ p ∈ rest, p.1 ≠ tb) (he : (e, oe) ∈ rest) (hx : Ex oe (.ref tb) c) (hT : Tb otb fl)
    (h : ∀ h' otb', Fr h₀ L' h' m → News h₀ L' h' ((tb, otb') :: rest) → Tb otb' (f.elim .none fun a => rawInt a) → Q () { s with heap := h' }) : wpAny M A (setFlight (.ref e) f) Q E s := by
  obtain ⟨t, hd⟩ := hx.data
  obtain ⟨ts, hdT, h3⟩ := hT
  have hsz : 3 < ts.size := (Array.getElem?_eq_some_iff.mp h3).1
  have ht := N _ (.head _)
  unfold setFlight
  refine wpAny_bind (wpAny_field (N _ (.tail _ he)).1 hd (x := .ref tb) rfl ?_)
  rw [if_pos (show (Value.ref tb != Value.none) = true from by simp)]
  refine wpAny_setField ht.1 hdT hsz ?_
  have hd3 := Obj.data_mapFields hdT (·.setIfInBounds 3 (f.elim Value.none fun a => rawInt a))
  have hself := Heap.get?_update_self (Obj.mapFields (·.setIfInBounds 3 (f.elim Value.none fun a => rawInt a))) ht.1 (Obj.isFreed_of_fields hd3)
  have hsb : Heap.SameBut tb s.heap (s.heap.update tb (Obj.mapFields (·.setIfInBounds 3 (f.elim Value.none fun a => rawInt a)))) := Heap.SameBut.update ..
  refine h _ _ (F.change hsb ht.2.1 ht.2.2) (fun p hp => ?_) ⟨_, hd3, by simp [hsz]⟩
  rcases List.mem_cons.mp hp with rfl | hp
  · exact ⟨hself, ht.2⟩
  · exact ⟨(hsb.2 _ (hne p hp)).trans (N p (.tail _ hp)).1, (N p (.tail _ hp)).2⟩
theorem pass_on {α : Type} {what : String} {e tb : Addr} {oe otb : Obj} {c fl : Value} {rest : Led} {Q : α → Shared → Prop} (hf : env.frame = some L') (F : Fr h₀ L' s.heap m) (N : News h₀ L' s.heap ((tb, otb) :: rest)) (hne : ∀ p ∈ rest, p.1 ≠ tb) (he : (e, oe) ∈ rest) (hx : Ex oe (.ref tb) c) (hT : Tb otb fl)
    (h : ∀ h' otb', Fr h₀ L' h' m → News h₀ L' h' ((tb, otb') :: rest) → Tb otb' (rawInt L') → E (.ref e) { s with heap := h' }) : wpAny M A (PySem.passOn what (.ref e) env : Sem α) Q E s := by
  obtain ⟨t, hd⟩ := id hx.data
  unfold PySem.passOn
  refine wpAny_bind (wpAny_field (N _ (.tail _ he)).1 hd (x := .ref tb) rfl ?_)
  rw [if_neg (show ¬ ((Value.ref tb == Value.none) = true) from by simp), hf]
  first
    | exact wpAny_bind (flight_set F N hne he hx hT fun h' otb' F' N' T' => wpAny_throw (h h' otb' F' N' T'))
    | exact wpAny_bind (wpAny_pure (wpAny_bind (flight_set F N hne he hx hT fun h' otb' F' N' T' => wpAny_throw (h h' otb' F' N' T'))))
end
section
variable {prog : Program} {w : World} {A : Around} {E : Value → Shared → Prop} {s : Shared}
theorem entry_unchain : entryFor table "proto.unchain" = some Builtin.«proto.unchain» := entryFor_of_tree (by kernel_rfl)
theorem raise_chain {α : Type} {msg : String} {e1 : Addr} {oe1 : Obj} {vs1 : Array Value} {Q : α → Shared → Prop} (hh : A.handled = some (.ref e1)) (he1 : s.heap.get? e1 = some oe1) (hd1 : oe1.data = .fields vs1) (h2 : vs1[2]? = some .none)
    (h : ∀ h' tk e oe, (∀ b o, s.heap.get? b = some o → h'.get? b = some o) → s.heap.get? e = none → h'.get? e = some oe → Ex oe .none (.ref e1) → E (.ref e) { s with heap := h', toks := tk }) :
    wpAny (model prog w) A (raiseErrorWords "IndexError" msg : Sem α) Q E s := by
  unfold raiseErrorWords
  refine wpAny_bind (wpAny_mkText (wpAny_bind ?_))
  unfold newExc newTuple
  refine wpAny_bind (wpAny_newObj_type ?_)
  refine wpAny_bind (m := firstArgMember _ _) (wpAny_of_eq (a := Value.none) (by simp only [firstArgMember, plainExc_IndexError.first]; rfl) ?_)
  rw [plainExc_IndexError.own]
  refine wpAny_newObj_type ?_
  dsimp only
  have k1 : ∀ (ot oe : Obj) b o, s.heap.get? b = some o → ((s.heap.push ot).push oe).get? b = some o := fun ot oe b o hb => Heap.get?_push_of_some _ (Heap.get?_push_of_some _ hb)
  generalize hot : ({ cls := .type "tuple", data := .seq _ } : Obj) = ot
  generalize hoe : ({ cls := .type "IndexError", data := .fields _ } : Obj) = oe
  have hfree : oe.isFreed = false := by rw [← hoe]; rfl
  have hself : ((s.heap.push ot).push oe).get? (s.heap.push ot).objs.size = some oe := Heap.get?_push_size _ hfree
  have hz : (s.heap.push ot).objs.size = s.heap.objs.size + 1 := Heap.size_push ..
  have he1' := k1 ot oe _ _ he1
  have hlt1 : e1 < s.heap.objs.size := Heap.lt_size he1
  have hk := k1 ot oe
  generalize (s.heap.push ot).push oe = hp at hself he1' hk ⊢
  generalize (s.heap.push ot).objs.size = e at hself hz ⊢
  have hne : e1 ≠ e := Nat.ne_of_lt (by rw [hz]; exact Nat.lt_succ_of_lt hlt1)
  have hdata : oe.data = .fields #[.ref s.heap.objs.size, .none, .none, .none, .bool false, .none] := by rw [← hoe]; simp
  have hcls : oe.cls = .type "IndexError" := by rw [← hoe]
  unfold raiseNew
  refine wpAny_bind (wpAny_handled ?_)
  rw [hh]
  dsimp only
  rw [if_pos (show (Value.ref e1 != Value.ref e) = true from by simp [hne])]
  refine wpAny_bind (wpAny_holding (wpAny_runValue (codeAny_builtin entry_unchain ?_)))
  unfold Builtin.«proto.unchain»
  dsimp only
  refine wpAny_bind (wpAny_field he1' hd1 h2 ?_)
  rw [if_pos (by rfl)]
  refine wpAny_pure ?_
  dsimp only
  unfold updateField
  refine wpAny_bind ?_
  refine wpAny_bind (wpAny_load hself ?_)
  rw [hdata]
  dsimp only
  rw [if_pos (by simp)]
  refine wpAny_update hself (wpAny_throw ?_)
  have hd3 := Obj.data_mapFields hdata (·.setIfInBounds 2 (Value.ref e1))
  have hself3 := Heap.get?_update_self (Obj.mapFields (·.setIfInBounds 2 (Value.ref e1))) hself (Obj.isFreed_of_fields hd3)
  refine h _ _ e _ (fun b o hb => ?_) ?_ hself3 ⟨(Obj.cls_mapFields _ _).trans hcls, _, hd3⟩
  · rw [Heap.get?_update_other _ _ (fun q : e = b => ?_)]
    · exact hk _ _ hb
    · have := Heap.lt_size hb
      rw [← q, hz] at this
      exact absurd this (Nat.not_lt.mpr (Nat.le_succ _))
  · exact Heap.get?_none_of_le (by rw [hz]; exact Nat.le_succ _)
end
end Mine
end

section
open PySem PySem.W PyProof.Rows PySem.Calls Builtin
set_option maxRecDepth 100000
set_option maxHeartbeats 1000000
namespace Mine
section
variable {prog : Program} {w : World} {A : Around} {E : Value → Shared → Prop} {s : Shared} {h₀ : Heap} {L L' : Addr} {m : PySem.Str → Option Value} {news : Led} {env : Env}
theorem idx_hit {value slice : Expr} {l : Addr} {vs : List Value} {i : Nat} {t : Tok} {v : Value} {Q : Value → Shared → Prop} (hl : s.heap.IsList l vs.toArray) (hi : vs[i]? = some v) (hz : i < 1000) (h : Q v s)
    (hs : subscripted slice false (.ref l) (.int (i : Int) t) = operate [.ref l, .int (i : Int) t] (getItem (.ref l) (.int (i : Int) t)) := by with_unfolding_all rfl) :
    wpAny (model prog w) A (subscriptTail value slice (.ref l) (.int (i : Int) t)) Q E s :=
  tail_any hl.typeIs slot_list_getitem.lookup (wpAny_getItem_list hl (Int.natCast_nonneg _) (by omega) (by simpa using hi) h) hs
theorem idx_out {value slice : Expr} {l : Addr} {vs : List Value} {i : Nat} {t : Tok} {Q : Value → Shared → Prop} (hh : A.handled = none) (F : Fr h₀ L' s.heap m) (N : News h₀ L' s.heap news) (hl : s.heap.IsList l vs.toArray) (hi : vs.length ≤ i) (hz : i < 1000)
    (h : ∀ h' tk e oe, Fr h₀ L' h' m → News h₀ L' h' ((e, oe) :: news) → Ex oe .none .none → (∀ p ∈ news, p.1 ≠ e) → E (.ref e) { s with heap := h', toks := tk })
    (hs : subscripted slice false (.ref l) (.int (i : Int) t) = operate [.ref l, .int (i : Int) t] (getItem (.ref l) (.int (i : Int) t)) := by with_unfolding_all rfl) :
    wpAny (model prog w) A (subscriptTail value slice (.ref l) (.int (i : Int) t)) Q E s := by
  refine tail_any hl.typeIs slot_list_getitem.lookup (wpAny_getItem_list_out hh hl (.inr (by rw [List.size_toArray]; omega)) (by omega) (by omega) fun h' tk e hx => ?_) hs
  obtain ⟨ob, t, he, hc, hd⟩ := hx.there
  obtain ⟨F', N', hn⟩ := exc_led F N hx.keeps hx.new he
  exact h h' tk e ob F' N' ⟨hc, t, hd⟩ hn
theorem getItem_out2 {l : Addr} {items : Array Value} {k : Int} {t : Tok} {e1 : Addr} {oe1 : Obj} {vs1 : Array Value} {Q : Value → Shared → Prop} (hh : A.handled = some (.ref e1)) (he1 : s.heap.get? e1 = some oe1) (hd1 : oe1.data = .fields vs1) (h2 : vs1[2]? = some .none)
    (hl : s.heap.IsList l items) (h0 : 0 ≤ k) (hi : (items.size : Int) ≤ k) (hz : k < 2 ^ 63)
    (h : ∀ h' tk e oe, (∀ b o, s.heap.get? b = some o → h'.get? b = some o) → s.heap.get? e = none → h'.get? e = some oe → Ex oe .none (.ref e1) → E (.ref e) { s with heap := h', toks := tk }) :
    wpAny (model prog w) A (getItem (.ref l) (.int k t)) Q E s := by
  obtain ⟨o, ho, hc, ne, hd⟩ := id hl
  unfold getItem
  try with_reducible refine wpAny_holding ?_
  first | refine wpAny_bind (wpAny_pure ?_) | skip
  refine wpAny_bind (wpAny_sequenceKey hl.typeIs (by decide) ?_)
  refine wpAny_bind (wpAny_callSpecial?_slot (name := Str.ofString "__getitem__") hl.typeIs slot_list_getitem
    (wpAny_call_entry slot_list_getitem hl.typeIs entry_list_getitem ?_ (args_list_getitem _ _)))
  show wpAny _ _ (Builtin.List.listSubscript? (.int k t) >>= _) _ _ s
  refine wpAny_bind (wpAny_listSubscript_int (fitsIndex_of h0 hz) ?_)
  clear hz
  obtain ⟨j, rfl⟩ := Int.eq_ofNat_of_zero_le h0
  have hx : items[j]? = none := Array.getElem?_eq_none (by omega)
  show wpAny _ _ ((seqItemAt l j >>= fun r => pure (r.map (j, ·))) >>= _) _ _ s
  refine wpAny_bind (wpAny_bind (wpAny_seqItemAt ho hd (wpAny_pure ?_)))
  rw [hx]
  first
    | exact wpAny_bind (wpAny_rule (raise_chain hh he1 hd1 h2 h))
    | exact wpAny_bind (wpAny_rule (wpAny_bind (raise_chain hh he1 hd1 h2 h)))
    | exact wpAny_bind (wpAny_bind (wpAny_rule (raise_chain hh he1 hd1 h2 h)))
    | exact wpAny_rule (raise_chain hh he1 hd1 h2 h)
theorem idx_out2 {value slice : Expr} {l : Addr} {vs : List Value} {i : Nat} {t : Tok} {e1 : Addr} {oe1 : Obj} {v1 : Value} {Q : Value → Shared → Prop} (hh : A.handled = some (.ref e1)) (F : Fr h₀ L' s.heap m) (N : News h₀ L' s.heap news) (he1 : (e1, oe1) ∈ news) (hx1 : Ex oe1 v1 .none) (hl : s.heap.IsList l vs.toArray) (hi : vs.length ≤ i) (hz : i < 1000)
    (h : ∀ h' tk e oe, Fr h₀ L' h' m → News h₀ L' h' ((e, oe) :: news) → Ex oe .none (.ref e1) → (∀ p ∈ news, p.1 ≠ e) → E (.ref e) { s with heap := h', toks := tk })
    (hs : subscripted slice false (.ref l) (.int (i : Int) t) = operate [.ref l, .int (i : Int) t] (getItem (.ref l) (.int (i : Int) t)) := by with_unfolding_all rfl) :
    wpAny (model prog w) A (subscriptTail value slice (.ref l) (.int (i : Int) t)) Q E s := by
  obtain ⟨t1, hd1⟩ := hx1.data
  refine tail_any hl.typeIs slot_list_getitem.lookup (getItem_out2 hh (N _ he1).1 hd1 rfl hl (Int.natCast_nonneg _) (by rw [List.size_toArray]; omega) (by omega) fun h' tk e oe hk hn he hx => ?_) hs
  obtain ⟨F', N', hne⟩ := exc_led F N hk hn he
  exact h h' tk e oe F' N' hx hne
theorem While_brk {test : Expr} {body : List Stmt} {pos : Pos} {Q : Flow → Shared → Prop} (I : Nat → Shared → Prop)
    (turn : ∀ n s, I n s → wpAny (model prog w) A (isTrue test env (eval test env)) (fun b s₂ =>
        if b = true then wpAny (model prog w) A (execs body env) (fun f s₃ => match f with | .next | .cont => ∃ m, m < n ∧ I m s₃ | .brk => Q .next s₃ | .ret v => Q (.ret v) s₃) E s₂ else Q .next s₂) E s)
    (n₀ : Nat) (h : I n₀ s) (hE : PassesOwn (model prog w) A env E := by passes_own) :
    wpAny (model prog w) A (exec (.While test body [] pos) env) Q E s := by
  refine wpAny_While (codeAny_whileLoop I (fun n s' hI => ?_) n₀ h)
  refine wpAny_mono (turn n s' hI) (fun b s₂ h₂ => ?_) hE
  cases b with
  | false =>
    simp only [Bool.false_eq_true, if_false] at h₂ ⊢
    exact wpAny_execs_nil h₂
  | true =>
    simp only [if_true] at h₂ ⊢
    exact wpAny_mono h₂ (fun f s₃ h₃ => by cases f <;> exact h₃) hE
/-- a while whose first test ends it, or raises -/
theorem While_stop {test : Expr} {body : List Stmt} {pos : Pos} {Q : Flow → Shared → Prop}
    (h : wpAny (model prog w) A (isTrue test env (eval test env)) (fun b s₂ => b = false ∧ Q .next s₂) E s) (hE : PassesOwn (model prog w) A env E := by passes_own) :
    wpAny (model prog w) A (exec (.While test body [] pos) env) Q E s := by
  refine While_brk (fun _ s' => s' = s) (fun n s' hI => ?_) 0 rfl hE
  subst hI
  refine wpAny_mono h (fun b s₂ h₂ => ?_) fun _ _ x => x
  obtain ⟨rfl, h₂⟩ := h₂
  rw [if_neg Bool.false_ne_true]; exact h₂
end
/-- the end of a call whose frame may have raised: the caller's frame object has other slots -/
noncomputable def LeaveB (h₀ : Heap) (L : Addr) (m : PySem.Str → Option Value) (oL : Obj) (R : Result → Shared → Prop) (v : Value) (s' : Shared) : Prop :=
  ∃ (L' : Addr) (m' : PySem.Str → Option Value) (new : Led) (sl : Array (Option Value)), Fr h₀ L' s'.heap m' ∧ News h₀ L' s'.heap (new ++ [(L, { oL with slots := sl })]) ∧ (∀ p ∈ new, p.1 ≠ L) ∧ (Fr h₀ L s'.heap m → News h₀ L s'.heap new → R (.ok (.ret v)) s')
section
variable {prog : Program} {w : World} {A : Around} {s : Shared} {h₀ : Heap} {L : Addr} {m : PySem.Str → Option Value} {news : Led} {K : Frag} {p : Program} {loose : List PySem.Str} {mean : ExcName → Option Value} {mg mb : PySem.Str → Option Value}
    {R : Result → Shared → Prop} {name qual : PySem.Str} {params : Arguments} {body : List Stmt} {scope : Scope} {dV kV doc pm cdv ct oc : Value} {an od : Option Addr} {osl : Array (Option Value)} {f : Addr} {args : Args} {binds : List (PySem.Str × Value)}
theorem code_defB (F : Fr h₀ L s.heap m) (X₀ : K.In h₀) (N : News h₀ L s.heap news) (T : Top p loose mean mg mb h₀)
    (ho : K.lookup f = some ⟨oc, od, .func (fnOf name qual params body scope dV kV doc pm an cdv ct), osl⟩) (hcd : codeIn K cdv qual = true) (hroom : A.depth < recursionLimit)
    (hbind : BindsTo s (fnOf name qual params body scope dV kV doc pm an cdv ct) args binds) (hloc : ∀ y ∈ binds, scope.names.lookup y.1 = some .local)
    (h : ∀ oL L' h₁, (∃ es ep, oL.data = .dict es ep) → Fr h₀ L' h₁ (fun y => binds.reverse.lookup y) → News h₀ L' h₁ (news ++ [(L, oL)]) → (∀ p ∈ news, p.1 ≠ L) → (∀ p ∈ news ++ [(L, oL)], p.1 < L') →
      wpAny (model prog w) (A.deeper (envOf qual scope L' f cdv)) (execs body (envOf qual scope L' f cdv))
        (fun fl s' => LeaveB h₀ L m oL R (match fl with | .ret v => v | _ => .none) s')
        (fun e s' => wpAny (model prog w) (A.deeper (envOf qual scope L' f cdv)) (leaving (envOf qual scope L' f cdv) e) (fun _ s'' => R (.error e) s'') (fun e' s'' => R (.error e') s'') s')
        { s with heap := h₁, toks := s.toks + binds.length })
    (hco : scope.isCoroutine = false) (hgen : scope.isGenerator = false) (hk : scope.kind = .function)
    (hcell : ∀ x ∈ scope.names, x.2 ≠ .cell) : codeAny (model prog w) A (.call (.ref f) args) R s := by
  have X := X₀.keeps F.keep
  refine codeAny_call_def (fd := fnOf name qual params body scope dV kV doc pm an cdv ct) (body := body) (binds := binds) hroom (X _ _ ho) rfl (T.nolimit.keeps F.keep) (codeRec_of X hcd) rfl hbind hcell hloc (fun h₁ hns hk₁ => ?_) hco hgen hk
  obtain ⟨oL, es, ep, hL, hLd, hLk, hLf⟩ := id F.ns
  have hL0 : h₀.get? L = none := Heap.get?_none_of_le F.above
  have hLlt : L < s.heap.objs.size := Heap.lt_size hL
  refine wpAny_mono (h oL s.heap.objs.size h₁ ⟨es, ep, hLd⟩ ⟨hns, fun b o e => hk₁ b o (F.keep b o e), Nat.le_trans F.above (Nat.le_of_lt hLlt)⟩ (fun p hp => ?_) (fun p hp => (N p hp).2.1) (fun p hp => ?_)) (fun fl s' hl => ?_) fun _ _ y => y
  · rcases List.mem_append.mp hp with hp | hp
    · exact ⟨hk₁ _ _ (N p hp).1, Nat.ne_of_lt (Heap.lt_size (N p hp).1), (N p hp).2.2⟩
    · obtain rfl := List.mem_singleton.mp hp
      exact ⟨hk₁ _ _ hL, Nat.ne_of_lt hLlt, hL0⟩
  · rcases List.mem_append.mp hp with hp | hp
    · exact Heap.lt_size (N p hp).1
    · obtain rfl := List.mem_singleton.mp hp
      exact hLlt
  · obtain ⟨L'', m', new, sl, F', N', hn, k⟩ := hl
    refine k ⟨⟨_, es, ep, (N' (L, _) (List.mem_append_right _ (.head _))).1, hLd, hLk, hLf⟩, F'.keep, F.above⟩ fun p hp => ?_
    have z := N' p (List.mem_append_left _ hp)
    exact ⟨z.1, hn p hp, z.2.2⟩
end
end Mine
end

section
open PySem PySem.W PyProof.Rows PySem.Calls Builtin LCg
set_option maxRecDepth 100000
set_option maxHeartbeats 1000000
set_option pp.deepTerms false
set_option pp.deepTerms.threshold 7
namespace Mine
local macro_rules | `(tactic| k_all) => `(tactic| assumption)
local macro_rules | `(tactic| size_fits) => `(tactic| assumption)
local macro_rules | `(tactic| walk_at "eval Name") => `(tactic| (k_here; k_dflt (refine' ld ?k1 ?k2 ?_; (case k1 => k_asm); (case k2 => with_unfolding_all assumption); k_whole)))
local macro_rules | `(tactic| walk_at "loadName") => `(tactic| (k_here; k_dflt (refine' ldn ?k1 ?k2 ?_; (case k1 => k_asm); (case k2 => with_unfolding_all assumption); k_whole)))
/-- the frame of the walk, its two new lists, and what has been read -/
structure SI (h₀ : Heap) (L L' le la U M : Addr) (oL : Obj) (mine : Led) (es as : List PySem.Str) (i j : Nat) (ms us : List Value) (nm nu : Nat) (sl : Array (Option Value)) (h : Heap) (m' : PySem.Str → Option Value) : Prop where
  F : Fr h₀ L' h m'
  N : News h₀ L' h ((U, W.listOf us.toArray nu) :: (M, W.listOf ms.toArray nm) :: (mine ++ [(L, { oL with slots := sl })]))
  msA : StrsAre ms ((es.take i).filter (lacks as))
  usA : StrsAre us ((as.take j).filter (lacks es))
  iA : ∃ t, m' (Str.ofString "i") = some (.int (i : Int) t)
  jA : ∃ t, m' (Str.ofString "j") = some (.int (j : Int) t)
  MA : m' (Str.ofString "missing") = some (.ref M)
  UA : m' (Str.ofString "unexpected") = some (.ref U)
  eA : m' (Str.ofString "expected") = some (.ref le)
  aA : m' (Str.ofString "actual") = some (.ref la)
  P : PJ es as i j
theorem ne_slots {a b L ea : Addr} {oa ob oL : Obj} {mine : Led} {sl sl' : Array (Option Value)} (h : ∀ p ∈ (a, oa) :: (b, ob) :: (mine ++ [(L, ({ oL with slots := sl } : Obj))]), p.1 ≠ ea) : ∀ p ∈ (a, oa) :: (b, ob) :: (mine ++ [(L, ({ oL with slots := sl' } : Obj))]), p.1 ≠ ea :=
  off_set (pre := (a, oa) :: (b, ob) :: mine) h
/-- an IndexError in the frame, both lists read as far as the one goes: with its traceback in flight at fl -/
inductive RPt (fl : Value) (h₀ : Heap) (L L' le la U M : Addr) (oL : Obj) (mine : Led) (es as : List PySem.Str) (s0 : Shared) (e : Value) (s' : Shared) : Prop
  | mk (ea : Addr) (h : Heap) (tk : Nat) (m' : PySem.Str → Option Value) (i j : Nat) (ms us : List Value) (nm nu : Nat) (sl : Array (Option Value)) (oe : Obj) (c : Value) (tb : Addr) (otb : Obj) (e1 : e = .ref ea) (e2 : s' = { s0 with heap := h, toks := tk }) (hend : i = es.length ∨ j = as.length)
    (S : SI h₀ L L' le la U M oL mine es as i j ms us nm nu sl h m') (hne : ∀ p ∈ (U, W.listOf us.toArray nu) :: (M, W.listOf ms.toArray nm) :: (mine ++ [(L, ({ oL with slots := sl } : Obj))]), p.1 ≠ ea)
    (hx : Ex oe (.ref tb) c) (hT : Tb otb fl) (N : News h₀ L' h ((tb, otb) :: (ea, oe) :: (U, W.listOf us.toArray nu) :: (M, W.listOf ms.toArray nm) :: (mine ++ [(L, { oL with slots := sl })])))
    (hnt : ∀ p ∈ (ea, oe) :: (U, W.listOf us.toArray nu) :: (M, W.listOf ms.toArray nm) :: (mine ++ [(L, ({ oL with slots := sl } : Obj))]), p.1 ≠ tb) : RPt fl h₀ L L' le la U M oL mine es as s0 e s'
/-- the same, new or with its traceback -/
inductive RPs (h₀ : Heap) (L L' le la U M : Addr) (oL : Obj) (mine : Led) (es as : List PySem.Str) (s0 : Shared) (e : Value) (s' : Shared) : Prop
  | no (ea : Addr) (h : Heap) (tk : Nat) (m' : PySem.Str → Option Value) (i j : Nat) (ms us : List Value) (nm nu : Nat) (sl : Array (Option Value)) (oe : Obj) (c : Value) (e1 : e = .ref ea) (e2 : s' = { s0 with heap := h, toks := tk }) (hend : i = es.length ∨ j = as.length)
    (S : SI h₀ L L' le la U M oL mine es as i j ms us nm nu sl h m') (hne : ∀ p ∈ (U, W.listOf us.toArray nu) :: (M, W.listOf ms.toArray nm) :: (mine ++ [(L, ({ oL with slots := sl } : Obj))]), p.1 ≠ ea)
    (hx : Ex oe .none c) (N : News h₀ L' h ((ea, oe) :: (U, W.listOf us.toArray nu) :: (M, W.listOf ms.toArray nm) :: (mine ++ [(L, { oL with slots := sl })]))) : RPs h₀ L L' le la U M oL mine es as s0 e s'
  | yes (R : RPt (rawInt L') h₀ L L' le la U M oL mine es as s0 e s') : RPs h₀ L L' le la U M oL mine es as s0 e s'
section
variable {M : Model} {A : Around} {E : Value → Shared → Prop} {h₀ : Heap} {L L' le la U Mi : Addr} {oL : Obj} {mine : Led} {es as : List PySem.Str} {s0 s' : Shared} {env env1 : Env} {e : Value}
theorem SI.keep {oe1 oe2 : Obj} {e1 e2 : Addr} {i j : Nat} {ms us : List Value} {nm nu : Nat} {sl sl' : Array (Option Value)} {h h' : Heap} {m' : PySem.Str → Option Value} (S : SI h₀ L L' le la U Mi oL mine es as i j ms us nm nu sl h m')
    (F' : Fr h₀ L' h' m') (N' : News h₀ L' h' ((e1, oe1) :: (e2, oe2) :: (U, W.listOf us.toArray nu) :: (Mi, W.listOf ms.toArray nm) :: (mine ++ [(L, { oL with slots := sl' })]))) : SI h₀ L L' le la U Mi oL mine es as i j ms us nm nu sl' h' m' :=
  ⟨F', fun p hp => N' p (.tail _ (.tail _ hp)), S.msA, S.usA, S.iA, S.jA, S.MA, S.UA, S.eA, S.aA, S.P⟩
theorem RPs.noted (hfr : A.frames = some [env, env1]) (hf : env.frame = some L') (hf1 : env1.frame = some L) (hk : env.scope.kind = .function) (hk1 : env1.scope.kind = .function) (hoL : ∃ es ep, oL.data = .dict es ep)
    (hmL : ∀ p ∈ mine, p.1 ≠ L) (hML : Mi ≠ L) (hUL : U ≠ L) (R : RPs h₀ L L' le la U Mi oL mine es as s0 e s') {Q : Unit → Shared → Prop}
    (h : ∀ s'', RPt (rawInt L') h₀ L L' le la U Mi oL mine es as s0 e s'' → Q () s'') : wpAny M A (noteFrame e env) Q E s' := by
  cases R with
  | yes R =>
    cases R with
    | mk ea hp tk m' i j ms us nm nu sl oe c tb otb e1 e2 hend S hne hx hT N hnt =>
      subst e1 e2
      exact note_again hf (N _ (.tail _ (.head _))).1 hx (N _ (.head _)).1 hT (h _ (.mk ea hp tk m' i j ms us nm nu sl oe c tb otb rfl rfl hend S hne hx hT N hnt))
  | no ea hp tk m' i j ms us nm nu sl oe c e1 e2 hend S hne hx N =>
    subst e1 e2
    refine note_first (new := (U, W.listOf us.toArray nu) :: (Mi, W.listOf ms.toArray nm) :: mine) hfr hf hf1 hk hk1 S.F N (by obtain ⟨a, b, c⟩ := hoL; exact ⟨a, b, c⟩) hx hne ?_ fun h' tb otb oe' sl' F' N' hx' hT' hnt => ?_
    · intro p hp
      rcases List.mem_cons.mp hp with rfl | hp
      · exact hUL
      rcases List.mem_cons.mp hp with rfl | hp
      · exact hML
      · exact hmL p hp
    · exact h _ (.mk ea h' tk m' i j ms us nm nu sl' oe' c tb otb rfl rfl hend (S.keep F' N') (ne_slots hne) hx' hT' N' hnt)
theorem RPt.flight {f : Option Addr} {fl : Value} (R : RPt fl h₀ L L' le la U Mi oL mine es as s0 e s') {Q : Unit → Shared → Prop}
    (h : ∀ s'', RPt (f.elim .none fun a => rawInt a) h₀ L L' le la U Mi oL mine es as s0 e s'' → Q () s'') : wpAny M A (setFlight e f) Q E s' := by
  cases R with
  | mk ea hp tk m' i j ms us nm nu sl oe c tb otb e1 e2 hend S hne hx hT N hnt =>
    subst e1 e2
    refine flight_set S.F N hnt (.head _) hx hT fun h' otb' F' N' hT' => ?_
    exact h _ (.mk ea h' tk m' i j ms us nm nu sl oe c tb otb' rfl rfl hend (S.keep F' N') hne hx hT' N' hnt)
theorem RPs.passes {A' : Around} (hfr : A'.frames = some [env, env1]) (hf : env.frame = some L') (hf1 : env1.frame = some L) (hk : env.scope.kind = .function) (hk1 : env1.scope.kind = .function) (hoL : ∃ es ep, oL.data = .dict es ep)
    (hmL : ∀ p ∈ mine, p.1 ≠ L) (hML : Mi ≠ L) (hUL : U ≠ L) : PassesOwnAt M A' A env (RPs h₀ L L' le la U Mi oL mine es as s0) := by
  intro e s1 R
  refine RPs.noted hfr hf hf1 hk hk1 hoL hmL hML hUL R fun s2 R2 => ?_
  have R2' := R2
  cases R2' with
  | mk ea hp tk m' i j ms us nm nu sl oe c tb otb e1 e2 hend S hne hx hT N hnt =>
    subst e1 e2
    obtain ⟨t, hd⟩ := hx.data
    unfold cameBackBy
    refine wpAny_bind (wpAny_field (N _ (.tail _ (.head _))).1 hd (x := .ref tb) rfl ?_)
    rw [if_neg (show ¬ ((Value.ref tb == Value.none) = true) from by simp), hf]
    first
      | exact wpAny_bind (wpAny_pure (RPt.flight R2 fun s3 R3 => .yes R3))
      | exact RPt.flight R2 fun s3 R3 => .yes R3
end
/-- the walk's state before a turn -/
inductive LJ (h₀ : Heap) (L L' le la U M : Addr) (oL : Obj) (mine : Led) (es as : List PySem.Str) (s0 : Shared) (n : Nat) (s' : Shared) : Prop
  | mk (h : Heap) (tk : Nat) (m' : PySem.Str → Option Value) (i j : Nat) (ms us : List Value) (nm nu : Nat) (sl : Array (Option Value)) (e : s' = { s0 with heap := h, toks := tk }) (S : SI h₀ L L' le la U M oL mine es as i j ms us nm nu sl h m') (hn : n = (es.length - i) + (as.length - j)) : LJ h₀ L L' le la U M oL mine es as s0 n s'
theorem pick_from {vs : List Value} {i : Nat} : slicePick vs.toArray (some (i : Int)) none none = (vs.drop i).toArray := by
  have e : sliceBounds (some (i : Int)) none none vs.toArray.size = (((min i vs.length : Nat) : Int), ((vs.length : Nat) : Int), 1) := by
    rw [List.size_toArray]
    simp only [sliceBounds, Option.getD_none, show (1 : Int) > 0 by decide, if_true]
    rw [if_neg (show ¬ ((i : Int) < 0) by omega)]
    congr 1
    omega
  rw [kmk_pick_nat _ e, List.toList_toArray, kmk_drop_min, List.take_of_length_le (by rw [List.length_drop]; omega)]
theorem strs_drop : ∀ {vs : List Value} {us : List PySem.Str} (i : Nat), StrsAre vs us → StrsAre (vs.drop i) (us.drop i)
  | _, _, 0, h => h
  | _, _, _ + 1, .nil => .nil
  | _, _, i + 1, .cons _ _ r => strs_drop i r
theorem sld_does {w : World} {G : GG} {env : Env} {le la : Addr} {ve va : List Value} {es as : List PySem.Str} {ne na : Nat}
  (A : Around) (L : Addr) (h₀ : Heap) (m : PySem.Str → Option Value) (mine : Led) (s : Shared) (R : Result → Shared → Prop)
    (hfr : A.frames = some [env]) (hf : env.frame = some L) (hke : env.scope.kind = .function) (he : StrsAre ve es) (ha : StrsAre va as) (re : Rise es) (ra : Rise as) (hle : es.length ≤ 100) (hla : as.length ≤ 100)
    (hme : (le, W.listOf ve.toArray ne) ∈ mine) (hma : (la, W.listOf va.toArray na) ∈ mine) (X : (hd.heap_39 w.params).In h₀) (T : Top G.p G.loose G.mean G.mg G.mb h₀)
    (hh : A.handled = none) (hd : A.depth + 20 < recursionLimit) (hu : A.units + 160 < cLine) (F : Fr h₀ L s.heap m) (N : News h₀ L s.heap mine)
    (kk : ∀ tp M U ms us nm nu h' tk', Fr h₀ L h' m → News h₀ L h' ((tp, tupOf #[.ref M, .ref U]) :: (U, W.listOf us.toArray nu) :: (M, W.listOf ms.toArray nm) :: mine) → (∀ q ∈ mine, q.1 ≠ tp ∧ q.1 ≠ M ∧ q.1 ≠ U) → StrsAre ms (es.filter (lacks as)) → StrsAre us (as.filter (lacks es)) → R (.ok (.ret (.ref tp))) { s with heap := h', toks := tk' }) :
    codeAny (model Challenge.rw_in0102_01.row.prog w) A (.call (.ref 69) ⟨[.ref le, .ref la], []⟩) R s := by
  obtain ⟨hd9, dp, fr, gd, un⟩ := A
  dsimp only at hfr hh hd hu
  subst hfr hh
  revert X; k_fill; intro X
  k_dflt (refine' code_defB ?k1 ?k2 ?k3 ?k4 ?k6 ?k7 ?k8 ?k9 ?kB ?_ ?c2 ?c3 ?c4 ?c5; (case k1 => k_asm); (case k2 => k_asm); (case k3 => k_asm); (case k4 => k_asm); (case k6 => k_is); (case k7 => k_is); (case k8 => ((try dsimp only); exact lim0 hd)); (case k9 => exact BindsTo.of_eq rfl); (case c5 => decide); (case kB => exact locs rfl); (case c2 => exact rfl); (case c3 => exact rfl); (case c4 => exact rfl); k_whole; intro oL L' h' hoL F' N' nL lL; (try dsimp only); (try k_fold))
  iterate 23 walk1
  rename_i M hM lM _ _ U hU lU _ FU NU
  have hMU : @Ne Nat U M := Nat.ne_of_gt lU.1
  have hrM : ∀ sl, ∀ p ∈ mine ++ [(L, ({ oL with slots := sl } : Obj))], p.1 ≠ M := fun sl p hp => by
    rcases List.mem_append.mp hp with hp | hp
    · exact Nat.ne_of_lt (lM p (List.mem_append_left _ hp))
    · rw [List.mem_singleton.mp hp]; exact Nat.ne_of_lt (lM (L, oL) (List.mem_append_right _ (.head _)))
  have hrU : ∀ sl, ∀ p ∈ mine ++ [(L, ({ oL with slots := sl } : Obj))], p.1 ≠ U := fun sl p hp => by
    have lU2 := ne_of_allLt lU.2
    rcases List.mem_append.mp hp with hp | hp
    · exact lU2 p (List.mem_append_left _ hp)
    · rw [List.mem_singleton.mp hp]; exact lU2 (L, oL) (List.mem_append_right _ (.head _))
  refine While_brk (LJ h₀ L L' le la U M oL mine es as s) ?_ _ (.mk _ _ _ 0 0 [] [] 0 0 oL.slots rfl ⟨FU, NU, .nil, .nil, ⟨_, rfl⟩, ⟨_, rfl⟩, rfl, rfl, rfl, rfl, PJ.zero es as⟩ rfl)
  rintro n s' ⟨h, tk1, m', i, j, ms, us, nm, nu, sl, rfl, SI1, rfl⟩
  have SI2 := SI1
  obtain ⟨F1, N1, hms, hus, ⟨ti, hi⟩, ⟨tj, hj⟩, hM', hU', hE', hA', P⟩ := SI1
  have hrM1 := hrM sl
  have hrU1 := hrU sl
  iterate 6 walk1
  have hnML : @Ne Nat M L := Nat.ne_of_gt (lM (L, oL) (List.mem_append_right _ (.head _)))
  have hnUL : @Ne Nat U L := (hrU oL.slots (L, _) (List.mem_append_right _ (.head _))).symm
  refine wpAny_mono (E := RPs h₀ L L' le la U M oL mine es as s) ?_ (fun _ _ x => x) ?_
  · iterate 5 walk1
    have hle1 : (le, W.listOf ve.toArray ne) ∈ mine ++ [(L, ({ oL with slots := sl } : Obj))] := List.mem_append_left _ hme
    have hla1 : (la, W.listOf va.toArray na) ∈ mine ++ [(L, ({ oL with slots := sl } : Obj))] := List.mem_append_left _ hma
    have hi0 := P.hi
    have hj0 := P.hj
    by_cases hil : i < es.length
    · obtain ⟨x, hx⟩ : ∃ x, es[i]? = some x := ⟨_, List.getElem?_eq_getElem hil⟩
      obtain ⟨vx, hvx⟩ : ∃ vx, ve[i]? = some vx := ⟨ve[i]'(by rw [he.length]; exact hil), List.getElem?_eq_getElem _⟩
      obtain ⟨x', tx, rfl, hx'⟩ := strsAre_get he hvx
      obtain rfl : x = x' := Option.some.inj (hx.symm.trans hx')
      refine idx_hit (News.isList N1 (.tail _ (.tail _ hle1))) hvx (i1000 hi0 hle) ?_
      iterate 6 walk1
      rename Fr h₀ L' _ _ => F2; rename News h₀ L' _ _ => N2
      by_cases hjl : j < as.length
      · obtain ⟨y, hy⟩ : ∃ y, as[j]? = some y := ⟨_, List.getElem?_eq_getElem hjl⟩
        obtain ⟨vy, hvy⟩ : ∃ vy, va[j]? = some vy := ⟨va[j]'(by rw [ha.length]; exact hjl), List.getElem?_eq_getElem _⟩
        obtain ⟨y', ty, rfl, hy'⟩ := strsAre_get ha hvy
        obtain rfl : y = y' := Option.some.inj (hy.symm.trans hy')
        refine idx_hit (News.isList N2 (.tail _ (.tail _ hla1))) hvy (i1000 hj0 hla) ?_
        iterate 8 walk1
        rename Fr h₀ L' _ _ => F3; rename News h₀ L' _ _ => N3
        generalize hrst : mine ++ [(L, ({ oL with slots := sl } : Obj))] = rst at N3 hrM1 hrU1 hle1 hla1
        generalize hm3 : (fun y_1 => if y_1 = Str.ofString "a" then some (Value.str y ty) else if y_1 = Str.ofString "e" then some (Value.str x tx) else m' y_1) = m3 at F3
        have hi3 : m3 (Str.ofString "i") = some (.int (i : Int) ti) := by rw [← hm3]; with_unfolding_all exact hi
        have hj3 : m3 (Str.ofString "j") = some (.int (j : Int) tj) := by rw [← hm3]; with_unfolding_all exact hj
        have hM3 : m3 (Str.ofString "missing") = some (.ref M) := by rw [← hm3]; with_unfolding_all exact hM'
        have hU3 : m3 (Str.ofString "unexpected") = some (.ref U) := by rw [← hm3]; with_unfolding_all exact hU'
        have hE3 : m3 (Str.ofString "expected") = some (.ref le) := by rw [← hm3]; with_unfolding_all exact hE'
        have hA3 : m3 (Str.ofString "actual") = some (.ref la) := by rw [← hm3]; with_unfolding_all exact hA'
        have he3 : m3 (Str.ofString "e") = some (.str x tx) := by rw [← hm3]; rfl
        have ha3 : m3 (Str.ofString "a") = some (.str y ty) := by rw [← hm3]; rfl
        clear hm3 hi hj hM' hU' hE' hA'
        try clear SI2
        try clear N1
        try clear N2
        try clear F1
        try clear F2
        have hsl : 4000 ≤ sizeLine := by decide +kernel
        have hzm : ms.toArray.size ≤ sizeLine := by rw [List.size_toArray, hms.length]; exact Nat.le_trans (List.length_filter_le ..) (Nat.le_trans (List.length_take_le ..) (i4000 hi0 hle hsl))
        have hzu : us.toArray.size ≤ sizeLine := by rw [List.size_toArray, hus.length]; exact Nat.le_trans (List.length_filter_le ..) (Nat.le_trans (List.length_take_le ..) (i4000 hj0 hla hsl))
        walk1
        · rename (x.cps.toList < y.cps.toList) => hlt
          obtain ⟨PA, eqA⟩ := P.a ra hx hy hlt
          have hmsA : StrsAre (ms ++ [Value.str x tx]) ((es.take (i + 1)).filter (lacks as)) := by rw [eqA]; exact strsAre_app hms (.cons x tx .nil)
          iterate 18 walk1
          rename Fr h₀ L' _ _ => F5; rename News h₀ L' _ _ => N5
          rw [List.push_toArray] at N5
          refine While_stop ?_ (by exact RPs.passes rfl rfl hf rfl hke hoL nL hnML hnUL)
          iterate 4 walk1
          by_cases hil2 : i + 1 < es.length
          · obtain ⟨x2, hx2⟩ : ∃ x2, es[i + 1]? = some x2 := ⟨_, List.getElem?_eq_getElem hil2⟩
            obtain ⟨vx2, hvx2⟩ : ∃ vx2, ve[i + 1]? = some vx2 := ⟨ve[i + 1]'(by rw [he.length]; exact hil2), List.getElem?_eq_getElem _⟩
            obtain ⟨x2', tx2, rfl, hx2'⟩ := strsAre_get he hvx2
            obtain rfl : x2 = x2' := Option.some.inj (hx2.symm.trans hx2')
            refine idx_hit (i := i + 1) (News.isList N5 (.tail _ (.tail _ hle1))) hvx2 (j1000 hi0 hle) ?_
            iterate 3 walk1
            refine ⟨by simp [next_ne re hx hx2], ?_⟩
            iterate 4 walk1
            subst hrst
            exact ⟨_, dec1 hil, .mk _ _ _ (i + 1) (j) _ us _ nu sl rfl ⟨F5, N5, hmsA, hus, ⟨_, rfl⟩, ⟨tj, hj3⟩, hM3, hU3, hE3, hA3, PA⟩ rfl⟩
          · refine idx_out (i := i + 1) rfl F5 N5 (News.isList N5 (.tail _ (.tail _ hle1))) (by rw [he.length]; exact Nat.le_of_not_lt hil2) (j1000 hi0 hle) fun h' tk e oe F6 N6 hx6 hne => ?_
            subst hrst
            exact .no e h' tk _ (i + 1) (j) _ us _ nu sl oe .none rfl rfl (.inl (end1 hil hil2)) ⟨F6, fun p hp => N6 p (.tail _ hp), hmsA, hus, ⟨_, rfl⟩, ⟨tj, hj3⟩, hM3, hU3, hE3, hA3, PA⟩ (hne) hx6 (N6)
        · rename (¬ x.cps.toList < y.cps.toList) => hnlt
          iterate 9 walk1
          · rename (y.cps.toList < x.cps.toList) => hgt
            obtain ⟨PB, eqB⟩ := P.sym.a re hy hx hgt
            have husB : StrsAre (us ++ [Value.str y ty]) ((as.take (j + 1)).filter (lacks es)) := by rw [eqB]; exact strsAre_app hus (.cons y ty .nil)
            iterate 18 walk1
            rename Fr h₀ L' _ _ => F5; rename News h₀ L' _ _ => N5
            rw [List.push_toArray] at N5
            refine While_stop ?_ (by exact RPs.passes rfl rfl hf rfl hke hoL nL hnML hnUL)
            iterate 4 walk1
            by_cases hjl2 : j + 1 < as.length
            · obtain ⟨y2, hy2⟩ : ∃ y2, as[j + 1]? = some y2 := ⟨_, List.getElem?_eq_getElem hjl2⟩
              obtain ⟨vy2, hvy2⟩ : ∃ vy2, va[j + 1]? = some vy2 := ⟨va[j + 1]'(by rw [ha.length]; exact hjl2), List.getElem?_eq_getElem _⟩
              obtain ⟨y2', ty2, rfl, hy2'⟩ := strsAre_get ha hvy2
              obtain rfl : y2 = y2' := Option.some.inj (hy2.symm.trans hy2')
              refine idx_hit (i := j + 1) (News.isList N5 (.tail _ (.tail _ hla1))) hvy2 (j1000 hj0 hla) ?_
              iterate 3 walk1
              refine ⟨by simp [next_ne ra hy hy2], ?_⟩
              iterate 5 walk1
              subst hrst
              exact ⟨_, dec2 hjl, .mk _ _ _ (i) (j + 1) ms _ nm _ sl rfl ⟨F5, N5, hms, husB, ⟨ti, hi3⟩, ⟨_, rfl⟩, hM3, hU3, hE3, hA3, PB.sym⟩ rfl⟩
            · refine idx_out (i := j + 1) rfl F5 N5 (News.isList N5 (.tail _ (.tail _ hla1))) (by rw [ha.length]; exact Nat.le_of_not_lt hjl2) (j1000 hj0 hla) fun h' tk e oe F6 N6 hx6 hne => ?_
              subst hrst
              exact .no e h' tk _ (i) (j + 1) ms _ nm _ sl oe .none rfl rfl (.inr (end1 hjl hjl2)) ⟨F6, fun p hp => N6 p (.tail _ hp), hms, husB, ⟨ti, hi3⟩, ⟨_, rfl⟩, hM3, hU3, hE3, hA3, PB.sym⟩ (hne) hx6 (N6)
          · rename (¬ y.cps.toList < x.cps.toList) => hngt
            obtain rfl : x = y := by
              rcases slt_tri x y with h | h | h
              · exact absurd h hnlt
              · exact h
              · exact absurd h hngt
            obtain ⟨PC, eqC1, eqC2⟩ := P.c re ra hx hy
            have hmsC : StrsAre ms ((es.take (i + 1)).filter (lacks as)) := by rw [eqC1]; exact hms
            have husC : StrsAre us ((as.take (j + 1)).filter (lacks es)) := by rw [eqC2]; exact hus
            iterate 7 walk1
            rename Fr h₀ L' _ _ => F5; rename News h₀ L' _ _ => N5
            refine wpAny_Try_finally ?_
            iterate 2 walk1
            refine While_stop ?_ (by exact PySem.PassesOwn.looking)
            iterate 4 walk1
            by_cases hil2 : i + 1 < es.length
            · obtain ⟨x2, hx2⟩ : ∃ x2, es[i + 1]? = some x2 := ⟨_, List.getElem?_eq_getElem hil2⟩
              obtain ⟨vx2, hvx2⟩ : ∃ vx2, ve[i + 1]? = some vx2 := ⟨ve[i + 1]'(by rw [he.length]; exact hil2), List.getElem?_eq_getElem _⟩
              obtain ⟨x2', tx2, rfl, hx2'⟩ := strsAre_get he hvx2
              obtain rfl : x2 = x2' := Option.some.inj (hx2.symm.trans hx2')
              refine idx_hit (i := i + 1) (News.isList N5 (.tail _ (.tail _ hle1))) hvx2 (j1000 hi0 hle) ?_
              iterate 3 walk1
              refine ⟨by simp [next_ne re hx hx2], ?_⟩
              iterate 9 walk1
              rename Fr h₀ L' _ _ => F6; rename News h₀ L' _ _ => N6
              refine wpAny_passesOwn (by exact RPs.passes rfl rfl hf rfl hke hoL nL hnML hnUL) ?_
              refine While_stop ?_ (by exact RPs.passes rfl rfl hf rfl hke hoL nL hnML hnUL)
              iterate 4 walk1
              by_cases hjl2 : j + 1 < as.length
              · obtain ⟨y2, hy2⟩ : ∃ y2, as[j + 1]? = some y2 := ⟨_, List.getElem?_eq_getElem hjl2⟩
                obtain ⟨vy2, hvy2⟩ : ∃ vy2, va[j + 1]? = some vy2 := ⟨va[j + 1]'(by rw [ha.length]; exact hjl2), List.getElem?_eq_getElem _⟩
                obtain ⟨y2', ty2, rfl, hy2'⟩ := strsAre_get ha hvy2
                obtain rfl : y2 = y2' := Option.some.inj (hy2.symm.trans hy2')
                refine idx_hit (i := j + 1) (News.isList N6 (.tail _ (.tail _ hla1))) hvy2 (j1000 hj0 hla) ?_
                iterate 3 walk1
                refine ⟨by simp [next_ne ra hy hy2], ?_⟩
                iterate 6 walk1
                subst hrst
                exact ⟨_, dec3 hil hjl, .mk _ _ _ (i + 1) (j + 1) ms us nm nu sl rfl ⟨F6, N6, hmsC, husC, ⟨_, rfl⟩, ⟨_, rfl⟩, hM3, hU3, hE3, hA3, PC⟩ rfl⟩
              · refine idx_out (i := j + 1) rfl F6 N6 (News.isList N6 (.tail _ (.tail _ hla1))) (by rw [ha.length]; exact Nat.le_of_not_lt hjl2) (j1000 hj0 hla) fun h' tk e oe F7 N7 hx7 hne => ?_
                subst hrst
                exact .no e h' tk _ (i + 1) (j + 1) ms us nm nu sl oe .none rfl rfl (.inr (end1 hjl hjl2)) ⟨F7, fun p hp => N7 p (.tail _ hp), hmsC, husC, ⟨_, rfl⟩, ⟨_, rfl⟩, hM3, hU3, hE3, hA3, PC⟩ (hne) hx7 (N7)
            · refine idx_out (i := i + 1) rfl F5 N5 (News.isList N5 (.tail _ (.tail _ hle1))) (by rw [he.length]; exact Nat.le_of_not_lt hil2) (j1000 hi0 hle) fun h' tk e1 oe1 F6 N6 hx6 hne6 => ?_
              subst hrst
              have hnewL : ∀ p ∈ (U, W.listOf us.toArray nu) :: (M, W.listOf ms.toArray nm) :: mine, p.1 ≠ L := fun p hp => by
                rcases List.mem_cons.mp hp with rfl | hp
                · exact hnUL
                rcases List.mem_cons.mp hp with rfl | hp
                · exact hnML
                · exact nL p hp
              refine note_first (new := (U, W.listOf us.toArray nu) :: (M, W.listOf ms.toArray nm) :: mine) rfl rfl hf rfl hke F6 N6 (by obtain ⟨a, b, c⟩ := hoL; exact ⟨a, b, c⟩) hx6 hne6 hnewL ?_
              intro h7 tb otb oe1' sl7 F7 N7 hx7 hT7 hnt7
              refine ⟨(by intro z; cases z), ?_⟩
              refine note_again rfl (N7 _ (.tail _ (.head _))).1 hx7 (N7 _ (.head _)).1 hT7 ?_
              refine flight_set F7 N7 hnt7 (.head _) hx7 hT7 fun h8 otb8 F8 N8 hT8 => ?_
              have hla8 : (la, W.listOf va.toArray na) ∈ mine ++ [(L, ({ oL with slots := sl7 } : Obj))] := List.mem_append_left _ hma
              have hrM8 := hrM sl7
              have hrU8 := hrU sl7
              simp only [List.cons_append] at N8 hnt7
              have hne8 : ∀ p ∈ (U, W.listOf us.toArray nu) :: (M, W.listOf ms.toArray nm) :: (mine ++ [(L, ({ oL with slots := sl7 } : Obj))]), p.1 ≠ e1 := fun p hp => by
                rcases List.mem_cons.mp hp with rfl | hp
                · exact hne6 _ (.head _)
                rcases List.mem_cons.mp hp with rfl | hp
                · exact hne6 _ (.tail _ (.head _))
                rcases List.mem_append.mp hp with hp | hp
                · exact hne6 p (.tail _ (.tail _ (List.mem_append_left _ hp)))
                · rw [List.mem_singleton.mp hp]; exact hne6 (L, { oL with slots := sl }) (.tail _ (.tail _ (List.mem_append_right _ (.head _))))
              iterate 7 walk1
              rename Fr h₀ L' _ _ => F9; rename News h₀ L' _ _ => N9
              refine wpAny_passesOwnAt (by exact RPs.passes rfl rfl hf rfl hke hoL nL hnML hnUL) ?_
              refine While_stop ?_ (by exact RPs.passes rfl rfl hf rfl hke hoL nL hnML hnUL)
              iterate 4 walk1
              by_cases hjl2 : j + 1 < as.length
              · obtain ⟨y2, hy2⟩ : ∃ y2, as[j + 1]? = some y2 := ⟨_, List.getElem?_eq_getElem hjl2⟩
                obtain ⟨vy2, hvy2⟩ : ∃ vy2, va[j + 1]? = some vy2 := ⟨va[j + 1]'(by rw [ha.length]; exact hjl2), List.getElem?_eq_getElem _⟩
                obtain ⟨y2', ty2, rfl, hy2'⟩ := strsAre_get ha hvy2
                obtain rfl : y2 = y2' := Option.some.inj (hy2.symm.trans hy2')
                refine idx_hit (i := j + 1) (News.isList N9 (.tail _ (.tail _ (.tail _ (.tail _ hla8))))) hvy2 (j1000 hj0 hla) ?_
                iterate 3 walk1
                refine ⟨by simp [next_ne ra hy hy2], ?_⟩
                iterate 1 walk1
                refine pass_on rfl F9 N9 hnt7 (.head _) hx7 hT8 fun h' otb' F' N' T' => ?_
                exact .yes (.mk e1 h' _ _ (i + 1) (j + 1) ms us nm nu sl7 oe1' .none tb otb' rfl rfl (.inl (end1 hil hil2)) ⟨F', fun p hp => N' p (.tail _ (.tail _ hp)), hmsC, husC, ⟨_, rfl⟩, ⟨_, rfl⟩, hM3, hU3, hE3, hA3, PC⟩ hne8 hx7 T' N' hnt7)
              · refine idx_out2 (i := j + 1) rfl F9 N9 (.tail _ (.head _)) hx7 (News.isList N9 (.tail _ (.tail _ (.tail _ (.tail _ hla8))))) (by rw [ha.length]; exact Nat.le_of_not_lt hjl2) (j1000 hj0 hla) fun h' tk2 e2 oe2 F' N' hx2 hne2 => ?_
                refine .no e2 h' tk2 _ (i + 1) (j + 1) ms us nm nu sl7 oe2 _ rfl rfl (.inl (end1 hil hil2)) ⟨F', fun p hp => N' p (.tail _ (.tail _ (.tail _ hp))), hmsC, husC, ⟨_, rfl⟩, ⟨_, rfl⟩, hM3, hU3, hE3, hA3, PC⟩ (fun p hp => hne2 p (.tail _ (.tail _ hp))) hx2 (News.sub N' fun p hp => ?_)
                rcases List.mem_cons.mp hp with rfl | hp
                · exact .head _
                · exact .tail _ (.tail _ (.tail _ hp))
      · refine idx_out rfl F2 N2 (News.isList N2 (.tail _ (.tail _ hla1))) (by rw [ha.length]; exact Nat.le_of_not_lt hjl) (i1000 hj0 hla) fun h' tk e oe F3 N3 hx hne => ?_
        exact .no e h' tk _ (i) (j) ms us nm nu sl oe .none rfl rfl (.inr (end0 hj0 hjl)) ⟨F3, fun p hp => N3 p (.tail _ hp), hms, hus, ⟨ti, by with_unfolding_all exact hi⟩, ⟨tj, by with_unfolding_all exact hj⟩, by with_unfolding_all exact hM', by with_unfolding_all exact hU', by with_unfolding_all exact hE', by with_unfolding_all exact hA', P⟩ (hne) hx (N3)
    · refine idx_out rfl F1 N1 (News.isList N1 (.tail _ (.tail _ hle1))) (by rw [he.length]; exact Nat.le_of_not_lt hil) (i1000 hi0 hle) fun h' tk e oe F2 N2 hx hne => ?_
      exact .no e h' tk _ (i) (j) ms us nm nu sl oe .none rfl rfl (.inl (end0 hi0 hil)) ⟨F2, fun p hp => N2 p (.tail _ hp), hms, hus, ⟨ti, hi⟩, ⟨tj, hj⟩, hM', hU', hE', hA', P⟩ (hne) hx (N2)
  · intro e s1 R1
    refine RPs.noted rfl rfl hf rfl hke hoL nL hnML hnUL R1 fun s2 R2 => ?_
    refine RPt.flight R2 fun s3 R3 => ?_
    have R3' := R3
    obtain ⟨ea, hp, tk3, m3, i3, j3, ms3, us3, nm3, nu3, sl3, oe, c, tb, otb, rfl, rfl, hend, S3, hne3, hx, hT, N3, hnt⟩ := R3'
    clear hnt hne3
    refine wpAny_handleBy_builtin (X := "IndexError") (T := "IndexError") (b := true) PySem.F.isExc_IndexError PySem.F.notTuple_IndexError (by rw [isSubtype_type]; kernel_rfl) ?_
    have F3 := S3.F
    walk1
    refine ⟨rfl, ⟨oe, (N3 _ (.tail _ (.head _))).1, hx.cls⟩, ?_⟩
    rw [if_pos rfl]
    refine RPt.flight R3 fun s4 R4 => ?_
    obtain ⟨ea', hp4, tk4, m4, i4, j4, ms4, us4, nm4, nu4, sl4, oe4, c4, tb4, otb4, _, rfl, hend4, S4, hne4, hx4, hT4, N4, hnt4⟩ := R4
    obtain ⟨F4, N5, hms4, hus4, ⟨ti4, hi4⟩, ⟨tj4, hj4⟩, hM4, hU4, hE4, hA4, P4⟩ := S4
    clear R3 S3 F3 N3 hx hT hend
    have hrM4 := hrM sl4
    have hrU4 := hrU sl4
    have hle4 : (le, W.listOf ve.toArray ne) ∈ mine ++ [(L, ({ oL with slots := sl4 } : Obj))] := List.mem_append_left _ hme
    have hla4 : (la, W.listOf va.toArray na) ∈ mine ++ [(L, ({ oL with slots := sl4 } : Obj))] := List.mem_append_left _ hma
    have hsl : 4000 ≤ sizeLine := by decide +kernel
    have hml4 : ms4.length ≤ 100 := by rw [hms4.length]; exact Nat.le_trans (List.length_filter_le ..) (Nat.le_trans (List.length_take_le ..) (Nat.le_trans P4.hi hle))
    have hul4 : us4.length ≤ 100 := by rw [hus4.length]; exact Nat.le_trans (List.length_filter_le ..) (Nat.le_trans (List.length_take_le ..) (Nat.le_trans P4.hj hla))
    have hvel : ve.length ≤ 100 := by rw [he.length]; exact hle
    have hval : va.length ≤ 100 := by rw [ha.length]; exact hla
    generalize hrst : mine ++ [(L, ({ oL with slots := sl4 } : Obj))] = rst at N5 hrM4 hrU4 hle4 hla4 hne4 N4 hnt4
    iterate 14 walk1
    refine kmk_slice F4 N5 (News.isList N5 (.tail _ (.tail _ hle4))) (by kmk_part) (by kmk_part) ?_ (by with_unfolding_all rfl) (by kmk_pure) (by rw [List.size_toArray]; exact n4000 hvel hsl)
    intro D6 h6 F6 N6 l6
    rw [pick_from] at N6
    iterate 1 walk1
    have nDM : D6 ≠ M := Nat.ne_of_gt (l6 (M, W.listOf ms4.toArray nm4) (.tail _ (.head _)))
    refine extend_in (own := [(D6, _), (U, W.listOf us4.toArray nu4)]) (D := M) (ys := ms4) (n := nm4) (rest := rst) (b := D6) (its2 := (ve.drop i4).toArray) (n2 := 0) F6 N6 ?_ hrM4 (N6 _ (.head _)).1 ?_ (by rw [List.size_toArray, List.length_drop]; exact s4000 hml4 hvel hsl)
    · intro q hq
      rcases List.mem_cons.mp hq with rfl | hq
      · exact nDM
      · rw [List.mem_singleton.mp hq]; exact hMU
    intro h7 n7 F7 N7
    simp only [List.cons_append, List.nil_append] at N7
    iterate 15 walk1
    refine kmk_slice F7 N7 (News.isList N7 (.tail _ (.tail _ (.tail _ hla4)))) (by kmk_part) (by kmk_part) ?_ (by with_unfolding_all rfl) (by kmk_pure) (by rw [List.size_toArray]; exact n4000 hval hsl)
    intro D8 h8 F8 N8 l8
    rw [pick_from] at N8
    iterate 1 walk1
    have nD8U : D8 ≠ U := Nat.ne_of_gt (l8 (U, W.listOf us4.toArray nu4) (.tail _ (.head _)))
    have nD6U : D6 ≠ U := Nat.ne_of_gt (l6 (U, W.listOf us4.toArray nu4) (.head _))
    refine extend_in (own := [(D8, _), (D6, _)]) (D := U) (ys := us4) (n := nu4) (rest := (M, _) :: rst) (b := D8) (its2 := (va.drop j4).toArray) (n2 := 0) F8 N8 ?_ ?_ (N8 _ (.head _)).1 ?_ (by rw [List.size_toArray, List.length_drop]; exact s4000 hul4 hval hsl)
    · intro q hq
      rcases List.mem_cons.mp hq with rfl | hq
      · exact nD8U
      · rw [List.mem_singleton.mp hq]; exact nD6U
    · intro q hq
      rcases List.mem_cons.mp hq with rfl | hq
      · exact hMU.symm
      · exact hrU4 q hq
    intro h9 n9 F9 N9
    simp only [List.cons_append, List.nil_append] at N9
    k_steps
    rename_i tp h10 F10 N10 l10
    subst hrst
    have l11 := ne_of_allLt l10.2.2.2.2
    refine (show LeaveB _ _ _ _ _ _ _ from ⟨L', m4, (tp, tupOf #[.ref M, .ref U]) :: (U, W.listOf (us4 ++ (va.drop j4).toArray.toList).toArray n9) :: (M, W.listOf (ms4 ++ (ve.drop i4).toArray.toList).toArray n7) :: mine, sl4, F10, News.sub N10 ?_, ?_, fun Fc Nc => kk tp M U _ _ _ _ h10 _ Fc Nc ?_ ?_ ?_⟩)
    · intro p hp
      simp only [List.cons_append] at hp
      rcases List.mem_cons.mp hp with rfl | hp
      · exact .head _
      · exact .tail _ (.tail _ (.tail _ hp))
    · intro p hp
      rcases List.mem_cons.mp hp with rfl | hp
      · exact (l11 (L, _) (List.mem_append_right _ (.head _))).symm
      rcases List.mem_cons.mp hp with rfl | hp
      · exact hnUL
      rcases List.mem_cons.mp hp with rfl | hp
      · exact hnML
      · exact nL p hp
    · intro q hq
      exact ⟨l11 q (List.mem_append_left _ hq), hrM4 q (List.mem_append_left _ hq), hrU4 q (List.mem_append_left _ hq)⟩
    · rw [P4.fin hend4]; exact strsAre_app hms4 (strs_drop i4 he)
    · rw [P4.sym.fin hend4.symm]; exact strsAre_app hus4 (strs_drop j4 ha)
end Mine
end

section
open PySem PySem.W PyProof.Rows
theorem Mine.clrSldC (prog : Program) (w : World) (A : Around) (env : Env) (pos : Pos) (s : Shared) : True := by
  w_top off
  first
  | (have : wpAny (model prog w) A (PySem.eval (.Constant (.int 0) 0 pos) env) (fun _ _ => True) (fun _ _ => True) s := by (walk1; fail "x")); trivial
  | trivial
end

section
open PySem PySem.W PyProof.Rows PySem.Calls Builtin LCg
set_option maxRecDepth 100000
set_option maxHeartbeats 1000000
namespace Mine
theorem wordC_ok : ∀ (n : Nat) (c : Int), (wordC n c).cps.size ≤ n ∧ ∀ x ∈ (wordC n c).cps.toList, x = 97 ∨ x = 98
  | 0, c => by simp [wordC]
  | n + 1, c => by
    have ih := wordC_ok n (c.fdiv 3)
    unfold wordC
    split
    · simp
    · rename_i h
      have h0 := Int.fmod_nonneg_of_pos c (show (0 : Int) < 3 by decide)
      have h1 := Int.fmod_lt_of_pos c (show (0 : Int) < 3 by decide)
      rw [PySem.Str.cps_append]
      refine ⟨by rw [Array.size_append]; simp only [List.size_toArray, List.length_singleton]; omega, fun x hx => ?_⟩
      rw [Array.toList_append] at hx
      rcases List.mem_append.mp hx with hx | hx
      · have : x = 96 + (c.fmod 3).toNat := by simpa using hx
        omega
      · exact ih.2 x hx
theorem rowW_words (s : Nat) (xs : List Int) : Words (rowW s xs) := by
  intro u hu
  unfold rowW at hu
  obtain ⟨x, _, rfl⟩ := List.mem_map.mp hu
  exact wordC_ok 4 _
theorem xsOf_len (ns : List Int) : (xsOf ns).length ≤ 11 := by
  unfold xsOf; rw [List.length_append, List.length_take]; simp only [List.length_cons, List.length_nil]; omega
theorem rowW_len11 (s : Nat) (ns : List Int) : (rowW s (xsOf ns)).length ≤ 11 := Nat.le_trans (rowW_len s _) (xsOf_len ns)
theorem rowW_ne (ns : List Int) {s : Nat} (hs : s = 0 ∨ s = 1) : rowW s (xsOf ns) ≠ [] := by
  intro h
  have h1 : (wordX 5) ∈ rowW s (xsOf ns) := by
    unfold rowW xsOf
    refine List.mem_map.mpr ⟨5, List.mem_filter.mpr ⟨by simp, ?_⟩, rfl⟩
    rcases hs with rfl | rfl <;> decide
  rw [h] at h1; cases h1
theorem domOf_len56 (s : Nat) (ns : List Int) : (domOf (rowW s (xsOf ns))).length ≤ 56 := by
  have h := domOf_len (rowW_words s (xsOf ns)) (rowW s (xsOf ns)).length
  rw [List.take_length] at h
  have := rowW_len11 s ns
  omega
theorem cnt_nil (dom : List Path) : cnt dom [] = dom.length := by
  unfold cnt; rw [List.countP_eq_length]; intro _ _; rfl
theorem strAre_of {vs : List Value} {us : List PySem.Str} (h : StrsAre vs us) : StrAre vs.toArray us := by
  refine ⟨by rw [List.size_toArray]; exact h.length, fun i u hu => ?_⟩
  have hl : i < vs.length := by rw [h.length]; exact (List.getElem?_eq_some_iff.mp hu).1
  obtain ⟨c, t, hv, hc⟩ := strsAre_get h (List.getElem?_eq_getElem hl)
  obtain rfl : u = c := Option.some.inj (hu.symm.trans hc)
  exact ⟨t, by rw [List.getElem?_toArray, List.getElem?_eq_getElem hl, hv]⟩
/-- the runs of the factory behind i rows -/
noncomputable def szs (ns : List Int) : Nat → Nat
  | 0 => 0
  | i + 1 => szs ns i + 3 * (domOf (rowW i (xsOf ns))).length
theorem szs_le (ns : List Int) : ∀ i, szs ns i ≤ 168 * i
  | 0 => Nat.le_refl _
  | i + 1 => by have := szs_le ns i; have := domOf_len56 i ns; unfold szs; omega
/-- the trees of the first rows, grown and frozen -/
structure Trees (w : World) (Rn : Addr) (ns : List Int) (S : St) (ts : List (Addr × Tr)) : Prop where
  ok : S.Ok Rn
  its : S.its.size = szs ns ts.length
  lay : ∀ k t, ts[k]? = some t → t.2.at_ [] = some t.1 ∧ Lay w Rn S.objs t.2 (domOf (rowW k (xsOf ns))) (fun _ => true)
theorem Trees.next {w : World} {Rn : Addr} {ns : List Int} {S S1 S2 : St} {ts : List (Addr × Tr)} {y : Addr} {T : Tr} (h : Trees w Rn ns S ts) (g : GrowJ w Rn S S1 y T (domOf (rowW ts.length (xsOf ns))))
    (f : FroJ w Rn S1 S2 T (domOf (rowW ts.length (xsOf ns))) (fun q => false || List.isPrefixOf ([] : Path) q) (cnt (domOf (rowW ts.length (xsOf ns))) [])) : Trees w Rn ns S2 (ts ++ [(y, T)]) := by
  refine ⟨f.ok, ?_, fun k t hk => ?_⟩
  · rw [List.length_append, List.length_singleton, szs, f.its, g.its, h.its, cnt_nil]; omega
  · by_cases hl : k < ts.length
    · rw [List.getElem?_append_left hl] at hk
      obtain ⟨h1, h2⟩ := h.lay k t hk
      obtain ⟨h3, h4⟩ := g.oth _ _ _ h2
      exact ⟨h1, f.oth _ _ _ h3 h4⟩
    · have hkl : k = ts.length := by
        have := (List.getElem?_eq_some_iff.mp hk).1
        rw [List.length_append, List.length_singleton] at this; omega
      subst hkl
      rw [List.getElem?_append_right (Nat.le_refl _), Nat.sub_self] at hk
      obtain rfl : (y, T) = t := by simpa using hk
      exact ⟨g.rt, f.lay.fz_congr fun q _ => by simp⟩
noncomputable def St0 : St := ⟨none, none, #[], 0, []⟩
theorem St0.trees {w : World} {Rn : Addr} {ns : List Int} (h71 : @Ne Nat Rn 71) (h50 : @Ne Nat Rn 50) : Trees w Rn ns St0 [] :=
  ⟨⟨h71, h50, (fun p hp => nomatch hp), (fun p hp => nomatch hp), (fun c hc => nomatch hc), (fun c hc => nomatch hc), (fun a o o' h => nomatch h)⟩, rfl, fun k t hk => by simp at hk⟩
noncomputable def LawJ (w : World) (Rn Tp tp : Addr) (ot : Obj) (ns : List Int) (mine : Led) (i : Nat) (m' : PySem.Str → Option Value) (nx : Led) : Prop :=
  ∃ S ts n, nx = (Tp, W.listOf (ts.map fun t : Addr × Tr => Value.ref t.1).toArray n) :: (tp, ot) :: (mine ++ S.led Rn) ∧ ts.length = i ∧ Trees w Rn ns S ts ∧ Off ((Tp, W.listOf (ts.map fun t : Addr × Tr => Value.ref t.1).toArray n) :: (tp, ot) :: mine) (S.led Rn) ∧
    m' (Str.ofString "trees") = some (.ref Tp) ∧ m' (Str.ofString "runs") = some (.ref Rn) ∧ m' (Str.ofString "rows") = some (.ref tp)
section
variable {prog : Program} {w : World} {A : Around} {E : Value → Shared → Prop} {s : Shared} {h₀ : Heap} {L' : Addr} {m : PySem.Str → Option Value}
theorem app_head {D : Addr} {ys : List Value} {n : Nat} {x : Value} {rest : Led} {Q : Value → Shared → Prop} (F : Fr h₀ L' s.heap m) (N : News h₀ L' s.heap ((D, W.listOf ys.toArray n) :: rest)) (hr : ∀ p ∈ rest, p.1 ≠ D) (hsz : ys.length ≤ 1000)
    (h : ∀ h', Fr h₀ L' h' m → News h₀ L' h' ((D, W.listOf (ys ++ [x]).toArray (n + 1)) :: rest) → Q .none { s with heap := h' }) : wpAny (model prog w) A (call (.builtin "list.append") [.ref D, x]) Q E s := by
  have hsl : 4000 ≤ sizeLine := by decide +kernel
  have hD := N _ (.head _)
  refine append_at (hsz := by rw [List.size_toArray]; omega) hD.1 fun h' hs hW => ?_
  rw [List.push_toArray] at hW
  refine h h' (F.change hs hD.2.1 hD.2.2) fun p hp => ?_
  rcases List.mem_cons.mp hp with rfl | hp
  · exact ⟨hW, hD.2⟩
  · exact ⟨(hs.2 _ (hr p hp)).trans (N p (.tail _ hp)).1, (N p (.tail _ hp)).2⟩
theorem idx_last {value slice : Expr} {l : Addr} {ys : List Value} {t : Tok} {v : Value} {Q : Value → Shared → Prop} (hl : s.heap.IsList l (ys ++ [v]).toArray) (hz : ys.length ≤ 1000) (h : Q v s)
    (hs : subscripted slice false (.ref l) (.int (-1) t) = operate [.ref l, .int (-1) t] (getItem (.ref l) (.int (-1) t)) := by with_unfolding_all rfl) :
    wpAny (model prog w) A (subscriptTail value slice (.ref l) (.int (-1) t)) Q E s :=
  tail_any hl.typeIs slot_list_getitem.lookup (wpAny_getItem_list_neg hl (by decide) (by rw [List.size_toArray, List.length_append, List.length_singleton]; omega) (by decide) (by
    rw [List.size_toArray, List.length_append, List.length_singleton, List.getElem?_toArray]
    have : ((-1 : Int) + ((ys.length + 1 : Nat) : Int)).toNat = ys.length := by omega
    rw [this]; simp) h) hs
end
end Mine
end

section
open PySem PySem.W PyProof.Rows PySem.Calls Builtin LCg
set_option maxRecDepth 100000
set_option maxHeartbeats 2000000
set_option pp.deepTerms false
set_option pp.deepTerms.threshold 7
namespace Mine
/-- the law's own def, taken from the row's program -/
noncomputable def lawDef : Stmt := (Challenge.pw_in0102_01.main.body.getLast?).getD (.Pass ⟨0, 0, 0, 0⟩)
noncomputable def lawBody : List Stmt := match lawDef with
  | .FunctionDef _ _ body .. => body
  | _ => []
noncomputable def lawScope : Scope := match lawDef with
  | .FunctionDef _ _ _ _ _ _ scope .. => scope
  | _ => { kind := .function, names := [], isGenerator := false, isCoroutine := false }
/-- one statement of the law's body; the later ones stay folded -/
noncomputable def lawStmt (n : Nat) : Stmt := (lawBody[n]?).getD (.Pass ⟨0, 0, 0, 0⟩)
noncomputable def lawEnv (L fa : Addr) (cd : Value) : Env := envOfC (Str.ofString "law") lawScope L fa cd
/-- what stays the same through all the law -/
structure LCtx (w : World) (G : GG) (h₀ : Heap) : Prop where
  K : Below callerA h₀ [] h₀
  X : (hd.heap_39 w.params).In h₀
  T : Top G.p G.loose G.mean G.mg G.mb h₀
  C1 : CodeHd h₀ 75 71
  C2 : CodeHd h₀ 54 50
theorem law_lim : callerA.depth + 300 < recursionLimit := by simp only [depth_caller]; decide
theorem law_units : callerA.units + 4000 < cLine := by decide +kernel
theorem off_new {D : Addr} {o : Obj} {mine l : Led} (h : ∀ q ∈ l, q.1 ≠ D) (O : Off mine l) : Off ((D, o) :: mine) l := fun p hp q hq => by
  rcases List.mem_cons.mp hp with rfl | hp
  · exact (h q hq).symm
  · exact O p hp q hq
theorem off_sub {mine mine' l : Led} (O : Off mine l) (h : ∀ p ∈ mine', p ∈ mine) : Off mine' l := fun p hp => O p (h p hp)
noncomputable abbrev LawGo (w : World) (n : Nat) (L fa : Addr) (cd : Value) (Q : Flow → Shared → Prop) (E : Value → Shared → Prop) (s : Shared) : Prop :=
  wpAny (model Challenge.rw_in0102_01.row.prog w) (callerA.deeper (lawEnv L fa cd)) (execs (lawBody.drop n) (lawEnv L fa cd)) Q E s
/-- a comprehension that builds one list of texts at each turn -/
noncomputable def LsJ (mine : Led) (Sp : Nat → List Value → Prop) : Nat → List Value → Led → Prop
  | 0, ys, nm => ys = [] ∧ nm = mine
  | i + 1, ys, nm => ∃ ys' nm' D vs n, LsJ mine Sp i ys' nm' ∧ Sp i vs ∧ ys = ys' ++ [.ref D] ∧ nm = (D, W.listOf vs.toArray n) :: nm' ∧ ∀ q ∈ nm', q.1 ≠ D
theorem LsJ.sub {mine : Led} {Sp : Nat → List Value → Prop} : ∀ {i ys nm}, LsJ mine Sp i ys nm → ∀ p ∈ mine, p ∈ nm
  | 0, _, _, h, p, hp => h.2 ▸ hp
  | _ + 1, _, _, ⟨_, _, _, _, _, h, _, _, e, _⟩, p, hp => e ▸ .tail _ (h.sub p hp)
theorem LsJ.two {mine : Led} {Sp : Nat → List Value → Prop} {ys : List Value} {nm : Led} (h : LsJ mine Sp 2 ys nm) : ∃ R0 w0 k0 R1 w1 k1, ys = [.ref R0, .ref R1] ∧ nm = (R1, W.listOf w1.toArray k1) :: (R0, W.listOf w0.toArray k0) :: mine ∧ Sp 0 w0 ∧ Sp 1 w1 ∧ (∀ q ∈ mine, q.1 ≠ R0) ∧ (∀ q ∈ mine, q.1 ≠ R1) ∧ R0 ≠ R1 := by
  obtain ⟨y1, m1, D1, w1, k1, ⟨y0, m0, D0, w0, k0, ⟨rfl, rfl⟩, s0, rfl, rfl, d0⟩, s1, rfl, rfl, d1⟩ := h
  exact ⟨D0, w0, k0, D1, w1, k1, rfl, rfl, s0, s1, d0, fun q hq => d1 q (.tail _ hq), d1 _ (.head _)⟩
noncomputable def LsJl (mine l : Led) (Sp : Nat → List Value → Prop) (i : Nat) (ys : List Value) (nx : Led) : Prop := ∃ nm, nx = nm ++ l ∧ Off nm l ∧ LsJ mine Sp i ys nm
section
variable {prog : Program} {w : World} {A : Around} {E : Value → Shared → Prop} {s : Shared} {h₀ : Heap} {L' : Addr} {value slice : Expr} {l : Addr} {its : Array Value} {k : Int} {t : Tok} {v : Value} {Q : Value → Shared → Prop} {news : Led} {ps : Pos}
theorem tup_at (N : News h₀ L' s.heap news) (hm : (l, tupOf its) ∈ news) (h0 : 0 ≤ k) (hk : k < 1000) (hj : its[k.toNat]? = some v) (h : Q v s)
    (hs : subscripted slice false (.ref l) (.int k t) = operate [.ref l, .int k t] (getItem (.ref l) (.int k t)) := by with_unfolding_all rfl) :
    wpAny (model prog w) A (subscriptTail value slice (.ref l) (.int k t)) Q E s := by
  have ht : IsTup s.heap l its := ⟨_, (N _ hm).1, rfl, _, rfl⟩
  have hlt : k.toNat < its.size := (Array.getElem?_eq_some_iff.mp hj).1
  exact tail_any ht.typeIs slot_tuple_getitem.lookup (getItem_tuple ht (by omega) (by omega) (seqIndex_of h0 (by omega)) hj h) hs
theorem lst_at {n : Nat} (N : News h₀ L' s.heap news) (hm : (l, W.listOf its n) ∈ news) (h0 : 0 ≤ k) (hk : k < 1000) (hj : its[k.toNat]? = some v) (h : Q v s)
    (hs : subscripted slice false (.ref l) (.int k t) = operate [.ref l, .int k t] (getItem (.ref l) (.int k t)) := by with_unfolding_all rfl) :
    wpAny (model prog w) A (subscriptTail value slice (.ref l) (.int k t)) Q E s := by
  have hl : s.heap.IsList l its := ⟨_, (N _ hm).1, rfl, _, rfl⟩
  exact tail_any hl.typeIs slot_list_getitem.lookup (wpAny_getItem_list hl h0 (by omega) hj h) hs
theorem tup0 {a b : Value} (N : News h₀ L' s.heap news) (hm : (l, tupOf #[a, b]) ∈ news) (h : Q a s) : wpAny (model prog w) A (subscriptTail value (.Constant (.int 0) 0 ps) (.ref l) (.int 0 t)) Q E s := tup_at N hm (by decide) (by decide) rfl h
theorem tup1 {a b : Value} (N : News h₀ L' s.heap news) (hm : (l, tupOf #[a, b]) ∈ news) (h : Q b s) : wpAny (model prog w) A (subscriptTail value (.Constant (.int 1) 0 ps) (.ref l) (.int 1 t)) Q E s := tup_at N hm (by decide) (by decide) rfl h
theorem lst0 {a b : Value} {n : Nat} (N : News h₀ L' s.heap news) (hm : (l, W.listOf #[a, b] n) ∈ news) (h : Q a s) : wpAny (model prog w) A (subscriptTail value (.Constant (.int 0) 0 ps) (.ref l) (.int 0 t)) Q E s := lst_at N hm (by decide) (by decide) rfl h
theorem lst1 {a b : Value} {n : Nat} (N : News h₀ L' s.heap news) (hm : (l, W.listOf #[a, b] n) ∈ news) (h : Q b s) : wpAny (model prog w) A (subscriptTail value (.Constant (.int 1) 0 ps) (.ref l) (.int 1 t)) Q E s := lst_at N hm (by decide) (by decide) rfl h
end
theorem eqv_strs (us : List PySem.Str) : PyData.eqv (.list (strD us)) (.list (strD us)) = true := by
  simp only [PyData.eqv]; rw [eqvAll_strs]; simp
theorem shaped_pairL {us vs : List PySem.Str} (h : Words us) (h' : Words vs) : SeqAt.shaped (.list [.list (strD us), .list (strD vs)]) = true := by
  simp [SeqAt.shaped, PyData.canLay0, PyData.canLayAll0, PyData.depth, PyData.depthAll, canLay_strs h, canLay_strs h', depth_strs]
theorem shaped_pairT {us vs : List PySem.Str} (h : Words us) (h' : Words vs) : SeqAt.shaped (.tuple [.list (strD us), .list (strD vs)]) = true := by
  simp [SeqAt.shaped, PyData.canLay0, PyData.canLayAll0, PyData.depth, PyData.depthAll, canLay_strs h, canLay_strs h', depth_strs]
section
variable {prog : Program} {w : World} {A : Around} {E : Value → Shared → Prop} {s : Shared} {h₀ : Heap} {L' : Addr} {Q : Value → Shared → Prop} {news : Led} {a a0 a1 b b0 b1 : Addr} {x0 x1 y0 y1 : List Value} {i0 i1 j0 j1 n n' : Nat} {us vs : List PySem.Str}
theorem reads_at {h : Heap} (N : News h₀ L' h news) (hm : (a, W.listOf x0.toArray i0) ∈ news) (hi : StrsAre x0 us) : Reads h (.ref a) (.list (strD us)) [a] :=
  reads_strs ⟨_, (N _ hm).1, rfl, _, rfl⟩ hi
theorem ne_pairL (N : News h₀ L' s.heap news) (ha : (a, W.listOf #[.ref a0, .ref a1] n) ∈ news) (ha0 : (a0, W.listOf x0.toArray i0) ∈ news) (ha1 : (a1, W.listOf x1.toArray i1) ∈ news) (hb : (b, W.listOf #[.ref b0, .ref b1] n') ∈ news) (hb0 : (b0, W.listOf y0.toArray j0) ∈ news) (hb1 : (b1, W.listOf y1.toArray j1) ∈ news)
    (s0 : StrsAre x0 us) (s1 : StrsAre x1 vs) (t0 : StrsAre y0 us) (t1 : StrsAre y1 vs) (hw : Words us) (hv : Words vs) (hu : A.units + 64 < cLine) (h : Q (.bool false) s) : wpAny (model prog w) A (compareOp .NotEq (.ref a) (.ref b)) Q E s :=
  ne_dataH (reads_list_at (N _ ha).1 rfl rfl (.cons (reads_at N ha0 s0) (.cons (reads_at N ha1 s1) .nil))) (reads_list_at (N _ hb).1 rfl rfl (.cons (reads_at N hb0 t0) (.cons (reads_at N hb1 t1) .nil))) (shaped_pairL hw hv) (shaped_pairL hw hv) hu (by
    rw [show PyData.eqv (.list [.list (strD us), .list (strD vs)]) (.list [.list (strD us), .list (strD vs)]) = true by rw [PyData.eqv]; simp only [PyData.eqvAll, eqv_strs, Bool.and_self]]
    exact h)
theorem ne_pairT (N : News h₀ L' s.heap news) (ha : (a, tupOf #[.ref a0, .ref a1]) ∈ news) (ha0 : (a0, W.listOf x0.toArray i0) ∈ news) (ha1 : (a1, W.listOf x1.toArray i1) ∈ news) (hb : (b, tupOf #[.ref b0, .ref b1]) ∈ news) (hb0 : (b0, W.listOf y0.toArray j0) ∈ news) (hb1 : (b1, W.listOf y1.toArray j1) ∈ news)
    (s0 : StrsAre x0 us) (s1 : StrsAre x1 vs) (t0 : StrsAre y0 us) (t1 : StrsAre y1 vs) (hw : Words us) (hv : Words vs) (hu : A.units + 64 < cLine) (h : Q (.bool false) s) : wpAny (model prog w) A (compareOp .NotEq (.ref a) (.ref b)) Q E s :=
  ne_dataH (reads_tuple_at (N _ ha).1 rfl rfl (.cons (reads_at N ha0 s0) (.cons (reads_at N ha1 s1) .nil))) (reads_tuple_at (N _ hb).1 rfl rfl (.cons (reads_at N hb0 t0) (.cons (reads_at N hb1 t1) .nil))) (shaped_pairT hw hv) (shaped_pairT hw hv) hu (by
    rw [show PyData.eqv (.tuple [.list (strD us), .list (strD vs)]) (.tuple [.list (strD us), .list (strD vs)]) = true by rw [PyData.eqv]; simp only [PyData.eqvAll, eqv_strs, Bool.and_self]]
    exact h)
end
section
variable {prog : Program} {w : World} {A : Around} {E : Value → Shared → Prop} {s : Shared} {h₀ : Heap} {L : Addr} {m : PySem.Str → Option Value} {env : Env}
theorem any_strs {u : PySem.Str} {e : Value → Bool} (he : ∀ a t, e (.str a t) = (a == u)) : ∀ {vs : List Value} {us : List PySem.Str}, StrsAre vs us → vs.any e = us.contains u
  | _, _, .nil => rfl
  | _, _, .cons (y := a) t r => by
    rw [List.any_cons, he, any_strs he r, List.contains_cons]
    congr 1
    exact BEq.comm
theorem notIn_strs {l : Addr} {vs : List Value} {us : List PySem.Str} {n : Nat} {u : PySem.Str} {t : Tok} {news : Led} {Q : Value → Shared → Prop} (N : News h₀ L s.heap news) (hm : (l, W.listOf vs.toArray n) ∈ news) (hs : StrsAre vs us) (h : Q (.bool (lacks us u)) s) :
    wpAny (model prog w) A (compareOp .NotIn (.str u t) (.ref l)) Q E s := by
  refine SeqAt.notIn_listAt (fun y => match y with | .str a _ => a == u | _ => false) ⟨_, (N _ hm).1, rfl, _, rfl⟩ (fun y hy => ?_) ?_
  · obtain ⟨i, hi⟩ := List.getElem?_of_mem (Array.mem_toList_iff.mpr hy)
    obtain ⟨c, t', rfl, _⟩ := strsAre_get hs hi
    exact SeqAt.EqAt.str_str _ _ _ _
  · rw [List.any_toArray, any_strs (u := u) (fun a t => rfl) hs]; exact h
theorem comp_invT {ct elt : Expr} {x : Str} {scope : Scope} {cl : List (Str × Addr)} {S : List (Addr × Obj) → Prop} {P : Nat → Value → Prop} {Fin : List Value → List (Addr × Obj) → Prop} {n : Nat} {news : List (Addr × Obj)} (J : Nat → List Value → List (Addr × Obj) → Prop)
    (hj : J 0 [] news)
    (turn : ∀ i ys nx v I oI C oC D m₂ h tk (E' : Value → Shared → Prop), i < n → J i ys nx → P i v → NsObj oC m₂ → m₂ x = some v → Fr h₀ L h m → News h₀ L h ((I, oI) :: (C, oC) :: (D, lst ys) :: nx) → Off3 I C D nx → ((@Ne Nat I C) ∧ (@Ne Nat I D) ∧ (@Ne Nat C D)) →
      wpAny (model prog w) A (isTrue ct (compEnvC scope cl C env) (eval ct (compEnvC scope cl C env))) (fun ok s' => if ok = true then
        wpAny (model prog w) A (eval elt (compEnvC scope cl C env)) (CompEnd h₀ L m { s with heap := h, toks := tk } I oI C oC D (lst ys) S (fun y nx' => J (i + 1) (ys ++ [y]) nx')) E' s'
        else CompEnd h₀ L m { s with heap := h, toks := tk } I oI C oC D (lst ys) S (fun _ nx' => J (i + 1) ys nx') Value.none s') E' { s with heap := h, toks := tk })
    (fin : ∀ ys nx, J n ys nx → Fin ys nx) : LCt.CompRestT prog w A h₀ L m env ct elt x scope cl s S P Fin n 0 [] news := by
  have key : ∀ k i ys nx, i + k = n → J i ys nx → LCt.CompRestT prog w A h₀ L m env ct elt x scope cl s S P Fin k i ys nx := by
    intro k
    induction k with
    | zero => intro i ys nx e hJ; obtain rfl : i = n := e; exact fin ys nx hJ
    | succ k ih =>
      intro i ys nx e hJ
      refine LCt.CompRestT.succ fun v I oI C oC D m₂ h tk E' hP hC hm F N O D3 => ?_
      refine wpAny_mono (turn i ys nx v I oI C oC D m₂ h tk E' (by omega) hJ hP hC hm F N O D3) (fun ok s₂ h₂ => ?_) fun _ _ e => e
      cases ok with
      | true =>
        simp only [if_true] at h₂ ⊢
        refine wpAny_mono h₂ (fun y s₃ h₃ => ?_) fun _ _ e => e
        obtain ⟨h', tk, nx', e1, F', N', O', S', r⟩ := h₃
        exact ⟨h', tk, nx', e1, F', N', O', S', ih (i + 1) _ _ (by omega) r⟩
      | false =>
        simp only [Bool.false_eq_true, if_false] at h₂ ⊢
        obtain ⟨h', tk, nx', e1, F', N', O', S', r⟩ := h₂
        exact ⟨h', tk, nx', e1, F', N', O', S', ih (i + 1) _ _ (by omega) r⟩
  exact key n 0 [] news (by omega) hj
end
section
variable {prog : Program} {w : World} {A : Around} {E : Value → Shared → Prop} {s : Shared} {h₀ : Heap} {L : Addr}
theorem len_strs {l : Addr} {vs : List Value} {us : List PySem.Str} {n : Nat} {news : Led} {Q : Value → Shared → Prop} (N : News h₀ L s.heap news) (hm : (l, W.listOf vs.toArray n) ∈ news) (hs : StrsAre vs us) (hz : us.length ≤ 100) (h : Q (.int us.length (s.toks + 1)) { s with toks := s.toks + 1 + 1 }) :
    wpAny (model prog w) A (call (.builtin "len") [.ref l]) Q E s := by
  have hl : s.heap.IsList l vs.toArray := ⟨_, (N _ hm).1, rfl, _, rfl⟩
  have e : (vs.toArray.size : Int) = (us.length : Int) := by rw [List.size_toArray, hs.length]
  refine len_list hl (by rw [List.size_toArray, hs.length]; omega) ?_
  rw [e]; exact h
end
end Mine
end

section
open PySem PySem.W PyProof.Rows PySem.Calls Builtin LCg
set_option maxRecDepth 100000
set_option maxHeartbeats 2000000
set_option pp.deepTerms false
set_option pp.deepTerms.threshold 9
namespace Mine
theorem compTurn_in (elt target iter : Expr) (g0 : Comprehension) (scope : Scope) (pos : Pos) (it acc : Value) (env : Env) :
    compTurn (.ListComp elt [g0, ⟨target, iter, [], 0⟩] scope pos) 1 it acc env = (standAt iter.pos >>= fun _ => pyNext it >>= fun r => match r with
      | none => pure (.done .next)
      | some v => letOwnedTupleGo target it v >>= fun _ => assign target env v >>= fun _ =>
        (eval elt env >>= fun x => call (.builtin "list.append") [acc, x] >>= fun _ => pure ()) >>= fun _ =>
          again (.compLoop (.ListComp elt [g0, ⟨target, iter, [], 0⟩] scope pos) 1 it acc env)) := by rfl
theorem compTurn_out (elt target iter t2 iter2 : Expr) (scope : Scope) (pos : Pos) (it acc : Value) (env : Env) :
    compTurn (.ListComp elt [⟨target, iter, [], 0⟩, ⟨t2, iter2, [], 0⟩] scope pos) 0 it acc env = (standAt iter.pos >>= fun _ => pyNext it >>= fun r => match r with
      | none => pure (.done .next)
      | some v => letOwnedTupleGo target it v >>= fun _ => assign target env v >>= fun _ =>
        eval iter2 env >>= fun x => standAt iter2.pos >>= fun _ => foldedSetIterable iter2 env x >>= fun x => holding [x] (pyIter x) >>= fun it2 =>
          runOwn (.compStart (.ListComp elt [⟨target, iter, [], 0⟩, ⟨t2, iter2, [], 0⟩] scope pos) 1 it2 acc env) env >>= fun _ =>
          again (.compLoop (.ListComp elt [⟨target, iter, [], 0⟩, ⟨t2, iter2, [], 0⟩] scope pos) 0 it acc env)) := by rfl
section
variable {prog : Program} {w : World} {A : Around} {E : Value → Shared → Prop} {R : Result → Shared → Prop} {s : Shared}
theorem compStart_one {elt target iter rest scope pos it acc env} {g0 : Comprehension}
    (h0 : codeAny (model prog w) A (.compLoop (.ListComp elt (g0 :: ⟨target, iter, [], 0⟩ :: rest) scope pos) 1 it acc env) R s)
    (h : wpAny (model prog w) A (pyIter it) (fun it' s' => codeAny (model prog w) A (.compLoop (.ListComp elt (g0 :: ⟨target, iter, [], 0⟩ :: rest) scope pos) 1 it' acc env) R s')
      (notedBy (model prog w) A env fun x s' => R (.error x) s') s) :
    codeAny (model prog w) A (.compStart (.ListComp elt (g0 :: ⟨target, iter, [], 0⟩ :: rest) scope pos) 1 it acc env) R s := by
  refine codeAny_of_tree ?_
  show wpAny _ _ ((compStart (.ListComp elt (g0 :: ⟨target, iter, [], 0⟩ :: rest) scope pos) 1 it acc env).onRaise (fun x => do noteFrame x env; standAt theWindowsPlace)) _ _ s
  refine wpAny_notedAt ?_
  unfold compStart
  show wpAny _ _ (ask >>= _) _ _ s
  refine wpAny_bind (wpAny_askSetting (wpAny_ite ?_))
  split
  · first
      | exact wpAny_bind (wpAny_pure (wpAny_pure (And.intro rfl h0)))
      | exact wpAny_pure (And.intro rfl h0)
  · first
      | exact wpAny_bind (wpAny_rule (wpAny_bind (wpAny_standAt (wpAny_bind (wpAny_mono h (fun it' s' h' => wpAny_pure (And.intro rfl h')) fun _ _ x => x)))))
      | (refine wpAny_bind (wpAny_rule ?_); show wpAny _ _ (standAt iter.pos >>= _) _ _ s; exact wpAny_bind (wpAny_standAt (wpAny_bind (wpAny_mono h (fun it' s' h' => wpAny_pure (And.intro rfl h')) fun _ _ x => x))))
theorem compLoop_in {elt target iter : Expr} {g0 : Comprehension} {scope : Scope} {pos : Pos} {it acc : Value} {env : Env} (I : Nat → Shared → Prop)
    (turn : ∀ n s, I n s → wpAny (model prog w) A (pyNext it) (fun r s₁ => match r with
      | none => R (.ok .next) s₁
      | some v => wpAny (model prog w) A (assign target env v) (fun _ s₂ => wpAny (model prog w) A (eval elt env) (fun x s₄ =>
              wpAny (model prog w) A (call (.builtin "list.append") [acc, x]) (fun _ s₅ => ∃ m, m < n ∧ I m s₅) (notedBy (model prog w) A env fun e s' => R (.error e) s') s₄) (notedBy (model prog w) A env fun e s' => R (.error e) s') s₂) (notedBy (model prog w) A env fun e s' => R (.error e) s') s₁) (notedBy (model prog w) A env fun e s' => R (.error e) s') s)
    (n : Nat) (h : I n s) (ht : ∀ v, letOwnedTupleGo target it v = pure () := by intro _; rfl) :
    codeAny (model prog w) A (.compLoop (.ListComp elt [g0, ⟨target, iter, [], 0⟩] scope pos) 1 it acc env) R s := by
  refine codeAny_loop rfl I (fun n s hI => ?_) n h
  show wpAny _ A ((compTurn (.ListComp elt [g0, ⟨target, iter, [], 0⟩] scope pos) 1 it acc env).onRaise (fun x => do noteFrame x env; theTreesLotGoes x)) _ _ s
  refine wpAny_noted ?_
  rw [compTurn_in]
  refine wpAny_bind (wpAny_standAt (wpAny_bind (wpAny_mono (turn n s hI) (fun r s₁ h₁ => ?_) fun _ _ h' => h')))
  cases r with
  | none => exact wpAny_pure h₁
  | some v =>
    refine wpAny_bind (wpAny_of_eq (ht v) ?_)
    refine wpAny_bind (wpAny_mono h₁ (fun _ s₂ h₂ => ?_) fun _ _ h' => h')
    exact wpAny_bind (wpAny_bind (wpAny_mono h₂ (fun x s₄ h₄ => wpAny_bind (wpAny_mono h₄ (fun _ s₅ h₅ => wpAny_pure (wpAny_pure ⟨rfl, h₅⟩)) fun _ _ h' => h')) fun _ _ h' => h'))
theorem compLoop_out {elt target iter t2 iter2 : Expr} {scope : Scope} {pos : Pos} {it acc : Value} {env : Env} (I : Nat → Shared → Prop)
    (turn : ∀ n s, I n s → wpAny (model prog w) A (pyNext it) (fun r s₁ => match r with
      | none => R (.ok .next) s₁
      | some v => wpAny (model prog w) A (assign target env v) (fun _ s₂ => wpAny (model prog w) A (eval iter2 env) (fun x s₃ =>
              wpAny (model prog w) A (pyIter x) (fun it2 s₄ => codeAny (model prog w) A (.compStart (.ListComp elt [⟨target, iter, [], 0⟩, ⟨t2, iter2, [], 0⟩] scope pos) 1 it2 acc env) (fun r s₅ => r = .ok .next ∧ ∃ m, m < n ∧ I m s₅) s₄) (notedBy (model prog w) A env fun e s' => R (.error e) s') s₃) (notedBy (model prog w) A env fun e s' => R (.error e) s') s₂) (notedBy (model prog w) A env fun e s' => R (.error e) s') s₁) (notedBy (model prog w) A env fun e s' => R (.error e) s') s)
    (n : Nat) (h : I n s) (hf : ∀ x, foldedSetIterable iter2 env x = pure x) (ht : ∀ v, letOwnedTupleGo target it v = pure () := by intro _; rfl) :
    codeAny (model prog w) A (.compLoop (.ListComp elt [⟨target, iter, [], 0⟩, ⟨t2, iter2, [], 0⟩] scope pos) 0 it acc env) R s := by
  refine codeAny_loop rfl I (fun n s hI => ?_) n h
  show wpAny _ A ((compTurn (.ListComp elt [⟨target, iter, [], 0⟩, ⟨t2, iter2, [], 0⟩] scope pos) 0 it acc env).onRaise (fun x => do noteFrame x env; theTreesLotGoes x)) _ _ s
  refine wpAny_noted ?_
  rw [compTurn_out]
  refine wpAny_bind (wpAny_standAt (wpAny_bind (wpAny_mono (turn n s hI) (fun r s₁ h₁ => ?_) fun _ _ h' => h')))
  cases r with
  | none => exact wpAny_pure h₁
  | some v =>
    refine wpAny_bind (wpAny_of_eq (ht v) ?_)
    refine wpAny_bind (wpAny_mono h₁ (fun _ s₂ h₂ => ?_) fun _ _ h' => h')
    refine wpAny_bind (wpAny_mono h₂ (fun x s₃ h₃ => ?_) fun _ _ h' => h')
    refine wpAny_bind (wpAny_standAt (wpAny_bind (wpAny_of_eq (hf x) ?_)))
    refine wpAny_bind (wpAny_holding (wpAny_mono h₃ (fun it2 s₄ h₄ => ?_) fun _ _ h' => h'))
    refine wpAny_bind (wpAny_runOwn ?_ (by intro x; cases x))
    rw [Around.mark_none]
    refine codeAny_mono h₄ fun r s₅ hr => ?_
    obtain ⟨rfl, hr⟩ := hr
    exact wpAny_pure ⟨rfl, hr⟩
end
section
variable {prog : Program} {w : World} {A : Around} {E : Value → Shared → Prop} {s : Shared} {h₀ : Heap} {L : Addr} {m : PySem.Str → Option Value} {env : Env}
theorem two_ListComp {elt iter iter2 : Expr} {x y : PySem.Str} {px py : Pos} {scope : Scope} {cl : List (PySem.Str × Addr)} {pos : Pos} {Q : Value → Shared → Prop} {ax : Addr} {its : Array Value} {k : Nat} {news : Led} (rng : Nat → Nat)
    (J : Nat → Nat → List Value → Prop)
    (hh : A.handled = none) (hclos : closureFor scope env = pure cl) (hcell : ∀ z ∈ scope.names, z.2 ≠ .cell) (hkind : scope.kind = .function)
    (hnames : ∀ z ∈ scope.names, z.2 = .local → scope.names.lookup z.1 = some .local) (hx : scope.names.lookup x = some .local) (hy : scope.names.lookup y = some .local) (hxy : x ≠ y)
    (hf2 : ∀ (e : Env) (v : Value), foldedSetIterable iter2 e v = pure v)
    (F : Fr h₀ L s.heap m) (N : News h₀ L s.heap news) (hm : (ax, ({ cls := .type "list", data := .seq its k } : Obj)) ∈ news)
    (hsm : ∀ i, i < its.size → Builtin.Range.small 0 (rng i : Nat) 1 = true) (hlen : ∀ i j ys, J i j ys → ys.length ≤ 2000)
    (h : wpAny (model prog w) A (eval iter env) (fun xv s₁ => xv = .ref ax ∧ s₁ = s) E s)
    (hj : J 0 0 [])
    (src : ∀ i v C oC m₂ led (s' : Shared) E', its[i]? = some v → NsObj oC m₂ → m₂ x = some v → Fr h₀ L s'.heap m → News h₀ L s'.heap led → (C, oC) ∈ led →
       wpAny (model prog w) A (eval iter2 (compEnvC scope cl C env)) (fun xv s₁ => ∃ r h tk t u q, xv = .ref r ∧ s₁ = { s' with heap := h, toks := tk } ∧ Fr h₀ L h m ∧ News h₀ L h led ∧ IsRange h r 0 (rng i : Nat) 1 t u q) E' s')
    (turn : ∀ i j v t ys C oC m₂ led (s' : Shared) E', its[i]? = some v → j < rng i → J i j ys → NsObj oC m₂ → m₂ x = some v → m₂ y = some (.int (j : Nat) t) → Fr h₀ L s'.heap m → News h₀ L s'.heap led → (C, oC) ∈ led →
       wpAny (model prog w) A (eval elt (compEnvC scope cl C env)) (fun z s₁ => ∃ h tk, s₁ = { s' with heap := h, toks := tk } ∧ Fr h₀ L h m ∧ News h₀ L h led ∧ J i (j + 1) (ys ++ [z])) E' s')
    (next : ∀ i ys, i < its.size → J i (rng i) ys → J (i + 1) 0 ys)
    (fin : ∀ D h tk ys, Fr h₀ L h m → News h₀ L h ((D, lst ys) :: news) → (∀ q ∈ news, q.1 ≠ D) → J its.size 0 ys → Q (.ref D) { s with heap := h, toks := tk })
    (hs : ∀ x, foldedSetIterable iter env x = pure x := by intro _; rfl) :
    wpAny (model prog w) A (eval (.ListComp elt [⟨.Name x px, iter, [], 0⟩, ⟨.Name y py, iter2, [], 0⟩] scope pos) env) Q E s := by
  rw [eval_ListComp]
  refine wpAny_comprehension_free (use := none) rfl hs hclos hkind hnames (wpAny_mono h (fun xv s₁ h₁ => ?_) fun _ _ e => e)
  obtain ⟨rfl, rfl⟩ := h₁
  have hl : s₁.heap.IsList ax its := ⟨_, (N _ hm).1, rfl, _, rfl⟩
  have hlt : ax < s₁.heap.objs.size := Heap.lt_size (N _ hm).1
  refine wpAny_pyIter_list hl ?_
  have W := Walks.list (prog := prog) (w := w) hh s₁.heap.objs.size ax (Nat.ne_of_lt hlt) its
  have up : ∀ b o, s₁.heap.get? b = some o → (s₁.heap.push { cls := .type "list_iterator", data := .fields #[.ref ax, .int 0 0] }).get? b = some o := fun b o e => Heap.get?_push_of_some _ e
  have F2 : Fr h₀ L (s₁.heap.push { cls := .type "list_iterator", data := .fields #[.ref ax, .int 0 0] }) m := F.keeps up
  have N2 : News h₀ L (s₁.heap.push { cls := .type "list_iterator", data := .fields #[.ref ax, .int 0 0] }) news := N.grown up
  have hst : (s₁.heap.push { cls := .type "list_iterator", data := .fields #[.ref ax, .int 0 0] }).IsListIter s₁.heap.objs.size ax 0 ∧ (s₁.heap.push { cls := .type "list_iterator", data := .fields #[.ref ax, .int 0 0] }).IsList ax its := ⟨⟨_, Heap.get?_push_size _ rfl, rfl, rfl⟩, hl.push _⟩
  have hIL : L ≠ s₁.heap.objs.size := Nat.ne_of_lt F.ns.lt
  have hI₀ : h₀.get? s₁.heap.objs.size = none := next_is_new F
  have offI : ∀ p ∈ news, p.1 ≠ s₁.heap.objs.size := fun p hp => Nat.ne_of_lt (Heap.lt_size (N p hp).1)
  have hsize : (s₁.heap.push { cls := .type "list_iterator", data := .fields #[.ref ax, .int 0 0] }).objs.size = s₁.heap.objs.size + 1 := Heap.size_push ..
  have haxI : ax ≠ s₁.heap.objs.size := Nat.ne_of_lt hlt
  generalize s₁.heap.push { cls := .type "list_iterator", data := .fields #[.ref ax, .int 0 0] } = hp1 at *
  generalize s₁.heap.objs.size = I at *
  refine wpAny_newObj_type (wpAny_newFunctionEnv hcell (by intro y hy; simp at hy) (fun h₁ hns₁ hsb₁ => ?_) hkind)
  dsimp only at hns₁ hsb₁ ⊢
  generalize hH2 : hp1.push { cls := .type "list", dict := none, data := .seq ([] : List Value).toArray } = H2 at hns₁ hsb₁ ⊢
  have hC : H2.objs.size = hp1.objs.size + 1 := by rw [← hH2, Heap.size_push]
  have below : ∀ b, b < hp1.objs.size → b ≠ H2.objs.size ∧ b ≠ hp1.objs.size := fun b hb => ⟨by rw [hC]; exact Nat.ne_of_lt (Nat.lt_succ_of_lt hb), Nat.ne_of_lt hb⟩
  have old : ∀ b o, hp1.get? b = some o → h₁.get? b = some o := fun b o e => hsb₁.extBut b o (below b (Heap.lt_size e)).1 (Heap.get?_push_of_some _ (hH2 ▸ Heap.get?_push_of_some _ e))
  have hDC : hp1.objs.size ≠ H2.objs.size := by rw [hC]; exact Nat.ne_of_lt (Nat.lt_succ_self _)
  have hacc : h₁.get? hp1.objs.size = some (lst []) := hsb₁.extBut _ _ hDC (Heap.get?_push_of_some _ (hH2 ▸ Heap.get?_push_size _ rfl))
  have hIlt : I < hp1.objs.size := by rw [hsize]; exact Nat.lt_succ_self _
  have hst₁ : h₁.IsListIter I ax 0 ∧ h₁.IsList ax its := W.frame _ _ _ hst fun b _ o e => old b o e
  have fresh₀ : ∀ a, hp1.objs.size ≤ a → h₀.get? a = none := fun a ha => by
    cases e : h₀.get? a with
    | none => rfl
    | some o' => exact absurd (Heap.lt_size (F2.keep a o' e)) (Nat.not_lt.mpr ha)
  have hD₀ : h₀.get? hp1.objs.size = none := fresh₀ _ (Nat.le_refl _)
  have hC₀ : h₀.get? H2.objs.size = none := fresh₀ _ (by rw [hC]; exact Nat.le_succ _)
  have hLlt : L < hp1.objs.size := F2.ns.lt
  have hDL : hp1.objs.size ≠ L := Ne.symm (below L hLlt).2
  have hCL : H2.objs.size ≠ L := Ne.symm (below L hLlt).1
  have hCI : I ≠ H2.objs.size := (below I hIlt).1
  have hDI : I ≠ hp1.objs.size := (below I hIlt).2
  have off : ∀ p ∈ news, p.1 ≠ I ∧ p.1 ≠ H2.objs.size ∧ p.1 ≠ hp1.objs.size := fun p hp => ⟨offI p hp, (below _ (Heap.lt_size (N2 p hp).1)).1, (below _ (Heap.lt_size (N2 p hp).1)).2⟩
  have F3 : Fr h₀ L h₁ m := F2.keeps old
  have N3 : News h₀ L h₁ ((hp1.objs.size, lst []) :: news) := fun p hp => by
    rcases List.mem_cons.mp hp with rfl | hp
    · exact ⟨hacc, hDL, hD₀⟩
    · exact ⟨old _ _ (N2 p hp).1, (N2 p hp).2⟩
  have hax2 : ax ≠ H2.objs.size ∧ ax ≠ hp1.objs.size := ⟨(off _ hm).2.1, (off _ hm).2.2⟩
  generalize H2.objs.size = C at *
  generalize hp1.objs.size = D at *
  clear hH2 hsb₁ below old hsize hst hC hacc fresh₀ hLlt hIlt N2 F2 N F hl hlt up offI
  have loop : ∀ s₃ : Shared, s₃ = { s₁ with heap := h₁, toks := s₁.toks + ([] : List (PySem.Str × Value)).length } →
      codeAny (model prog w) A (.compLoop (.ListComp elt [⟨.Name x px, iter, [], 0⟩, ⟨.Name y py, iter2, [], 0⟩] scope pos) 0 (.ref I) (.ref D) (compEnvC scope cl C env))
        (compPost (model prog w) A E none Q (.ref D) C) s₃ := by
    rintro s₃ rfl
    refine compLoop_out
      (fun k s' => ∃ h' tk i ys m', s' = { s₁ with heap := h', toks := tk } ∧ i ≤ its.size ∧ k = its.size + 1 - i ∧ J i 0 ys ∧ (h'.IsListIter I ax i ∧ h'.IsList ax its) ∧ Fr h₀ L h' m ∧ h'.Ns C m' ∧ News h₀ L h' ((D, lst ys) :: news)) ?_ (its.size + 1)
      ⟨h₁, _, 0, [], _, rfl, Nat.zero_le _, rfl, hj, hst₁, F3, hns₁, N3⟩ (hf2 _)
    rintro k s' ⟨h', tk, i, ys, m', rfl, hi, rfl, hJ, hst', F', hn', N'⟩
    by_cases hlt : i < its.size
    · refine W.item i _ _ _ hlt hst' fun v h₂ tk₂ hPv hst₂ hk₂ => ?_
      refine wpAny_assign_Name (wpAny_storeName_local (lookup_relabel_local hx) (hn'.at' fun o e => hk₂ _ o (by simpa using Ne.symm hCI) e) (fun h₃ hn₃ hs₃ => ?_) (by simp [compEnvC, relabel, hkind]))
      have hst₃ : h₃.IsListIter I ax (i + 1) ∧ h₃.IsList ax its := W.frame _ _ _ hst₂ fun b hb o e => hs₃.extBut b o (fun q => by
        rcases List.mem_cons.mp hb with rfl | hb
        · exact hCI q
        · rw [List.mem_singleton.mp hb] at q; exact hax2.1 q) e
      obtain ⟨oC, heC, hoC⟩ := ns_obj hn₃
      have F₃ : Fr h₀ L h₃ m := (fr_but F' hk₂ hIL hI₀).change hs₃ hCL hC₀
      have heI : ∃ oI, h₃.get? I = some oI := by obtain ⟨o, e, _⟩ := hst₃.1; exact ⟨o, e⟩
      obtain ⟨oI, heI⟩ := heI
      have N₂ : News h₀ L h₂ ((D, lst ys) :: news) := news_but N' hk₂ fun p hp => by
        rcases List.mem_cons.mp hp with rfl | hp
        · exact Ne.symm hDI
        · exact (off p hp).1
      have N₃ : News h₀ L h₃ ((I, oI) :: (C, oC) :: (D, lst ys) :: news) := fun p hp => by
        rcases List.mem_cons.mp hp with rfl | hp
        · exact ⟨heI, Ne.symm hIL, hI₀⟩
        · rcases List.mem_cons.mp hp with rfl | hp
          · exact ⟨heC, hCL, hC₀⟩
          · have z := N₂ p hp
            refine ⟨hs₃.extBut _ _ ?_ z.1, z.2⟩
            rcases List.mem_cons.mp hp with rfl | hp
            · exact hDC
            · exact (off p hp).2.1
      refine wpAny_mono (src i v C oC _ _ _ _ hPv hoC (by simp) F₃ N₃ (.tail _ (.head _))) (fun xv s₄ h₄ => ?_) fun _ _ e => e
      obtain ⟨r, h₄, tk₄, t, u, q, rfl, rfl, F₄, N₄, hr⟩ := h₄
      refine wpAny_pyIter_range hr (hsm i hlt) ?_
      have W2 := range_walks (prog := prog) (w := w) (I := h₄.objs.size) hh 0 (rng i)
      have up₄ : ∀ b o, h₄.get? b = some o → (h₄.push { cls := .type "range_iterator", data := .fields #[rawInt 0, rawInt (Builtin.Range.rangeSize 0 (rng i : Nat) 1), rawInt 1] }).get? b = some o := fun b o e => Heap.get?_push_of_some _ e
      have hst4 : IsRangeIter (h₄.push { cls := .type "range_iterator", data := .fields #[rawInt 0, rawInt (Builtin.Range.rangeSize 0 (rng i : Nat) 1), rawInt 1] }) h₄.objs.size (0 + ((0 : Nat) : Int) * 1) ((rng i : Int) - ((0 : Nat) : Int)) 1 := by
        show IsRangeIter _ _ _ _ _; rw [rangeSize_nat]; simpa using Heap.get?_push_size _ rfl
      have hI2 : ∀ p ∈ ((I, oI) :: (C, oC) :: (D, lst ys) :: news), p.1 ≠ h₄.objs.size := fun p hp => Nat.ne_of_lt (Heap.lt_size (N₄ p hp).1)
      have hI2L : L ≠ h₄.objs.size := Nat.ne_of_lt F₄.ns.lt
      have hI20 : h₀.get? h₄.objs.size = none := next_is_new F₄
      have F₅ := F₄.keeps up₄
      have N₅ := N₄.grown up₄
      generalize h₄.push { cls := .type "range_iterator", data := .fields #[rawInt 0, rawInt (Builtin.Range.rangeSize 0 (rng i : Nat) 1), rawInt 1] } = h₅ at *
      generalize h₄.objs.size = I2 at *
      have eI : I ≠ I2 := hI2 _ (.head _)
      have eC : C ≠ I2 := hI2 _ (.tail _ (.head _))
      have eD : D ≠ I2 := hI2 _ (.tail _ (.tail _ (.head _)))
      have en : ∀ p ∈ news, p.1 ≠ I2 := fun p hp => hI2 p (.tail _ (.tail _ (.tail _ hp)))
      have inner : ∀ s₅ : Shared, s₅ = { s₁ with heap := h₅, toks := tk₄ } → codeAny (model prog w) A (.compLoop (.ListComp elt [⟨.Name x px, iter, [], 0⟩, ⟨.Name y py, iter2, [], 0⟩] scope pos) 1 (.ref I2) (.ref D) (compEnvC scope cl C env))
          (fun r s₅ => r = .ok .next ∧ ∃ k', k' < its.size + 1 - i ∧ ∃ h' tk i ys m', s₅ = { s₁ with heap := h', toks := tk } ∧ i ≤ its.size ∧ k' = its.size + 1 - i ∧ J i 0 ys ∧ (h'.IsListIter I ax i ∧ h'.IsList ax its) ∧ Fr h₀ L h' m ∧ h'.Ns C m' ∧ News h₀ L h' ((D, lst ys) :: news)) s₅ := by
        rintro s₅ rfl
        refine compLoop_in (fun k s' => ∃ h' tk j ys m', s' = { s₁ with heap := h', toks := tk } ∧ j ≤ rng i ∧ k = rng i + 1 - j ∧ J i j ys ∧ IsRangeIter h' I2 (0 + (j : Nat) * 1) ((rng i : Int) - (j : Nat)) 1 ∧ Fr h₀ L h' m ∧ h'.Ns C m' ∧ m' x = some v ∧ News h₀ L h' ((I, oI) :: (D, lst ys) :: news)) ?_ (rng i + 1)
          ⟨h₅, _, 0, ys, _, rfl, Nat.zero_le _, rfl, hJ, hst4, F₅, hoC.ns (N₅ (C, oC) (.tail _ (.head _))).1, by simp, fun p hp => N₅ p (by rcases List.mem_cons.mp hp with rfl | hp; exact .head _; exact .tail _ (.tail _ hp))⟩
        rintro k s' ⟨h', tk, j, ys, m', rfl, hj', rfl, hJ, hst', F', hn', hmx, N'⟩
        by_cases hlt2 : j < rng i
        · refine W2.item j _ _ _ hlt2 hst' fun v2 h₂ tk₂ hPv2 hst₂ hk₂ => ?_
          obtain ⟨t2, rfl⟩ := hPv2
          refine wpAny_assign_Name (wpAny_storeName_local (lookup_relabel_local hy) (hn'.at' fun o e => hk₂ _ o (by simpa using eC) e) (fun h₃ hn₃ hs₃ => ?_) (by simp [compEnvC, relabel, hkind]))
          have hst₃ := W2.frame _ _ _ hst₂ fun b hb o e => hs₃.extBut b o (fun q => by rw [List.mem_singleton.mp hb] at q; exact eC q.symm) e
          obtain ⟨oC, heC, hoC⟩ := ns_obj hn₃
          have F₃ : Fr h₀ L h₃ m := (fr_but F' hk₂ hI2L hI20).change hs₃ hCL hC₀
          have heI2 : h₃.get? I2 = some _ := hst₃
          have N₂ : News h₀ L h₂ ((I, oI) :: (D, lst ys) :: news) := news_but N' hk₂ fun p hp => by
            rcases List.mem_cons.mp hp with rfl | hp
            · exact eI
            rcases List.mem_cons.mp hp with rfl | hp
            · exact eD
            · exact en p hp
          have N₃ : News h₀ L h₃ ((I2, _) :: (C, oC) :: (I, oI) :: (D, lst ys) :: news) := fun p hp => by
            rcases List.mem_cons.mp hp with rfl | hp
            · exact ⟨heI2, Ne.symm hI2L, hI20⟩
            rcases List.mem_cons.mp hp with rfl | hp
            · exact ⟨heC, hCL, hC₀⟩
            · have z := N₂ p hp
              refine ⟨hs₃.extBut _ _ ?_ z.1, z.2⟩
              rcases List.mem_cons.mp hp with rfl | hp
              · exact hCI
              rcases List.mem_cons.mp hp with rfl | hp
              · exact hDC
              · exact (off p hp).2.1
          refine wpAny_mono (turn i j v t2 ys C oC _ _ _ _ hPv hlt2 hJ hoC (by simp [hxy, hmx]) (by simp) F₃ N₃ (.tail _ (.head _))) (fun z s₄ h₄ => ?_) fun _ _ e => e
          obtain ⟨h₄, tk₄, rfl, F₄, N₄, hJ'⟩ := h₄
          have zI2 := (N₄ _ (.head _)).1
          have zC := (N₄ (C, oC) (.tail _ (.head _))).1
          have zI := (N₄ (I, oI) (.tail _ (.tail _ (.head _)))).1
          have zD := (N₄ (D, lst ys) (.tail _ (.tail _ (.tail _ (.head _))))).1
          have hsl : 4000 ≤ sizeLine := by decide +kernel
          have hyl := hlen _ _ _ hJ
          refine append_at (hsz := by show ys.toArray.size ≤ sizeLine; rw [List.size_toArray]; omega) zD fun h₅ hs₅ hD₅ => ?_
          refine ⟨rng i + 1 - (j + 1), by omega, h₅, tk₄, j + 1, ys ++ [z], _, rfl, hlt2, rfl, hJ', ?_, F₄.change hs₅ hDL hD₀, (hoC.ns zC).sameBut hs₅ (Ne.symm hDC), by simp [hxy, hmx], fun p hp => ?_⟩
          · exact hs₅.extBut _ _ (Ne.symm eD) zI2
          · rcases List.mem_cons.mp hp with rfl | hp
            · exact ⟨hs₅.extBut _ _ hDI zI, Ne.symm hIL, hI₀⟩
            rcases List.mem_cons.mp hp with rfl | hp
            · exact ⟨hD₅.trans (congrArg some (lst_snoc ys z)), hDL, hD₀⟩
            · have zz := N₄ p (.tail _ (.tail _ (.tail _ (.tail _ hp))))
              exact ⟨hs₅.extBut _ _ (off p hp).2.2 zz.1, zz.2⟩
        · obtain rfl : j = rng i := Nat.le_antisymm hj' (Nat.not_lt.mp hlt2)
          refine W2.done _ _ _ hst' fun h₂ tk₂ hk₂ => ?_
          have N₂ : News h₀ L h₂ ((I, oI) :: (D, lst ys) :: news) := news_but N' hk₂ fun p hp => by
            rcases List.mem_cons.mp hp with rfl | hp
            · exact eI
            rcases List.mem_cons.mp hp with rfl | hp
            · exact eD
            · exact en p hp
          refine ⟨rfl, its.size + 1 - (i + 1), by omega, h₂, tk₂, i + 1, ys, m', rfl, hlt, rfl, next i ys hlt hJ, ⟨?_, ?_⟩, fr_but F' hk₂ hI2L hI20, hn'.at' fun o e => hk₂ _ o (by simpa using eC) e, fun p hp => N₂ p (.tail _ hp)⟩
          · obtain ⟨o, e, r⟩ := hst₃.1
            rw [heI] at e; cases e
            exact ⟨_, (N₂ _ (.head _)).1, r⟩
          · exact ⟨_, (N₂ _ (.tail _ (.tail _ hm))).1, rfl, _, rfl⟩
      exact compStart_one (inner _ rfl) (W2.self 0 _ _ _ hst4 (inner _ rfl))
    · obtain rfl : i = its.size := Nat.le_antisymm hi (Nat.not_lt.mp hlt)
      refine W.done _ _ _ hst' fun h₂ tk₂ hk₂ => ?_
      have F₂ := fr_but F' hk₂ hIL hI₀
      have N₂ : News h₀ L h₂ ((D, lst ys) :: news) := news_but N' hk₂ fun p hp => by
        rcases List.mem_cons.mp hp with rfl | hp
        · exact Ne.symm hDI
        · exact (off p hp).1
      refine ⟨m', hn'.at' fun o e => hk₂ _ o (by simpa using Ne.symm hCI) e, fun h'' hs'' => fin D h'' tk₂ ys (F₂.change hs'' hCL hC₀) (fun p hp => ?_) (fun q hq => (off q hq).2.2) hJ⟩
      refine ⟨hs''.extBut _ _ ?_ (N₂ p hp).1, (N₂ p hp).2⟩
      rcases List.mem_cons.mp hp with rfl | hp
      · exact hDC
      · exact (off p hp).2.1
  exact codeAny_compStart_list (loop _ rfl) (W.self 0 _ _ _ hst₁ (loop _ rfl))
end
end Mine
end

section
open PySem PySem.W PyProof.Rows PySem.Calls Builtin LCg
set_option maxRecDepth 100000
set_option maxHeartbeats 2000000
set_option pp.deepTerms false
set_option pp.deepTerms.threshold 9
namespace Mine
section
variable {prog : Program} {w : World} {A : Around} {E : Value → Shared → Prop} {s : Shared} {h₀ : Heap} {L : Addr} {m : PySem.Str → Option Value} {env : Env}
noncomputable def TSrc (prog : Program) (w : World) (A : Around) (h₀ : Heap) (L : Addr) (m : PySem.Str → Option Value) (env : Env) (elt : Expr) (x : PySem.Str) (scope : Scope) (cl : List (PySem.Str × Addr)) (Fin : Shared → List Value → List (Addr × Obj) → Prop) (xv : Value) (s₁ : Shared) : Prop :=
  ∃ (ax : Addr) (its : Array Value) (news : List (Addr × Obj)), xv = .ref ax ∧ A.handled = none ∧ Fr h₀ L s₁.heap m ∧ News h₀ L s₁.heap news ∧ (ax, tupOf its) ∈ news ∧ its.size ≤ sizeLine ∧
    ∀ s₂ : Shared, (∃ h, s₂ = { s₁ with heap := h }) → CompRest prog w A h₀ L m env elt x scope cl s₂ (fun nx => (ax, tupOf its) ∈ nx) (fun i v => its[i]? = some v) (Fin s₂) its.size 0 [] news
theorem tup_st {ax I : Addr} {its : Array Value} : ∀ i (h h' : Heap) (o : Obj) (nw : List (Addr × Obj)), (h.IsTupleIter I ax i ∧ h.IsTuple ax its) → h.get? I = some o → h'.get? I = some o →
    (∀ b o, h₀.get? b = some o → h'.get? b = some o) → News h₀ L h' nw → (ax, tupOf its) ∈ nw → (h'.IsTupleIter I ax i ∧ h'.IsTuple ax its) :=
  fun i h h' o nw st e e' k N S => ⟨by obtain ⟨o', q, r⟩ := st.1; rw [e] at q; cases q; exact ⟨o, e', r⟩, ⟨_, (N _ S).1, rfl, _, rfl⟩⟩
theorem tup_Assign_ListComp {elt iter : Expr} {x y : PySem.Str} {px py : Pos} {scope : Scope} {cl : List (Str × Addr)} {pos spos : Pos} {Q : Flow → Shared → Prop} (_F₀ : Fr h₀ L s.heap m) (hLe : env.locals = L)
    (hsw : swapsWith (.ListComp elt [⟨.Name x px, iter, [], 0⟩] scope pos) (some (.Name y py)) spos.line env = pure true)
    (hclos : closureFor scope env = pure cl) (hcell : ∀ z ∈ scope.names, z.2 ≠ .cell) (hkind : scope.kind = .function)
    (hnames : ∀ z ∈ scope.names, z.2 = .local → scope.names.lookup z.1 = some .local) (hx : scope.names.lookup x = some .local)
    (hy : env.kindOf y = some .local) (hp : (env.scope.kind == .class || (env.scope.kind == .module && env.locals != env.globals)) = false)
    (h : wpAny (model prog w) A (eval iter env) (TSrc prog w A h₀ L m env elt x scope cl (fun s₂ => FinA h₀ L m s₂ y Q)) E s)
    (hs : ∀ x, foldedSetIterable iter env x = pure x := by intro _; rfl) :
    wpAny (model prog w) A (exec (.Assign [.Name y py] (.ListComp elt [⟨.Name x px, iter, [], 0⟩] scope pos) spos) env) Q E s := by
  subst hLe
  rw [exec_Assign_Name_used _ _ _ _ hsw]
  refine wpAny_bind (wpAny_standAt (wpAny_bind ?_))
  show wpAny _ A (do let _ ← comprehension (.ListComp elt [⟨.Name x px, iter, [], 0⟩] scope pos) scope env _ (newList []) false (eval iter env) (some (assign (.Name y py) env))) _ _ s
  refine wpAny_bind (wpAny_mono (wpAny_comprehension_free (use := some (assign (.Name y py) env)) (Q := fun _ s' => Q .next s') rfl hs hclos hkind hnames
    (wpAny_mono h (fun xv s₁ h₁ => ?_) fun _ _ e => e)) (fun _ s' hq => wpAny_pure (wpAny_pure hq)) fun _ _ e => e)
  obtain ⟨ax, its, news, rfl, hh, F, N, S, hsz, R⟩ := h₁
  have hax := (N _ S).1
  have hlt : ax < s₁.heap.objs.size := Heap.lt_size hax
  obtain ⟨hpp, g, d, t, os⟩ := s₁
  have ht : hpp.IsTuple ax its := ⟨_, hax, rfl, _, rfl⟩
  refine wpAny_pyIter_tuple ht ?_
  have up : ∀ b o, hpp.get? b = some o → (hpp.push { cls := .type "tuple_iterator", data := .fields #[.ref ax, .int 0 0] }).get? b = some o := fun b o e => Heap.get?_push_of_some _ e
  refine block_U (Walks.tuple hh hpp.objs.size ax (Nat.ne_of_lt hlt) its) hsz (fun i h st => by obtain ⟨o, e, _⟩ := st.1; exact ⟨o, e⟩) tup_st hcell hkind hx ⟨⟨_, Heap.get?_push_size _ rfl, rfl, rfl⟩, ht.at fun o e => up _ _ e⟩ (fun b hb => ?_)
    (F.keeps up) (N.grown up) (Nat.ne_of_lt F.ns.lt) (next_is_new F) (fun p hp => Nat.ne_of_lt (Heap.lt_size (N p hp).1)) S (R _ ⟨_, rfl⟩) ?_
  · show b < (hpp.push _).objs.size
    rw [Heap.size_push]
    rcases List.mem_cons.mp hb with rfl | hb
    · exact Nat.lt_succ_self _
    · rw [List.mem_singleton.mp hb]; exact Nat.lt_succ_of_lt hlt
  · intro D C h' tk m' ys news' F' N' o1 hn hC₀ hD₀ hCL hDL hCD offC fin
    show wpAny _ A (assign (.Name y py) env (.ref D)) _ _ _
    refine wpAny_assign_Name (wpAny_storeName_local hy F'.ns (fun h₂ hn₂ hs₂ => ?_) hp)
    have hL₀ : h₀.get? env.locals = none := Heap.get?_none_of_le F'.above
    have F₂ : Fr h₀ env.locals h₂ (fun z => if z = y then some (.ref D) else m z) := ⟨hn₂, fun b o e => hs₂.extBut b o (fun q => by rw [q, hL₀] at e; cases e) (F'.keep b o e), F'.above⟩
    refine ⟨m', hn.sameBut hs₂ hCL, fun h'' hs'' => fin D h'' _ (F₂.change hs'' hCL hC₀) (fun p hp => ?_) o1⟩
    have z : h₂.get? p.1 = some p.2 := hs₂.extBut _ _ (N' p hp).2.1 (N' p hp).1
    refine ⟨hs''.extBut _ _ ?_ z, (N' p hp).2⟩
    rcases List.mem_cons.mp hp with rfl | hp
    · exact Ne.symm hCD
    · exact offC p hp
end
end Mine
end

section
open PySem PySem.W PyProof.Rows PySem.Calls Builtin LCg
set_option maxRecDepth 100000
set_option maxHeartbeats 2000000
set_option pp.deepTerms false
set_option pp.deepTerms.threshold 7
namespace Mine
local macro_rules | `(tactic| k_all) => `(tactic| assumption)
local macro_rules | `(tactic| size_fits) => `(tactic| assumption)
local macro_rules | `(tactic| walk_at "CompSrc") => `(tactic| (refine LCg.CompSrc.ledger (by rfl) (by k_asm) (by k_asm) (by assumption) (by rw [sizeLine_eq]; exact Nat.le_of_ble_eq_true rfl) ?_; intro g'))
local macro_rules | `(tactic| walk_at "eval Name") => `(tactic| (k_here; k_dflt (refine' nameX_L ?F ?v ?_ ?a ?b; (case F => k_asm); (case a => rfl); (case b => rfl); (case v => with_unfolding_all assumption); k_whole)))
local macro_rules | `(tactic| walk_at "subscriptTail") => `(tactic| first
  | refine tup0 (by k_asm) (by first | assumption | exact List.Mem.tail _ (by assumption) | exact List.Mem.tail _ (List.Mem.tail _ (by assumption)) | exact List.Mem.tail _ (List.Mem.tail _ (List.Mem.tail _ (by assumption)))) ?_
  | refine tup1 (by k_asm) (by first | assumption | exact List.Mem.tail _ (by assumption) | exact List.Mem.tail _ (List.Mem.tail _ (by assumption)) | exact List.Mem.tail _ (List.Mem.tail _ (List.Mem.tail _ (by assumption)))) ?_
  | refine lst0 (by k_asm) (by first | assumption | exact List.Mem.tail _ (by assumption) | exact List.Mem.tail _ (List.Mem.tail _ (by assumption)) | exact List.Mem.tail _ (List.Mem.tail _ (List.Mem.tail _ (by assumption)))) ?_
  | refine lst1 (by k_asm) (by first | assumption | exact List.Mem.tail _ (by assumption) | exact List.Mem.tail _ (List.Mem.tail _ (by assumption)) | exact List.Mem.tail _ (List.Mem.tail _ (List.Mem.tail _ (by assumption)))) ?_)
theorem law_p4 {w : World} {G : GG} {h₀ : Heap} {L fa Rn Tp y0 y1 : Addr} {cd : Value} {o1 o2 : Obj} {nT : Nat} {S : St} {T0 T1 : Tr} {us0 us1 : List PySem.Str} {m : PySem.Str → Option Value} {mine : Led} {s : Shared}
    {Q : Flow → Shared → Prop} {E : Value → Shared → Prop} (C : LCtx w G h₀)
    (hdl0 : ∀ q ∈ domOf us0, q.length ≤ 5) (hdl1 : ∀ q ∈ domOf us1, q.length ≤ 5)
    (hok : S.Ok Rn) (rt0 : T0.at_ [] = some y0) (rt1 : T1.at_ [] = some y1) (lay0 : Lay w Rn S.objs T0 (domOf us0) (fun _ => true)) (lay1 : Lay w Rn S.objs T1 (domOf us1) (fun _ => true))
    (e1 : m (Str.ofString "trees") = some (.ref Tp))
    (F : Fr h₀ L s.heap m) (N : News h₀ L s.heap ((L + 1 + 1, o2) :: (L + 1, o1) :: (mine ++ S.led Rn)))
    (O : Off ((L + 1 + 1, o2) :: (L + 1, o1) :: mine) (S.led Rn)) (hT : (Tp, W.listOf #[.ref y0, .ref y1] nT) ∈ mine) (hc : ∀ p ∈ mine, p.1 ≠ L + 1 ∧ p.1 ≠ L + 1 + 1)
    (next : ∀ RD R0 R1 w0 w1 k0 k1 h' tk', Fr h₀ L h' (fun z => if z = Str.ofString "readings" then some (.ref RD) else m z) →
      News h₀ L h' ((L + 1 + 1, o2) :: (L + 1, o1) :: (((RD, lst [.ref R0, .ref R1]) :: (R1, W.listOf w1.toArray k1) :: (R0, W.listOf w0.toArray k0) :: mine) ++ S.led Rn)) →
      Off ((L + 1 + 1, o2) :: (L + 1, o1) :: ((RD, lst [.ref R0, .ref R1]) :: (R1, W.listOf w1.toArray k1) :: (R0, W.listOf w0.toArray k0) :: mine)) (S.led Rn) →
      (∀ p ∈ ((RD, lst [.ref R0, .ref R1]) :: (R1, W.listOf w1.toArray k1) :: (R0, W.listOf w0.toArray k0) :: mine), p.1 ≠ L + 1 ∧ p.1 ≠ L + 1 + 1) →
      StrsAre w0 (outR (domOf us0) 6 [] eS) → StrsAre w1 (outR (domOf us1) 6 [] eS) → LawGo w 5 L fa cd Q E { s with heap := h', toks := tk' })
    : LawGo w 4 L fa cd Q E s := by
  have K := C.K
  have X := C.X
  have T := C.T
  have C1 := C.C1
  have C2 := C.C2
  have hlim := law_lim
  have hunits := law_units
  have hT2 : (Tp, W.listOf #[.ref y0, .ref y1] nT) ∈ (L + 1 + 1, o2) :: (L + 1, o1) :: (mine ++ S.led Rn) := .tail _ (.tail _ (List.mem_append_left _ hT))
  clear C
  unfold LawGo
  revert X; k_fill; intro X
  generalize hE : lawEnv _ _ _ = env0; unfold lawEnv at hE; (conv at hE in lawScope => whnf); rw [show List.drop 4 lawBody = lawStmt 4 :: List.drop 5 lawBody from rfl]; (conv in lawStmt _ => whnf); subst hE
  iterate 2 walk1
  refine comp_inv (news := (L + 1 + 1, o2) :: (L + 1, o1) :: (mine ++ S.led Rn)) (LsJl ((L + 1 + 1, o2) :: (L + 1, o1) :: mine) (S.led Rn) (fun i vs => StrsAre vs (outR (domOf (if i = 0 then us0 else us1)) 6 [] eS))) ⟨_, rfl, O, rfl, rfl⟩ ?_ ?_
  · rintro i ys nx v I oI C oC D m₂ h1 tk1 E' hi ⟨nm, rfl, Onm, J⟩ hv hC hm F1 N1 O3 hne
    have hon := off_turn (oI := oI) (oC := oC) (oD := lst ys) O3 Onm
    have hmT : (Tp, W.listOf #[.ref y0, .ref y1] nT) ∈ nm ++ S.led Rn := List.mem_append_left _ (J.sub _ (.tail _ (.tail _ hT)))
    obtain ⟨x, Tr1, usx, rfl, rt, ly, hdl, hus⟩ : ∃ x Tr1 usx, v = .ref x ∧ Tr.at_ Tr1 [] = some x ∧ Lay w Rn S.objs Tr1 (domOf usx) (fun _ => true) ∧ (∀ q ∈ domOf usx, q.length ≤ 5) ∧ usx = (if i = 0 then us0 else us1) := by
      have hi2 : i = 0 ∨ i = 1 := by
        have : i < 2 := hi
        omega
      rcases hi2 with rfl | rfl
      · exact ⟨y0, T0, us0, (Option.some.inj hv).symm, rt0, lay0, hdl0, rfl⟩
      · exact ⟨y1, T1, us1, (Option.some.inj hv).symm, rt1, lay1, hdl1, rfl⟩
    iterate 10 walk1
    refine wpAny_call (read_does hdl 6 [] x S (fun _ => true) _ _ rfl (by decide +kernel) hok ly rt _ L h₀ _ ((I, oI) :: (C, oC) :: (D, lst ys) :: nm) _ _ ⟨⟨_, _, _, K, rfl, rfl, rfl⟩, X, T, rfl, C1, C2⟩ (by rw [depth_deeper]; omega) (by dsimp only [Around.deeper]; omega) F1 N1 hon ?_)
    intro D0 vs0 e0 h5 tk5 F6 N6 nD0 hvs0
    dsimp only
    refine ⟨h5, tk5, (D0, W.listOf vs0.toArray e0) :: (nm ++ S.led Rn), rfl, F6, ?_, ⟨⟨(nD0 _ (.head _)).symm, (nD0 _ (.tail _ (.head _))).symm, (nD0 _ (.tail _ (.tail _ (.head _)))).symm⟩, O3⟩, .inr ⟨_, .tail _ hmT, rfl, _, rfl⟩, ⟨(D0, W.listOf vs0.toArray e0) :: nm, rfl, ?_, _, _, _, _, _, J, (by subst hus; exact hvs0), rfl, rfl, ?_⟩⟩
    · refine News.sub N6 fun p hp => ?_
      rcases List.mem_cons.mp hp with rfl | hp
      · exact .tail _ (.head _)
      rcases List.mem_cons.mp hp with rfl | hp
      · exact .tail _ (.tail _ (.head _))
      rcases List.mem_cons.mp hp with rfl | hp
      · exact .tail _ (.tail _ (.tail _ (.head _)))
      rcases List.mem_cons.mp hp with rfl | hp
      · exact .head _
      exact .tail _ (.tail _ (.tail _ (.tail _ hp)))
    · exact off_new (fun q hq => nD0 q (List.mem_append_right _ hq)) Onm
    · exact fun q hq => nD0 q (.tail _ (.tail _ (.tail _ (List.mem_append_left _ hq))))
  · rintro ys nx ⟨nm, rfl, Onm, J⟩ D h1 tk1 F1 N1 O3
    obtain ⟨R0, w0, k0, R1, w1, k1, rfl, rfl, s0, s1, d0, d1, d2⟩ := J.two
    have oD := off1_mem O3
    refine next D R0 R1 w0 w1 k0 k1 h1 tk1 F1 (News.sub N1 fun p hp => ?_) ?_ ?_ s0 s1
    · simp only [List.mem_cons, List.mem_append] at hp ⊢
      grind
    · exact off_sub (off_new (o := lst [.ref R0, .ref R1]) (fun q hq => oD q (List.mem_append_right _ hq)) Onm) fun p hp => by simp only [List.mem_cons] at hp ⊢; rcases hp with h | h | h | h | h | h <;> simp [h]
    · intro p hp
      rcases List.mem_cons.mp hp with rfl | hp
      · exact ⟨(oD _ (.tail _ (.tail _ (.tail _ (.head _))))).symm, (oD _ (.tail _ (.tail _ (.head _)))).symm⟩
      rcases List.mem_cons.mp hp with rfl | hp
      · exact ⟨(d1 _ (.tail _ (.head _))).symm, (d1 _ (.head _)).symm⟩
      rcases List.mem_cons.mp hp with rfl | hp
      · exact ⟨(d0 _ (.tail _ (.head _))).symm, (d0 _ (.head _)).symm⟩
      exact hc p hp
section
open PySem PySem.W PyProof.Rows
theorem Mine.clrQLawQ2 (prog : Program) (w : World) (A : Around) (env : Env) (pos : Pos) (s : Shared) : True := by
  w_top off
  first
  | (have : wpAny (model prog w) A (PySem.eval (.Constant (.int 0) 0 pos) env) (fun _ _ => True) (fun _ _ => True) s := by (walk1; fail "x")); trivial
  | trivial
end
theorem law_p5 {w : World} {G : GG} {h₀ : Heap} {L fa Rn tp r0 r1 : Addr} {cd : Value} {o1 o2 : Obj} {v0 v1 : List Value} {n0 n1 : Nat} {S : St} {us0 us1 : List PySem.Str} {m : PySem.Str → Option Value} {mine : Led} {s : Shared}
    {Q : Flow → Shared → Prop} {E : Value → Shared → Prop} (C : LCtx w G h₀)
    (hw0 : Words us0) (hw1 : Words us1) (hn0 : us0.length ≤ 11) (hn1 : us1.length ≤ 11) (hv0 : StrsAre v0 us0) (hv1 : StrsAre v1 us1)
    (d2 : o2.data = .cell none) (d1 : o1.data = .cell none)
    (e3 : m (Str.ofString "rows") = some (.ref tp))
    (F : Fr h₀ L s.heap m) (N : News h₀ L s.heap ((L + 1 + 1, o2) :: (L + 1, o1) :: (mine ++ S.led Rn)))
    (O : Off ((L + 1 + 1, o2) :: (L + 1, o1) :: mine) (S.led Rn)) (hT : (tp, tupOf #[.ref r0, .ref r1]) ∈ mine) (h0 : (r0, W.listOf v0.toArray n0) ∈ mine) (h1 : (r1, W.listOf v1.toArray n1) ∈ mine) (hc : ∀ p ∈ mine, p.1 ≠ L + 1 ∧ p.1 ≠ L + 1 + 1)
    (next : ∀ c1 c2 f1 f2 w1 w2 k1 k2 first second h' tk', Fr h₀ L h' m →
      News h₀ L h' ((L + 1 + 1, c2) :: (L + 1, c1) :: (((f2, W.listOf w2.toArray k2) :: (f1, W.listOf w1.toArray k1) :: mine) ++ S.led Rn)) →
      Off ((L + 1 + 1, c2) :: (L + 1, c1) :: ((f2, W.listOf w2.toArray k2) :: (f1, W.listOf w1.toArray k1) :: mine)) (S.led Rn) →
      c1.data = .cell (some (.ref f1)) → c2.data = .cell (some (.ref f2)) →
      StrsAre w1 first → StrsAre w2 second → Rise first → Rise second → (∀ x, x ∈ first ↔ x ∈ us0) → (∀ x, x ∈ second ↔ x ∈ us1) → LawGo w 6 L fa cd Q E { s with heap := h', toks := tk' })
    : LawGo w 5 L fa cd Q E s := by
  have K := C.K
  have X := C.X
  have T := C.T
  have C1 := C.C1
  have C2 := C.C2
  have hlim := law_lim
  have hunits := law_units
  have hT2 : (tp, tupOf #[.ref r0, .ref r1]) ∈ (L + 1 + 1, o2) :: (L + 1, o1) :: (mine ++ S.led Rn) := .tail _ (.tail _ (List.mem_append_left _ hT))
  have hc1 : ∀ p ∈ mine ++ S.led Rn, p.1 ≠ L + 1 := fun p hp => (List.mem_append.mp hp).elim (fun h => (hc p h).1) fun h => (O _ (.tail _ (.head _)) p h).symm
  have hc2 : ∀ p ∈ mine ++ S.led Rn, p.1 ≠ L + 1 + 1 := fun p hp => (List.mem_append.mp hp).elim (fun h => (hc p h).2) fun h => (O _ (.head _) p h).symm
  clear C
  unfold LawGo
  revert X; k_fill; intro X
  generalize hE : lawEnv _ _ _ = env0; unfold lawEnv at hE; (conv at hE in lawScope => whnf); rw [show List.drop 5 lawBody = lawStmt 5 :: List.drop 6 lawBody from rfl]; (conv in lawStmt _ => whnf); subst hE
  iterate 14 walk1
  refine wpAny_call (once_does (G := G) (l := r0) _ L h₀ m ((L + 1 + 1, o2) :: (L + 1, o1) :: (mine ++ S.led Rn)) _ _ hv0 hw0 (by omega) (.tail _ (.tail _ (List.mem_append_left _ h0))) ⟨⟨_, _, _, K, rfl, rfl, rfl⟩, X, T, rfl, C1, C2⟩ (by rw [depth_deeper]; omega) (by dsimp only [Around.deeper]; omega) F N ?_)
  intro f1 w1 first k1 h5 tk5 F5 N5 nf1 hs1 rs1 ms1
  dsimp only
  iterate 11 walk1
  refine wpAny_call (once_does (G := G) (l := r1) _ L h₀ m ((f1, W.listOf w1.toArray k1) :: (L + 1 + 1, o2) :: (L + 1, o1) :: (mine ++ S.led Rn)) _ _ hv1 hw1 (by omega) (.tail _ (.tail _ (.tail _ (List.mem_append_left _ h1)))) ⟨⟨_, _, _, K, rfl, rfl, rfl⟩, X, T, rfl, C1, C2⟩ (by rw [depth_deeper]; omega) (by dsimp only [Around.deeper]; omega) F5 N5 ?_)
  intro f2 w2 second k2 h6 tk6 F6 N6 nf2 hs2 rs2 ms2
  dsimp only
  have N7 : News h₀ L h6 ((L + 1 + 1, o2) :: (L + 1, o1) :: (((f2, W.listOf w2.toArray k2) :: (f1, W.listOf w1.toArray k1) :: mine) ++ S.led Rn)) := News.sub N6 fun p hp => by
    simp only [List.mem_cons, List.cons_append] at hp ⊢
    rcases hp with h | h | h | h | h <;> simp [h]
  clear N5 N6 N
  have a1 : ∀ p ∈ (((f2, W.listOf w2.toArray k2) :: (f1, W.listOf w1.toArray k1) :: mine) ++ S.led Rn), p.1 ≠ L + 1 := fun p hp => by
    rcases List.mem_cons.mp hp with rfl | hp
    · exact (nf2 _ (.tail _ (.tail _ (.head _)))).symm
    rcases List.mem_cons.mp hp with rfl | hp
    · exact (nf1 _ (.tail _ (.head _))).symm
    exact hc1 p hp
  have a2 : ∀ p ∈ (((f2, W.listOf w2.toArray k2) :: (f1, W.listOf w1.toArray k1) :: mine) ++ S.led Rn), p.1 ≠ L + 1 + 1 := fun p hp => by
    rcases List.mem_cons.mp hp with rfl | hp
    · exact (nf2 _ (.tail _ (.head _))).symm
    rcases List.mem_cons.mp hp with rfl | hp
    · exact (nf1 _ (.head _)).symm
    exact hc2 p hp
  iterate 3 walk1
  have hLL : @Ne Nat (L + 1 + 1) (L + 1) := by omega
  iterate 2 walk1
  rename News h₀ L _ _ => N8
  have N9 := News.sub N8 (fun p hp => List.Mem.tail _ hp)
  clear N8
  iterate 5 walk1
  rename_i c1 dc1 _ c2 F10 N10 dc2
  refine next c1 c2 f1 f2 w1 w2 k1 k2 first second _ _ F10 N10 ?_ dc1 dc2 hs1 hs2 rs1 rs2 ms1 ms2
  refine fun p hp q hq => ?_
  rcases List.mem_cons.mp hp with rfl | hp
  · exact O _ (.head _) q hq
  rcases List.mem_cons.mp hp with rfl | hp
  · exact O _ (.tail _ (.head _)) q hq
  rcases List.mem_cons.mp hp with rfl | hp
  · exact (nf2 q (.tail _ (.tail _ (.tail _ (List.mem_append_right _ hq))))).symm
  rcases List.mem_cons.mp hp with rfl | hp
  · exact (nf1 q (.tail _ (.tail _ (List.mem_append_right _ hq)))).symm
  exact O _ (.tail _ (.tail _ hp)) q hq
section
open PySem PySem.W PyProof.Rows
theorem Mine.clrQLawQ3 (prog : Program) (w : World) (A : Around) (env : Env) (pos : Pos) (s : Shared) : True := by
  w_top off
  first
  | (have : wpAny (model prog w) A (PySem.eval (.Constant (.int 0) 0 pos) env) (fun _ _ => True) (fun _ _ => True) s := by (walk1; fail "x")); trivial
  | trivial
end
theorem law_p6 {w : World} {G : GG} {h₀ : Heap} {L fa RD R0 R1 f1 f2 : Addr} {cd : Value} {c1 c2 : Obj} {w0 w1 x1 x2 : List Value} {k0 k1 i1 i2 : Nat} {first second : List PySem.Str} {m : PySem.Str → Option Value} {mine : Led} {s : Shared}
    {Q : Flow → Shared → Prop} {E : Value → Shared → Prop} (C : LCtx w G h₀)
    (hw1 : Words first) (hw2 : Words second)
    (d1 : c1.data = .cell (some (.ref f1))) (d2 : c2.data = .cell (some (.ref f2)))
    (e1 : m (Str.ofString "readings") = some (.ref RD))
    (F : Fr h₀ L s.heap m) (N : News h₀ L s.heap ((L + 1 + 1, c2) :: (L + 1, c1) :: mine))
    (hT : (RD, W.listOf #[.ref R0, .ref R1] 2) ∈ mine) (h0 : (R0, W.listOf w0.toArray k0) ∈ mine) (h1 : (R1, W.listOf w1.toArray k1) ∈ mine) (h2 : (f1, W.listOf x1.toArray i1) ∈ mine) (h3 : (f2, W.listOf x2.toArray i2) ∈ mine)
    (s0 : StrsAre w0 first) (s1 : StrsAre w1 second) (s2 : StrsAre x1 first) (s3 : StrsAre x2 second)
    (next : ∀ h' tk', Fr h₀ L h' m → News h₀ L h' ((L + 1 + 1, c2) :: (L + 1, c1) :: mine) → LawGo w 7 L fa cd Q E { s with heap := h', toks := tk' })
    : LawGo w 6 L fa cd Q E s := by
  have K := C.K
  have X := C.X
  have T := C.T
  have hlim := law_lim
  have hunits := law_units
  clear C
  unfold LawGo
  revert X; k_fill; intro X
  generalize hE : lawEnv _ _ _ = env0; unfold lawEnv at hE; (conv at hE in lawScope => whnf); rw [show List.drop 6 lawBody = lawStmt 6 :: List.drop 7 lawBody from rfl]; (conv in lawStmt _ => whnf); subst hE
  iterate 11 walk1
  rename Fr h₀ L _ _ => F5
  rename News h₀ L _ _ => N5
  have u : ∀ {a b c p : Addr × Obj}, p ∈ mine → p ∈ a :: b :: c :: mine := fun hp => List.Mem.tail _ (List.Mem.tail _ (List.Mem.tail _ hp))
  refine ne_pairL N5 (u hT) (u h0) (u h1) (.head _) (u h2) (u h3) s0 s1 s2 s3 hw1 hw2 (by dsimp only [Around.deeper]; omega) ?_
  iterate 3 walk1
  exact next _ _ F5 (News.sub N5 fun p hp => .tail _ hp)
section
open PySem PySem.W PyProof.Rows
theorem Mine.clrQLawQ4 (prog : Program) (w : World) (A : Around) (env : Env) (pos : Pos) (s : Shared) : True := by
  w_top off
  first
  | (have : wpAny (model prog w) A (PySem.eval (.Constant (.int 0) 0 pos) env) (fun _ _ => True) (fun _ _ => True) s := by (walk1; fail "x")); trivial
  | trivial
end
theorem law_p7 {w : World} {G : GG} {h₀ : Heap} {L fa f1 f2 : Addr} {cd : Value} {c1 c2 : Obj} {x1 x2 : List Value} {i1 i2 : Nat} {first second : List PySem.Str} {m : PySem.Str → Option Value} {mine : Led} {s : Shared}
    {Q : Flow → Shared → Prop} {E : Value → Shared → Prop} (C : LCtx w G h₀)
    (hw1 : Words first) (hw2 : Words second) (hn1 : first.length ≤ 60) (hn2 : second.length ≤ 60)
    (d1 : c1.data = .cell (some (.ref f1))) (d2 : c2.data = .cell (some (.ref f2)))
    (F : Fr h₀ L s.heap m) (N : News h₀ L s.heap ((L + 1 + 1, c2) :: (L + 1, c1) :: mine))
    (h2 : (f1, W.listOf x1.toArray i1) ∈ mine) (h3 : (f2, W.listOf x2.toArray i2) ∈ mine)
    (s2 : StrsAre x1 first) (s3 : StrsAre x2 second)
    (next : ∀ tpD Da Db ya yb h' tk', Fr h₀ L h' (fun z => if z = Str.ofString "due" then some (.ref tpD) else m z) → News h₀ L h' ((L + 1 + 1, c2) :: (L + 1, c1) :: (tpD, tupOf #[.ref Da, .ref Db]) :: (Db, lst yb) :: (Da, lst ya) :: mine) →
      (∀ q ∈ mine, q.1 ≠ tpD ∧ q.1 ≠ Da ∧ q.1 ≠ Db) → StrsAre ya (first.filter (lacks second)) → StrsAre yb (second.filter (lacks first)) → LawGo w 8 L fa cd Q E { s with heap := h', toks := tk' })
    : LawGo w 7 L fa cd Q E s := by
  have K := C.K
  have X := C.X
  have T := C.T
  have hlim := law_lim
  have hunits := law_units
  have hm1 : (f1, W.listOf x1.toArray i1) ∈ (L + 1 + 1, c2) :: (L + 1, c1) :: mine := .tail _ (.tail _ h2)
  clear C
  unfold LawGo
  revert X; k_fill; intro X
  generalize hE : lawEnv _ _ _ = env0; unfold lawEnv at hE; (conv at hE in lawScope => whnf); rw [show List.drop 7 lawBody = lawStmt 7 :: List.drop 8 lawBody from rfl]; (conv in lawStmt _ => whnf); subst hE
  iterate 4 walk1
  refine LCt.ListComp_T F (by with_unfolding_all rfl) (by decide) (by rfl) (by decide) (by rfl) ?_
  walk1
  have hz1 : x1.toArray.size ≤ sizeLine := by rw [List.size_toArray, s2.length, sizeLine_eq]; omega
  have hz2 : x2.toArray.size ≤ sizeLine := by rw [List.size_toArray, s3.length, sizeLine_eq]; omega
  refine LCt.CompSrcT.ledger rfl F N hm1 hz1 ?_
  intro g'
  refine comp_invT (fun i ys nx => nx = (L + 1 + 1, c2) :: (L + 1, c1) :: mine ∧ StrsAre ys ((first.take i).filter (lacks second))) ⟨rfl, .nil⟩ ?_ ?_
  · rintro i ys nx v I oI C oC D m₂ h1 tk1 E' hi ⟨rfl, J⟩ hv hC hm F1 N1 O3 hne
    obtain ⟨u, t, rfl, hu⟩ := strsAre_get s2 (by rw [← hv, List.getElem?_toArray])
    iterate 3 walk1
    refine notIn_strs N1 (.tail _ (.tail _ (.tail _ (.tail _ (.tail _ h3))))) s3 ?_
    have hst : (first.take (i + 1)).filter (lacks second) = (first.take i).filter (lacks second) ++ (if lacks second u = true then [u] else []) := by
      rw [take_snoc' hu, List.filter_append]; congr 1
      by_cases hl : lacks second u = true
      · rw [if_pos hl, List.filter_cons, if_pos hl]; rfl
      · rw [if_neg hl, List.filter_cons, if_neg hl]; rfl
    generalize lacks second u = b at *
    cases b with
    | true =>
      iterate 3 walk1
      refine ⟨h1, tk1, _, rfl, F1, N1, O3, .inr ⟨_, hm1, rfl, _, rfl⟩, rfl, ?_⟩
      rw [hst]
      exact strsAre_append J (.cons _ t .nil)
    | false =>
      iterate 2 walk1
      refine ⟨h1, tk1, _, rfl, F1, N1, O3, .inr ⟨_, hm1, rfl, _, rfl⟩, rfl, ?_⟩
      rw [hst]
      simpa using J
  rintro ya nx ⟨rfl, J1⟩ Da h4 tk4 F4 N4 O4
  rw [List.size_toArray, s2.length, List.take_length] at J1
  have oDa := off1_mem O4
  iterate 1 walk1
  refine LCt.ListComp_T F4 (by with_unfolding_all rfl) (by decide) (by rfl) (by decide) (by rfl) ?_
  walk1
  have hm3 : (f2, W.listOf x2.toArray i2) ∈ (Da, lst ya) :: (L + 1 + 1, c2) :: (L + 1, c1) :: mine := .tail _ (.tail _ (.tail _ h3))
  refine LCt.CompSrcT.ledger rfl F4 N4 hm3 hz2 ?_
  intro g2
  refine comp_invT (fun i ys nx => nx = (Da, lst ya) :: (L + 1 + 1, c2) :: (L + 1, c1) :: mine ∧ StrsAre ys ((second.take i).filter (lacks first))) ⟨rfl, .nil⟩ ?_ ?_
  · rintro i ys nx v I oI C oC D m₂ h1 tk1 E' hi ⟨rfl, J⟩ hv hC hm F1 N1 O3 hne
    obtain ⟨u, t, rfl, hu⟩ := strsAre_get s3 (by rw [← hv, List.getElem?_toArray])
    iterate 3 walk1
    refine notIn_strs N1 (.tail _ (.tail _ (.tail _ (.tail _ (.tail _ (.tail _ h2)))))) s2 ?_
    have hst : (second.take (i + 1)).filter (lacks first) = (second.take i).filter (lacks first) ++ (if lacks first u = true then [u] else []) := by
      rw [take_snoc' hu, List.filter_append]; congr 1
      by_cases hl : lacks first u = true
      · rw [if_pos hl, List.filter_cons, if_pos hl]; rfl
      · rw [if_neg hl, List.filter_cons, if_neg hl]; rfl
    generalize lacks first u = b at *
    cases b with
    | true =>
      iterate 3 walk1
      refine ⟨h1, tk1, _, rfl, F1, N1, O3, .inr ⟨_, hm3, rfl, _, rfl⟩, rfl, ?_⟩
      rw [hst]
      exact strsAre_append J (.cons _ t .nil)
    | false =>
      iterate 2 walk1
      refine ⟨h1, tk1, _, rfl, F1, N1, O3, .inr ⟨_, hm3, rfl, _, rfl⟩, rfl, ?_⟩
      rw [hst]
      simpa using J
  rintro yb nx ⟨rfl, J2⟩ Db h5 tk5 F5 N5 O5
  rw [List.size_toArray, s3.length, List.take_length] at J2
  have oDb := off1_mem O5
  iterate 3 walk1
  rename_i tpD htp l1 hH F6 N6
  refine next tpD Da Db ya yb _ _ F6 (News.sub N6 fun p hp => ?_) (fun q hq => ⟨ne_of_allLt l1.2.2.2.2 q hq, oDa q (.tail _ (.tail _ hq)), oDb q (.tail _ (.tail _ (.tail _ hq)))⟩) J1 J2
  simp only [List.mem_cons] at hp ⊢
  rcases hp with h | h | h | h | h | h <;> simp [h]
section
open PySem PySem.W PyProof.Rows
theorem Mine.clrQLawQ5 (prog : Program) (w : World) (A : Around) (env : Env) (pos : Pos) (s : Shared) : True := by
  w_top off
  first
  | (have : wpAny (model prog w) A (PySem.eval (.Constant (.int 0) 0 pos) env) (fun _ _ => True) (fun _ _ => True) s := by (walk1; fail "x")); trivial
  | trivial
end
theorem law_p8 {w : World} {G : GG} {h₀ : Heap} {L fa RD R0 R1 td Da Db : Addr} {cd : Value} {w0 w1 x1 x2 : List Value} {k0 k1 i1 i2 : Nat} {first second : List PySem.Str} {m : PySem.Str → Option Value} {mine : Led} {s : Shared}
    {Q : Flow → Shared → Prop} {E : Value → Shared → Prop} (C : LCtx w G h₀)
    (hw1 : Words first) (hw2 : Words second) (hn1 : first.length ≤ 60) (hn2 : second.length ≤ 60) (rs1 : Rise first) (rs2 : Rise second)
    (e1 : m (Str.ofString "readings") = some (.ref RD)) (e2 : m (Str.ofString "due") = some (.ref td))
    (F : Fr h₀ L s.heap m) (N : News h₀ L s.heap mine)
    (hT : (RD, W.listOf #[.ref R0, .ref R1] 2) ∈ mine) (h0 : (R0, W.listOf w0.toArray k0) ∈ mine) (h1 : (R1, W.listOf w1.toArray k1) ∈ mine) (hD : (td, tupOf #[.ref Da, .ref Db]) ∈ mine) (h2 : (Da, W.listOf x1.toArray i1) ∈ mine) (h3 : (Db, W.listOf x2.toArray i2) ∈ mine)
    (s0 : StrsAre w0 first) (s1 : StrsAre w1 second) (s2 : StrsAre x1 (first.filter (lacks second))) (s3 : StrsAre x2 (second.filter (lacks first)))
    (next : ∀ h' tk', Fr h₀ L h' m → News h₀ L h' mine → LawGo w 9 L fa cd Q E { s with heap := h', toks := tk' })
    : LawGo w 8 L fa cd Q E s := by
  have K := C.K
  have X := C.X
  have T := C.T
  have hlim := law_lim
  have hunits := law_units
  clear C
  unfold LawGo
  revert X; k_fill; intro X
  generalize hE : lawEnv _ _ _ = env0; unfold lawEnv at hE; (conv at hE in lawScope => whnf); rw [show List.drop 8 lawBody = lawStmt 8 :: List.drop 9 lawBody from rfl]; (conv in lawStmt _ => whnf); subst hE
  iterate 18 walk1
  refine wpAny_call (sld_does (G := G) _ L h₀ m mine _ _ rfl rfl rfl s0 s1 rs1 rs2 (by omega) (by omega) h0 h1 X T rfl (by rw [depth_deeper]; omega) (by dsimp only [Around.deeper]; omega) F N ?_)
  intro tp M U ms us nm nu h4 tk4 F4 N4 n4 sM sU
  dsimp only
  walk1
  have u : ∀ {a b c p : Addr × Obj}, p ∈ mine → p ∈ a :: b :: c :: mine := fun hp => List.Mem.tail _ (List.Mem.tail _ (List.Mem.tail _ hp))
  have wf : ∀ {a b : List PySem.Str}, Words a → Words (a.filter (lacks b)) := fun h x hx => h x (List.mem_filter.mp hx).1
  refine ne_pairT N4 (.head _) (.tail _ (.tail _ (.head _))) (.tail _ (.head _)) (u hD) (u h2) (u h3) sM sU s2 s3 (wf hw1) (wf hw2) (by dsimp only [Around.deeper]; omega) ?_
  iterate 3 walk1
  exact next _ _ F4 (News.sub N4 fun p hp => u hp)
section
open PySem PySem.W PyProof.Rows
theorem Mine.clrQLawQ6 (prog : Program) (w : World) (A : Around) (env : Env) (pos : Pos) (s : Shared) : True := by
  w_top off
  first
  | (have : wpAny (model prog w) A (PySem.eval (.Constant (.int 0) 0 pos) env) (fun _ _ => True) (fun _ _ => True) s := by (walk1; fail "x")); trivial
  | trivial
end
theorem law_p9 {w : World} {G : GG} {h₀ : Heap} {L fa Rn Tp y0 y1 td Da Db : Addr} {cd : Value} {x1 x2 : List Value} {nT i1 i2 : Nat} {us0 us1 first second : List PySem.Str} {m : PySem.Str → Option Value} {mine : Led} {S : St} {T0 T1 : Tr} {s : Shared}
    {Q : Flow → Shared → Prop} {E : Value → Shared → Prop} (C : LCtx w G h₀)
    (hu0 : Words us0) (hu1 : Words us1) (hw1 : Words first) (hw2 : Words second) (rs1 : Rise first) (rs2 : Rise second) (ms1 : ∀ x, x ∈ first ↔ x ∈ us0) (ms2 : ∀ x, x ∈ second ↔ x ∈ us1)
    (hok : S.Ok Rn) (hsz : S.its.size ≤ 1000) (rt0 : T0.at_ [] = some y0) (rt1 : T1.at_ [] = some y1) (lay0 : Lay w Rn S.objs T0 (domOf us0) (fun _ => true)) (lay1 : Lay w Rn S.objs T1 (domOf us1) (fun _ => true))
    (e1 : m (Str.ofString "trees") = some (.ref Tp)) (e2 : m (Str.ofString "due") = some (.ref td))
    (F : Fr h₀ L s.heap m) (N : News h₀ L s.heap (mine ++ S.led Rn)) (O : Off mine (S.led Rn))
    (hT : (Tp, W.listOf #[.ref y0, .ref y1] nT) ∈ mine) (hD : (td, tupOf #[.ref Da, .ref Db]) ∈ mine) (h2 : (Da, W.listOf x1.toArray i1) ∈ mine) (h3 : (Db, W.listOf x2.toArray i2) ∈ mine)
    (s2 : StrsAre x1 (first.filter (lacks second))) (s3 : StrsAre x2 (second.filter (lacks first)))
    (next : ∀ (S2 : St) h' tk', Fr h₀ L h' m → News h₀ L h' (mine ++ S2.led Rn) → Off mine (S2.led Rn) → S2.Ok Rn → Lay w Rn S2.objs T0 (domOf us0) (fun _ => true) → Lay w Rn S2.objs T1 (domOf us1) (fun _ => true) →
      S2.its.size = S.its.size + cB (domOf us0) (domOf us1) 6 [] + cB (domOf us1) (domOf us0) 6 [] → LawGo w 10 L fa cd Q E { s with heap := h', toks := tk' })
    : LawGo w 9 L fa cd Q E s := by
  have K := C.K
  have X := C.X
  have T := C.T
  have C1 := C.C1
  have C2 := C.C2
  have hlim := law_lim
  have hunits := law_units
  have hT2 : (Tp, W.listOf #[.ref y0, .ref y1] nT) ∈ mine ++ S.led Rn := List.mem_append_left _ hT
  have hc1 := cB_len (domOf us0) (domOf us1) 6 []
  have hc2 := cB_len (domOf us1) (domOf us0) 6 []
  have hp7 : 2 ^ (6 + 1) = 128 := by decide
  have hp47 : 4 ^ (6 + 1) = 16384 := by decide
  rw [hp7] at hc1 hc2
  clear C
  unfold LawGo
  revert X; k_fill; intro X
  generalize hE : lawEnv _ _ _ = env0; unfold lawEnv at hE; (conv at hE in lawScope => whnf); rw [show List.drop 9 lawBody = lawStmt 9 :: List.drop 10 lawBody from rfl]; (conv in lawStmt _ => whnf); subst hE
  iterate 22 walk1
  refine wpAny_call (bey_does (G := G) (U := T1) (domU := domOf us1) (domOf_dlen hu0) 6 [] y0 y1 S _ _ rfl (by decide +kernel) hok (by omega) lay0 lay1 rt0 (.inl rt1) _ L h₀ m mine _ _ ⟨⟨_, _, _, K, rfl, rfl, rfl⟩, X, T, rfl, C1, C2⟩ (by rw [depth_deeper]; omega) (by dsimp only [Around.deeper]; omega) F N O ?_)
  intro B0 z0 n0 S1 h4 tk4 F4 N4 n4 O4 sB P4
  dsimp only
  have lay0' : Lay w Rn S1.objs T0 (domOf us0) (fun _ => true) := lay0.mono fun q hq => P4.old q hq (.inr rt1)
  have lay1' : Lay w Rn S1.objs T1 (domOf us1) (fun _ => true) := lay1.mono fun q hq => P4.old q hq (.inr rt1)
  have hT3 : (Tp, W.listOf #[.ref y0, .ref y1] nT) ∈ mine ++ S1.led Rn := List.mem_append_left _ hT
  have hi1 := P4.its
  iterate 18 walk1
  refine wpAny_call (bey_does (G := G) (U := T0) (domU := domOf us0) (domOf_dlen hu1) 6 [] y1 y0 S1 _ _ rfl (by decide +kernel) P4.ok (by omega) lay1' lay0' rt1 (.inl rt0) _ L h₀ m ((B0, W.listOf z0.toArray n0) :: mine) _ _ ⟨⟨_, _, _, K, rfl, rfl, rfl⟩, X, T, rfl, C1, C2⟩ (by rw [depth_deeper]; omega) (by dsimp only [Around.deeper]; omega) F4 N4 (off_new (fun q hq => n4 q (List.mem_append_right _ hq)) O4) ?_)
  intro B1 z1 n1 S2 h5 tk5 F5 N5 n5 O5 sB2 P5
  dsimp only
  have hi2 := P5.its
  iterate 3 walk1
  rename_i Dt hD5 F6 N6 l6
  replace sB : StrsAre z0 (outB (domOf us0) (domOf us1) 6 [] eS) := sB
  rw [bey_eq hu0 rs1 ms1 ms2] at sB
  replace sB2 : StrsAre z1 (outB (domOf us1) (domOf us0) 6 [] eS) := sB2
  rw [bey_eq hu1 rs2 ms2 ms1] at sB2
  have u : ∀ {a b c p : Addr × Obj}, p ∈ mine → p ∈ a :: b :: ((c :: mine) ++ S2.led Rn) := fun hp => List.Mem.tail _ (List.Mem.tail _ (List.mem_append_left _ (List.Mem.tail _ hp)))
  have wf : ∀ {a b : List PySem.Str}, Words a → Words (a.filter (lacks b)) := fun h x hx => h x (List.mem_filter.mp hx).1
  refine ne_pairT N6 (.head _) (.tail _ (.tail _ (.head _))) (.tail _ (.head _)) (u hD) (u h2) (u h3) sB sB2 s2 s3 (wf hw1) (wf hw2) (by dsimp only [Around.deeper]; omega) ?_
  iterate 4 walk1
  exact next S2 _ _ F6 (News.sub N6 fun p hp => .tail _ (.tail _ (.tail _ hp))) (off_sub O5 fun p hp => .tail _ hp) P5.ok (lay0'.mono fun q hq => P5.old q hq (.inr rt0)) (lay1'.mono fun q hq => P5.old q hq (.inr rt0)) (by rw [hi2, hi1])
section
open PySem PySem.W PyProof.Rows
theorem Mine.clrQLawQ7 (prog : Program) (w : World) (A : Around) (env : Env) (pos : Pos) (s : Shared) : True := by
  w_top off
  first
  | (have : wpAny (model prog w) A (PySem.eval (.Constant (.int 0) 0 pos) env) (fun _ _ => True) (fun _ _ => True) s := by (walk1; fail "x")); trivial
  | trivial
end
section
local macro_rules | `(tactic| walk_at "eval Name") => `(tactic| (k_here; (with_reducible show wpAny _ _ (PySem.eval (Expr.Name _ _) (compEnvC _ _ _ _)) _ _ _); k_dflt (refine LCgL.ld_own (by k_asm) (by assumption) (by assumption) (by assumption) ?_)))
noncomputable def hd1 (u : PySem.Str) : List PySem.Str := (List.range (u.cps.size + 1)).map (headOf u)
noncomputable def HdJ (wf : List PySem.Str) (i j : Nat) (ys : List Value) : Prop := StrsAre ys ((wf.take i).flatMap hd1 ++ (List.range j).map (headOf (wf.getD i eS))) ∧ ys.length ≤ 5 * i + j ∧ i ≤ 11 ∧ j ≤ 5
noncomputable def rngH (wf : List PySem.Str) (i : Nat) : Nat := (wf.getD i eS).cps.size + 1
theorem small5 : ∀ n : Nat, n ≤ 5 → Builtin.Range.small 0 (n : Int) 1 = true
  | 0, _ => by decide
  | 1, _ => by decide
  | 2, _ => by decide
  | 3, _ => by decide
  | 4, _ => by decide
  | 5, _ => by decide
  | n + 6, h => by omega
theorem getD_at {wf : List PySem.Str} {i : Nat} {u : PySem.Str} (h : wf[i]? = some u) : wf.getD i eS = u := by
  rw [List.getD_eq_getElem?_getD, h]; rfl
theorem HdJ.step {wf : List PySem.Str} {i j : Nat} {ys : List Value} {u : PySem.Str} {t : Tok} (h : HdJ wf i j ys) (hu : wf[i]? = some u) (hj : j < 5) : HdJ wf i (j + 1) (ys ++ [.str (headOf u j) t]) := by
  obtain ⟨a, b, c, d⟩ := h
  refine ⟨?_, by rw [List.length_append, List.length_singleton]; omega, c, by omega⟩
  rw [List.range_succ, List.map_append, ← List.append_assoc, getD_at hu]
  rw [getD_at hu] at a
  exact strsAre_append a (.cons _ t .nil)
theorem HdJ.next {wf : List PySem.Str} {i : Nat} {ys : List Value} (hw : Words wf) (hl : wf.length ≤ 11) (hi : i < wf.length) (h : HdJ wf i (rngH wf i) ys) : HdJ wf (i + 1) 0 ys := by
  obtain ⟨a, b, c, d⟩ := h
  have hu : wf[i]? = some wf[i] := List.getElem?_eq_getElem hi
  unfold rngH at a b d
  rw [getD_at hu] at a b d
  refine ⟨?_, by omega, by omega, by omega⟩
  rw [take_snoc' hu, List.flatMap_append, List.flatMap_cons, List.flatMap_nil, List.append_nil]
  simpa [hd1] using a
theorem headOf_word {u : PySem.Str} (hw : IsWord u) (j : Nat) : IsWord (headOf u j) := by
  obtain ⟨h1, h2⟩ := hw
  refine ⟨?_, fun c hc => h2 c (List.mem_of_mem_take hc)⟩
  show (u.cps.toList.take j).toArray.size ≤ 4
  rw [List.size_toArray, List.length_take]
  have : u.cps.toList.length = u.cps.size := Array.length_toList
  omega
theorem mem_hds {wf : List PySem.Str} {x : PySem.Str} : x ∈ wf.flatMap hd1 ↔ ∃ u ∈ wf, ∃ j, j ≤ u.cps.size ∧ x = headOf u j := by
  rw [List.mem_flatMap]
  constructor
  · rintro ⟨u, hu, hx⟩
    obtain ⟨j, hj, rfl⟩ := List.mem_map.mp hx
    exact ⟨u, hu, j, by have := List.mem_range.mp hj; omega, rfl⟩
  · rintro ⟨u, hu, j, hj, rfl⟩
    exact ⟨u, hu, List.mem_map.mpr ⟨j, List.mem_range.mpr (by omega), rfl⟩⟩
theorem law_p10 {w : World} {G : GG} {h₀ : Heap} {L fa f1 f2 : Addr} {cd : Value} {c1 c2 : Obj} {x1 x2 : List Value} {i1 i2 : Nat} {us0 us1 first second : List PySem.Str} {m : PySem.Str → Option Value} {mine : Led} {s : Shared}
    {Q : Flow → Shared → Prop} {E : Value → Shared → Prop} (C : LCtx w G h₀)
    (hu0 : Words us0) (hu1 : Words us1) (hl1 : first.length ≤ 11) (hl2 : second.length ≤ 11) (ms1 : ∀ x, x ∈ first ↔ x ∈ us0) (ms2 : ∀ x, x ∈ second ↔ x ∈ us1)
    (d1 : c1.data = .cell (some (.ref f1))) (d2 : c2.data = .cell (some (.ref f2)))
    (F : Fr h₀ L s.heap m) (N : News h₀ L s.heap ((L + 1 + 1, c2) :: (L + 1, c1) :: mine))
    (h2 : (f1, W.listOf x1.toArray i1) ∈ mine) (h3 : (f2, W.listOf x2.toArray i2) ∈ mine)
    (s2 : StrsAre x1 first) (s3 : StrsAre x2 second)
    (next : ∀ Dh R0 R1 w0 w1 k0 k1 H0 H1 h' tk', Fr h₀ L h' (fun z => if z = Str.ofString "heads" then some (.ref Dh) else m z) →
      News h₀ L h' ((L + 1 + 1, c2) :: (L + 1, c1) :: (Dh, W.listOf #[.ref R0, .ref R1] 2) :: (R1, W.listOf w1.toArray k1) :: (R0, W.listOf w0.toArray k0) :: mine) →
      (∀ q ∈ mine, q.1 ≠ Dh ∧ q.1 ≠ R0 ∧ q.1 ≠ R1) → StrsAre w0 H0 → StrsAre w1 H1 → Heads us0 H0 → Heads us1 H1 → LawGo w 11 L fa cd Q E { s with heap := h', toks := tk' })
    : LawGo w 10 L fa cd Q E s := by
  have K := C.K
  have X := C.X
  have T := C.T
  have C1 := C.C1
  have C2 := C.C2
  have hlim := law_lim
  have hunits := law_units
  clear C
  unfold LawGo
  revert X; k_fill; intro X
  generalize hE : lawEnv _ _ _ = env0; unfold lawEnv at hE; (conv at hE in lawScope => whnf); rw [show List.drop 10 lawBody = lawStmt 10 :: List.drop 11 lawBody from rfl]; (conv in lawStmt _ => whnf); subst hE
  iterate 1 walk1
  refine tup_Assign_ListComp F rfl (by with_unfolding_all rfl) (by rfl) (by decide) (by rfl) (by decide) (by rfl) (by rfl) (by rfl) ?_
  iterate 7 walk1
  rename Fr h₀ L _ _ => F5
  rename News h₀ L _ _ => N5
  rename (_ ∧ _ ∧ AllLt _ _) => l5
  rename Addr => tp
  refine ⟨tp, #[.ref f1, .ref f2], _, rfl, rfl, F5, N5, .head _, by rw [sizeLine_eq]; exact Nat.le_of_ble_eq_true rfl, ?_⟩
  rintro s₂ ⟨g', rfl⟩
  refine comp_inv (LsJ ((tp, tupOf #[.ref f1, .ref f2]) :: (L + 1 + 1, c2) :: (L + 1, c1) :: mine) (fun i vs => ∃ H, StrsAre vs H ∧ Heads (if i = 0 then us0 else us1) H)) ⟨rfl, rfl⟩ ?_ ?_
  · rintro i ys nx v I oI C oC D m₂ h1 tk1 E' hi J hv hC hm F1 N1 O3 hne
    obtain ⟨f, xf, nf, wf, usx, rfl, hmf, hsf, hwf, hlf, hmsf, hus⟩ : ∃ f xf nf wf usx, v = .ref f ∧ (f, W.listOf xf.toArray nf) ∈ mine ∧ StrsAre xf wf ∧ Words usx ∧ wf.length ≤ 11 ∧ (∀ x, x ∈ wf ↔ x ∈ usx) ∧ usx = (if i = 0 then us0 else us1) := by
      have hi2 : i = 0 ∨ i = 1 := by
        have : i < 2 := hi
        omega
      rcases hi2 with rfl | rfl
      · exact ⟨f1, x1, i1, first, us0, (Option.some.inj hv).symm, h2, s2, hu0, hl1, ms1, rfl⟩
      · exact ⟨f2, x2, i2, second, us1, (Option.some.inj hv).symm, h3, s3, hu1, hl2, ms2, rfl⟩
    iterate 5 walk1
    have hwwf : Words wf := fun x hx => hwf x ((hmsf x).mp hx)
    have hmf2 : (f, ({ cls := .type "list", data := .seq xf.toArray nf } : Obj)) ∈ (I, oI) :: (C, oC) :: (D, lst ys) :: nx := .tail _ (.tail _ (.tail _ (J.sub _ (.tail _ (.tail _ (.tail _ hmf))))))
    refine two_ListComp (rngH wf) (HdJ wf) rfl (by with_unfolding_all rfl) (by decide) (by rfl) (by decide) (by rfl) (by rfl) (by decide) (fun _ _ => rfl) F1 N1 hmf2 ?_ (fun i j ys h => by have := h.2; omega) ?_ ⟨.nil, Nat.zero_le _, by omega, by omega⟩ ?_ ?_ ?_ ?_
    · intro i' hi'
      refine small5 _ ?_
      rw [List.size_toArray, hsf.length] at hi'
      have hu : wf[i']? = some wf[i'] := List.getElem?_eq_getElem hi'
      unfold rngH
      rw [getD_at hu]
      have := (hwwf _ (List.getElem_mem hi')).1
      omega
    · walk1
      exact ⟨rfl, rfl⟩
    · intro i' v C' oC' m' led s' E2 hv' hC' hm' F' N' mC'
      obtain ⟨u, t, rfl, hu⟩ := strsAre_get hsf (by rw [← hv', List.getElem?_toArray])
      clear F5 F1 N1 hv hC hm J
      iterate 11 walk1
      have hul := (hwwf u (List.mem_of_getElem? hu)).1
      refine PyProof.Rows.len_str (by show ¬ ((u.cps.size : Int)) ≥ 2 ^ 63; omega) ?_
      iterate 4 walk1
      have hrg : ((rngH wf i' : Nat) : Int) = ↑u.length + 1 := by
        unfold rngH; rw [getD_at hu]; rfl
      rename IsRange _ _ _ _ _ _ _ _ => hR
      rename Fr h₀ L _ _ => FR
      rename News h₀ L _ _ => NR
      rw [← hrg] at hR
      exact ⟨_, _, _, _, _, _, rfl, rfl, FR, NR, hR⟩
    · intro i' j' v t' ys' C' oC' m' led s' E2 hv' hj' J' hC' hm' hk' F' N' mC'
      obtain ⟨u, t, rfl, hu⟩ := strsAre_get hsf (by rw [← hv', List.getElem?_toArray])
      clear F5 F1 N1 hv hC hm J
      have hul := (hwwf u (List.mem_of_getElem? hu)).1
      have hju : j' ≤ u.cps.size := by unfold rngH at hj'; rw [getD_at hu] at hj'; omega
      iterate 7 walk1
      refine slice_strN_ns (s := s') (hsz := ?_) F' N' (fun h3 t3 k3 F3 N3 => ?_)
      rotate_left
      · show u.cps.size ≤ sizeLine
        rw [sizeLine_eq]; omega
      refine ⟨h3, k3, rfl, F3, N3, ?_⟩
      have he : Txt.slice u none (some (j' : Int)) = headOf u j' := by
        have := eq_of_beq (slice_closes_toL (x := u) (j := (j' : Int)) (by omega) (by show (j' : Int) ≤ (u.cps.size : Int); omega))
        rw [this]
        simp [headOf, ofL]
      rw [he]
      exact J'.step hu (by omega)
    · intro i' ys' hi' h'
      rw [List.size_toArray, hsf.length] at hi'
      exact h'.next hwwf hlf hi'
    · intro D2 h4 tk4 ys' F4 N4 n4 J'
      rw [List.size_toArray, hsf.length] at J'
      obtain ⟨hst, hln, _, _⟩ := J'
      rw [List.take_length, List.range_zero, List.map_nil, List.append_nil] at hst
      have hWd : Words (wf.flatMap hd1) := fun x hx => by
        obtain ⟨u, hu, j, _, rfl⟩ := mem_hds.mp hx
        exact headOf_word (hwwf u hu) j
      have hle : (wf.flatMap hd1).length < 64 := by rw [← hst.length]; omega
      clear F5 N5 hC hm
      iterate 2 walk1
      refine wpAny_call (once_does (G := G) (l := D2) _ L h₀ m ((D2, lst ys') :: (I, oI) :: (C, oC) :: (D, lst ys) :: nx) _ _ hst hWd hle (.head _) ⟨⟨_, _, _, K, rfl, rfl, rfl⟩, X, T, rfl, C1, C2⟩ (by rw [depth_deeper]; omega) (by dsimp only [Around.deeper]; omega) F4 N4 ?_)
      intro D3 vs3 rs n3 h5 tk5 F6 N6 n6 hs6 rs6 ms6
      dsimp only
      have hmt : (tp, tupOf #[.ref f1, .ref f2]) ∈ nx := J.sub _ (.head _)
      have hHd : Heads (if i = 0 then us0 else us1) rs := by
        rw [← hus]
        refine ⟨rs6, fun x => (ms6 x).trans (mem_hds.trans ⟨?_, ?_⟩)⟩
        · rintro ⟨u, hu, j, hj, rfl⟩; exact ⟨u, (hmsf u).mp hu, j, hj, rfl⟩
        · rintro ⟨u, hu, j, hj, rfl⟩; exact ⟨u, (hmsf u).mpr hu, j, hj, rfl⟩
      refine ⟨h5, tk5, (D3, W.listOf vs3.toArray n3) :: nx, rfl, F6, News.sub N6 (fun p hp => ?_), ⟨⟨(n6 _ (.tail _ (.head _))).symm, (n6 _ (.tail _ (.tail _ (.head _)))).symm, (n6 _ (.tail _ (.tail _ (.tail _ (.head _))))).symm⟩, O3⟩, .tail _ hmt, _, _, _, _, _, J, ⟨rs, hs6, hHd⟩, rfl, rfl, fun q hq => n6 q (.tail _ (.tail _ (.tail _ (.tail _ hq))))⟩
      simp only [List.mem_cons] at hp ⊢
      rcases hp with h | h | h | h | h <;> simp [h]
  · rintro ys nx J Dh h4 tk4 F4 N4 O4
    obtain ⟨R0, w0, k0, R1, w1, k1, rfl, rfl, ⟨H0, a0, b0⟩, ⟨H1, a1, b1⟩, e0, e1, e2⟩ := J.two
    have oD := off1_mem O4
    refine next Dh R0 R1 w0 w1 k0 k1 H0 H1 h4 tk4 F4 (News.sub N4 fun p hp => ?_) (fun q hq => ⟨oD q (.tail _ (.tail _ (.tail _ (.tail _ (.tail _ hq))))), e0 q (.tail _ (.tail _ (.tail _ hq))), e1 q (.tail _ (.tail _ (.tail _ hq)))⟩) a0 a1 b0 b1
    simp only [List.mem_cons] at hp ⊢
    rcases hp with h | h | h | h | h | h
    all_goals first | exact .inr (.inr (.inr (.inr (.inr (.inr h))))) | simp [h, lst]
end
section
open PySem PySem.W PyProof.Rows
theorem Mine.clrQLawQ8 (prog : Program) (w : World) (A : Around) (env : Env) (pos : Pos) (s : Shared) : True := by
  w_top off
  first
  | (have : wpAny (model prog w) A (PySem.eval (.Constant (.int 0) 0 pos) env) (fun _ _ => True) (fun _ _ => True) s := by (walk1; fail "x")); trivial
  | trivial
end
section
local macro_rules | `(tactic| walk_at "call builtin:len") => `(tactic| refine len_strs (by k_asm) (by first | assumption | exact List.Mem.tail _ (by assumption) | exact List.Mem.tail _ (List.Mem.tail _ (by assumption)) | exact List.Mem.tail _ (List.Mem.tail _ (List.Mem.tail _ (by assumption)))) (by assumption) (by assumption) ?_)
theorem rot3 {h₀ h : Heap} {L : Addr} {a b c : Addr × Obj} {l : Led} (N : News h₀ L h (a :: b :: c :: l)) : News h₀ L h (b :: c :: a :: l) := News.sub N fun p hp => by
  simp only [List.mem_cons] at hp ⊢
  rcases hp with h | h | h | h <;> simp [h]
theorem law_p11 {w : World} {G : GG} {h₀ : Heap} {L fa Dh R0 R1 f1 f2 : Addr} {cd : Value} {c1 c2 : Obj} {w0 w1 x1 x2 : List Value} {k0 k1 i1 i2 : Nat} {first second H0 H1 : List PySem.Str} {m : PySem.Str → Option Value} {mine : Led} {s : Shared}
    {Q : Flow → Shared → Prop} {E : Value → Shared → Prop} (C : LCtx w G h₀)
    (hl1 : first.length ≤ 100) (hl2 : second.length ≤ 100) (hk1 : H0.length ≤ 100) (hk2 : H1.length ≤ 100)
    (d1 : c1.data = .cell (some (.ref f1))) (d2 : c2.data = .cell (some (.ref f2)))
    (e1 : m (Str.ofString "heads") = some (.ref Dh))
    (F : Fr h₀ L s.heap m) (N : News h₀ L s.heap ((L + 1 + 1, c2) :: (L + 1, c1) :: mine))
    (hD : (Dh, W.listOf #[.ref R0, .ref R1] 2) ∈ mine) (h0 : (R0, W.listOf w0.toArray k0) ∈ mine) (h1 : (R1, W.listOf w1.toArray k1) ∈ mine)
    (h2 : (f1, W.listOf x1.toArray i1) ∈ mine) (h3 : (f2, W.listOf x2.toArray i2) ∈ mine)
    (s0 : StrsAre w0 H0) (s1 : StrsAre w1 H1) (s2 : StrsAre x1 first) (s3 : StrsAre x2 second)
    (next : ∀ Dn ta tb h' tk', Fr h₀ L h' (fun z => if z = Str.ofString "nodes" then some (.ref Dn) else m z) →
      News h₀ L h' ((L + 1 + 1, c2) :: (L + 1, c1) :: (Dn, W.listOf #[.int ((H0.length : Int) + (first.length : Int)) ta, .int ((H1.length : Int) + (second.length : Int)) tb] 0) :: mine) → (∀ q ∈ mine, q.1 ≠ Dn) → LawGo w 12 L fa cd Q E { s with heap := h', toks := tk' })
    : LawGo w 11 L fa cd Q E s := by
  have K := C.K
  have X := C.X
  have T := C.T
  have hlim := law_lim
  have hunits := law_units
  clear C
  unfold LawGo
  revert X; k_fill; intro X
  generalize hE : lawEnv _ _ _ = env0; unfold lawEnv at hE; (conv at hE in lawScope => whnf); rw [show List.drop 11 lawBody = lawStmt 11 :: List.drop 12 lawBody from rfl]; (conv in lawStmt _ => whnf); subst hE
  iterate 46 walk1
  rename News h₀ L _ _ => N5
  rename Fr h₀ L _ _ => F5
  rename (_ ∧ _ ∧ AllLt _ _) => l5
  exact next _ _ _ _ _ F5 (rot3 N5) (ne_of_allLt l5.2.2)
end
section
open PySem PySem.W PyProof.Rows
theorem Mine.clrQLawQ9 (prog : Program) (w : World) (A : Around) (env : Env) (pos : Pos) (s : Shared) : True := by
  w_top off
  first
  | (have : wpAny (model prog w) A (PySem.eval (.Constant (.int 0) 0 pos) env) (fun _ _ => True) (fun _ _ => True) s := by (walk1; fail "x")); trivial
  | trivial
end
theorem law_p12 {w : World} {G : GG} {h₀ : Heap} {L fa Rn Tp y0 y1 Dn : Addr} {cd : Value} {nT nN : Nat} {z0 z1 : Int} {ta tb : Tok} {S : St} {T0 T1 : Tr} {us0 us1 : List PySem.Str} {m : PySem.Str → Option Value} {mine : Led} {s : Shared}
    {Q : Flow → Shared → Prop} {E : Value → Shared → Prop} (C : LCtx w G h₀)
    (hdl0 : ∀ q ∈ domOf us0, q.length ≤ 5) (hdl1 : ∀ q ∈ domOf us1, q.length ≤ 5)
    (hok : S.Ok Rn) (rt0 : T0.at_ [] = some y0) (rt1 : T1.at_ [] = some y1) (lay0 : Lay w Rn S.objs T0 (domOf us0) (fun _ => true)) (lay1 : Lay w Rn S.objs T1 (domOf us1) (fun _ => true))
    (e1 : m (Str.ofString "trees") = some (.ref Tp)) (e2 : m (Str.ofString "nodes") = some (.ref Dn))
    (F : Fr h₀ L s.heap m) (N : News h₀ L s.heap (mine ++ S.led Rn)) (O : Off mine (S.led Rn))
    (hT : (Tp, W.listOf #[.ref y0, .ref y1] nT) ∈ mine) (hN : (Dn, W.listOf #[.int z0 ta, .int z1 tb] nN) ∈ mine)
    (hz0 : ((cnt (domOf us0) [] : Nat) : Int) = z0) (hz1 : ((cnt (domOf us1) [] : Nat) : Int) = z1)
    (next : ∀ h' tk', Fr h₀ L h' m → News h₀ L h' (mine ++ S.led Rn) → LawGo w 13 L fa cd Q E { s with heap := h', toks := tk' })
    : LawGo w 12 L fa cd Q E s := by
  have K := C.K
  have X := C.X
  have T := C.T
  have C1 := C.C1
  have C2 := C.C2
  have hlim := law_lim
  have hunits := law_units
  have hT2 : (Tp, W.listOf #[.ref y0, .ref y1] nT) ∈ mine ++ S.led Rn := List.mem_append_left _ hT
  clear C
  unfold LawGo
  revert X; k_fill; intro X
  generalize hE : lawEnv _ _ _ = env0; unfold lawEnv at hE; (conv at hE in lawScope => whnf); rw [show List.drop 12 lawBody = lawStmt 12 :: List.drop 13 lawBody from rfl]; (conv in lawStmt _ => whnf); subst hE
  iterate 4 walk1
  refine comp_inv (fun i ys nx => nx = mine ++ S.led Rn ∧ IntsAre ys ([z0, z1].take i)) ⟨rfl, .nil⟩ ?_ ?_
  · rintro i ys nx v I oI C oC D m₂ h1 tk1 E' hi ⟨rfl, J⟩ hv hC hm F1 N1 O3 hne
    have hon := off_turn (oI := oI) (oC := oC) (oD := lst ys) O3 O
    obtain ⟨x, Tr1, usx, z, rfl, rt, ly, hdl, hz, hzi⟩ : ∃ x Tr1 usx z, v = .ref x ∧ Tr.at_ Tr1 [] = some x ∧ Lay w Rn S.objs Tr1 (domOf usx) (fun _ => true) ∧ (∀ q ∈ domOf usx, q.length ≤ 5) ∧ ((cnt (domOf usx) [] : Nat) : Int) = z ∧ [z0, z1].take (i + 1) = [z0, z1].take i ++ [z] := by
      have hi2 : i = 0 ∨ i = 1 := by
        have : i < 2 := hi
        omega
      rcases hi2 with rfl | rfl
      · exact ⟨y0, T0, us0, z0, (Option.some.inj hv).symm, rt0, lay0, hdl0, hz0, rfl⟩
      · exact ⟨y1, T1, us1, z1, (Option.some.inj hv).symm, rt1, lay1, hdl1, hz1, rfl⟩
    iterate 8 walk1
    refine wpAny_call (nodes_does (G := G) hdl 6 [] x S (fun _ => true) rfl hok ly rt _ L h₀ m ((I, oI) :: (C, oC) :: (D, lst ys) :: mine) _ _ ⟨⟨_, _, _, K, rfl, rfl, rfl⟩, X, T, rfl, C1, C2⟩ (by rw [depth_deeper]; omega) (by dsimp only [Around.deeper]; omega) F1 N1 hon ?_)
    intro t2 h2 tk2 F2 N2
    dsimp only
    refine ⟨h2, tk2, mine ++ S.led Rn, rfl, F2, N2, O3, .inr ⟨_, hT2, rfl, _, rfl⟩, rfl, ?_⟩
    rw [hzi, hz]
    exact intsAre_snoc J
  · rintro ys nx ⟨rfl, J⟩ D h4 tk4 F4 N4 O4
    replace J : IntsAre ys [z0, z1] := J
    walk1
    refine ke_ne_ints (xs := ys) (ys := [.int z0 ta, .int z1 tb]) ⟨_, (N4 _ (.head _)).1, rfl, _, rfl⟩ ⟨_, (N4 _ (.tail _ (List.mem_append_left _ hN))).1, rfl, _, rfl⟩ J (.cons _ _ (.cons _ _ .nil)) (by dsimp only [Around.deeper]; omega) ?_
    rw [show (!decide ([z0, z1] = [z0, z1])) = false by simp]
    iterate 3 walk1
    exact next _ _ F4 (News.sub N4 fun p hp => .tail _ hp)
section
open PySem PySem.W PyProof.Rows
theorem Mine.clrQLawQ10 (prog : Program) (w : World) (A : Around) (env : Env) (pos : Pos) (s : Shared) : True := by
  w_top off
  first
  | (have : wpAny (model prog w) A (PySem.eval (.Constant (.int 0) 0 pos) env) (fun _ _ => True) (fun _ _ => True) s := by (walk1; fail "x")); trivial
  | trivial
end
section
theorem len_at {prog : Program} {w : World} {A : Around} {E : Value → Shared → Prop} {s : Shared} {h₀ : Heap} {L : Addr} {l : Addr} {its : Array Value} {n : Nat} {news : Led} {Q : Value → Shared → Prop} (N : News h₀ L s.heap news) (hm : (l, W.listOf its n) ∈ news) (hz : its.size ≤ 1000) (h : Q (.int its.size (s.toks + 1)) { s with toks := s.toks + 1 + 1 }) :
    wpAny (model prog w) A (call (.builtin "len") [.ref l]) Q E s := by
  have hl : s.heap.IsList l its := ⟨_, (N _ hm).1, rfl, _, rfl⟩
  exact len_list hl (by omega) h
local macro_rules | `(tactic| walk_at "call builtin:len") => `(tactic| first | refine len_strs (by k_asm) (by assumption) (by assumption) (by assumption) ?_ | refine len_at (by k_asm) (by assumption) (by assumption) ?_)
theorem law_p13 {w : World} {G : GG} {h₀ : Heap} {L fa Rn Dh R0 R1 Dn : Addr} {cd : Value} {w0 w1 : List Value} {k0 k1 nN : Nat} {z0 z1 : Int} {ta tb : Tok} {S : St} {H0 H1 : List PySem.Str} {m : PySem.Str → Option Value} {mine : Led} {s : Shared}
    {Q : Flow → Shared → Prop} {E : Value → Shared → Prop} (C : LCtx w G h₀)
    (hk1 : H0.length ≤ 100) (hk2 : H1.length ≤ 100) (rs0 : Rise H0) (rs1 : Rise H1) (hsz : S.its.size ≤ 1000)
    (e1 : m (Str.ofString "heads") = some (.ref Dh)) (e2 : m (Str.ofString "nodes") = some (.ref Dn)) (e3 : m (Str.ofString "runs") = some (.ref Rn))
    (F : Fr h₀ L s.heap m) (N : News h₀ L s.heap (mine ++ S.led Rn))
    (hD : (Dh, W.listOf #[.ref R0, .ref R1] 2) ∈ mine) (h0 : (R0, W.listOf w0.toArray k0) ∈ mine) (h1 : (R1, W.listOf w1.toArray k1) ∈ mine)
    (hN : (Dn, W.listOf #[.int z0 ta, .int z1 tb] nN) ∈ mine)
    (s0 : StrsAre w0 H0) (s1 : StrsAre w1 H1)
    (hfin : (S.its.size : Int) = 3 * (z0 + z1) + ((H0.filter (lacks H1)).length : Int) + ((H1.filter (lacks H0)).length : Int))
    (next : ∀ m' h' tk', Fr h₀ L h' m' → News h₀ L h' (mine ++ S.led Rn) → Q (.ret (.bool true)) { s with heap := h', toks := tk' })
    : LawGo w 13 L fa cd Q E s := by
  have K := C.K
  have X := C.X
  have T := C.T
  have hlim := law_lim
  have hunits := law_units
  have hD2 : (Dh, W.listOf #[.ref R0, .ref R1] 2) ∈ mine ++ S.led Rn := List.mem_append_left _ hD
  clear C
  unfold LawGo
  revert X; k_fill; intro X
  generalize hE : lawEnv _ _ _ = env0; unfold lawEnv at hE; (conv at hE in lawScope => whnf); rw [show List.drop 13 lawBody = lawStmt 13 :: List.drop 14 lawBody from rfl]; (conv in lawStmt _ => whnf); subst hE
  iterate 17 walk1
  refine wpAny_call (sld_does (G := G) _ L h₀ m (mine ++ S.led Rn) _ _ rfl rfl rfl s0 s1 rs0 rs1 (by omega) (by omega) (List.mem_append_left _ h0) (List.mem_append_left _ h1) X T rfl (by rw [depth_deeper]; omega) (by dsimp only [Around.deeper]; omega) F N ?_)
  intro tp M U ms us nm nu h4 tk4 F4 N4 n4 sM sU
  dsimp only
  have hlm : ms.length ≤ 100 := by rw [sM.length]; exact Nat.le_trans (List.length_filter_le _ _) hk1
  have hlM : (H0.filter (lacks H1)).length ≤ 100 := Nat.le_trans (List.length_filter_le _ _) hk1
  have hlU : (H1.filter (lacks H0)).length ≤ 100 := Nat.le_trans (List.length_filter_le _ _) hk2
  have hM : (M, W.listOf ms.toArray nm) ∈ (tp, tupOf #[.ref M, .ref U]) :: (U, W.listOf us.toArray nu) :: (M, W.listOf ms.toArray nm) :: (mine ++ S.led Rn) := .tail _ (.tail _ (.head _))
  have hU : (U, W.listOf us.toArray nu) ∈ (tp, tupOf #[.ref M, .ref U]) :: (U, W.listOf us.toArray nu) :: (M, W.listOf ms.toArray nm) :: (mine ++ S.led Rn) := .tail _ (.head _)
  have hR : (Rn, W.listOf S.its S.n) ∈ (tp, tupOf #[.ref M, .ref U]) :: (U, W.listOf us.toArray nu) :: (M, W.listOf ms.toArray nm) :: (mine ++ S.led Rn) := .tail _ (.tail _ (.tail _ (List.mem_append_right _ (.tail _ (.tail _ (.head _))))))
  have hNN : (Dn, W.listOf #[.int z0 ta, .int z1 tb] nN) ∈ (tp, tupOf #[.ref M, .ref U]) :: (U, W.listOf us.toArray nu) :: (M, W.listOf ms.toArray nm) :: (mine ++ S.led Rn) := .tail _ (.tail _ (.tail _ (List.mem_append_left _ hN)))
  iterate 28 walk1
  rename News h₀ L _ _ => N5
  rename Fr h₀ L _ _ => F5
  refine sumK (vs := [.int z0 ta, .int z1 tb]) (ns := [z0, z1]) rfl F5 N5 ⟨_, (N5 _ hNN).1, rfl, _, rfl⟩ (.cons _ _ (.cons _ _ .nil)) ?_
  intro h7 tk7 t7 F7 N7
  iterate 18 walk1
  have hb : (((S.its.size : Nat) : Int) == 3 * List.sum [z0, z1] + ((H0.filter (lacks H1)).length : Int) + ((H1.filter (lacks H0)).length : Int)) = true := by
    rw [beq_iff_eq, hfin]
    simp
  rw [hb]
  exact next _ h7 _ F7 (News.sub N7 fun p hp => .tail _ (.tail _ (.tail _ hp)))
end
section
open PySem PySem.W PyProof.Rows
theorem Mine.clrQLawQ11 (prog : Program) (w : World) (A : Around) (env : Env) (pos : Pos) (s : Shared) : True := by
  w_top off
  first
  | (have : wpAny (model prog w) A (PySem.eval (.Constant (.int 0) 0 pos) env) (fun _ _ => True) (fun _ _ => True) s := by (walk1; fail "x")); trivial
  | trivial
end
end Mine
end

section
open PySem PySem.W PyProof.Rows
theorem Mine.clrLawQ11 (prog : Program) (w : World) (A : Around) (env : Env) (pos : Pos) (s : Shared) : True := by
  w_top off
  first
  | (have : wpAny (model prog w) A (PySem.eval (.Constant (.int 0) 0 pos) env) (fun _ _ => True) (fun _ _ => True) s := by (walk1; fail "x")); trivial
  | trivial
end

section
open PySem PySem.W PyProof.Rows PySem.Calls Builtin LCg
set_option maxRecDepth 100000
set_option maxHeartbeats 2000000
set_option pp.deepTerms false
set_option pp.deepTerms.threshold 7
namespace Mine
local macro_rules | `(tactic| k_all) => `(tactic| assumption)
local macro_rules | `(tactic| size_fits) => `(tactic| assumption)
local macro_rules | `(tactic| walk_at "eval Name") => `(tactic| (k_here; k_dflt (refine' nameX_L ?F ?v ?_ ?a ?b; (case F => k_asm); (case a => rfl); (case b => rfl); (case v => with_unfolding_all assumption); k_whole)))
theorem off3_new {a b : Addr × Obj} {x y z : Addr} {o1 o2 o3 : Obj} {mine l : Led} (h : ∀ q ∈ mine ++ l, q.1 ≠ x ∧ q.1 ≠ z ∧ q.1 ≠ y) (O : Off (a :: b :: mine) l) : Off (a :: b :: (x, o1) :: (y, o2) :: (z, o3) :: mine) l := fun p hp q hq => by
  have hh := h q (List.mem_append_right _ hq)
  rcases List.mem_cons.mp hp with rfl | hp
  · exact O _ (.head _) q hq
  rcases List.mem_cons.mp hp with rfl | hp
  · exact O _ (.tail _ (.head _)) q hq
  rcases List.mem_cons.mp hp with rfl | hp
  · exact hh.1.symm
  rcases List.mem_cons.mp hp with rfl | hp
  · exact hh.2.2.symm
  rcases List.mem_cons.mp hp with rfl | hp
  · exact hh.2.1.symm
  exact O _ (.tail _ (.tail _ hp)) q hq
theorem off1_new {a b : Addr × Obj} {x : Addr} {o1 : Obj} {mine l : Led} (h : ∀ q ∈ mine ++ l, q.1 ≠ x) (O : Off (a :: b :: mine) l) : Off (a :: b :: (x, o1) :: mine) l := fun p hp q hq => by
  rcases List.mem_cons.mp hp with rfl | hp
  · exact O _ (.head _) q hq
  rcases List.mem_cons.mp hp with rfl | hp
  · exact O _ (.tail _ (.head _)) q hq
  rcases List.mem_cons.mp hp with rfl | hp
  · exact (h q (List.mem_append_right _ hq)).symm
  exact O _ (.tail _ (.tail _ hp)) q hq
theorem off_start {Rn L x1 x2 x3 x4 x5 x6 : Addr} {o1 o2 o3 o4 o5 o6 : Obj} (l0 : @LT.lt Nat _ 50 L ∧ @LT.lt Nat _ 71 L) (a1 : @LT.lt Nat _ L x1) (b1 : @Ne Nat x1 Rn) (a2 : @LT.lt Nat _ L x2) (b2 : @Ne Nat x2 Rn) (a3 : @LT.lt Nat _ L x3) (b3 : @Ne Nat x3 Rn) (a4 : @LT.lt Nat _ L x4) (b4 : @Ne Nat x4 Rn) (a5 : @LT.lt Nat _ L x5) (b5 : @Ne Nat x5 Rn) (a6 : @LT.lt Nat _ L x6) (b6 : @Ne Nat x6 Rn) :
    Off [(x1, o1), (x2, o2), (x3, o3), (x4, o4), (x5, o5), (x6, o6)] (St0.led Rn) := by
  have h : ∀ p ∈ [(x1, o1), (x2, o2), (x3, o3), (x4, o4), (x5, o5), (x6, o6)], @LT.lt Nat _ L p.1 ∧ @Ne Nat p.1 Rn := fa6 ⟨a1, b1⟩ ⟨a2, b2⟩ ⟨a3, b3⟩ ⟨a4, b4⟩ ⟨a5, b5⟩ ⟨a6, b6⟩
  intro p hp q hq
  obtain ⟨hl, hn⟩ := h p hp
  rcases List.mem_cons.mp hq with rfl | hq
  · exact Nat.ne_of_gt (Nat.lt_trans l0.2 hl)
  rcases List.mem_cons.mp hq with rfl | hq
  · exact Nat.ne_of_gt (Nat.lt_trans l0.1 hl)
  rw [List.mem_singleton.mp hq]
  exact hn
theorem mem_lift2 {α : Type} {a b c d e f : α} {l : List α} : ∀ p ∈ e :: f :: ([a, b, c, d] ++ l), p ∈ a :: b :: c :: d :: e :: f :: l := fun p hp => by
  rcases List.mem_cons.mp hp with rfl | hp
  · exact .tail _ (.tail _ (.tail _ (.tail _ (.head _))))
  rcases List.mem_cons.mp hp with rfl | hp
  · exact .tail _ (.tail _ (.tail _ (.tail _ (.tail _ (.head _)))))
  rcases List.mem_append.mp hp with hp | hp
  · exact List.mem_append_left (bs := e :: f :: l) (as := [a, b, c, d]) hp
  · exact .tail _ (.tail _ (.tail _ (.tail _ (.tail _ (.tail _ hp)))))
theorem mem_lift2' {α : Type} {a b c d e f : α} : ∀ p ∈ [e, f, a, b, c, d], p ∈ [a, b, c, d, e, f] := fun p hp => mem_lift2 (l := []) p hp
theorem len_sub : ∀ (m l : List PySem.Str), l.Nodup → (∀ k ∈ l, k ∈ m) → l.length ≤ m.length
  | m, [], _, _ => Nat.zero_le _
  | m, a :: l, hn, hs => by
    have ha := hs a (.head _)
    obtain ⟨hna, hn'⟩ := List.nodup_cons.mp hn
    have := len_sub (m.erase a) l hn' fun k hk => (List.mem_erase_of_ne (fun e => hna (by rw [← e]; exact hk))).mpr (hs k (.tail _ hk))
    rw [List.length_erase_of_mem ha] at this
    have : 0 < m.length := List.length_pos_of_mem ha
    simp only [List.length_cons]; omega
theorem words_of {us first : List PySem.Str} (h : Words us) (ms : ∀ x, x ∈ first ↔ x ∈ us) : Words first := fun x hx => h x ((ms x).mp hx)
theorem first_len {us first : List PySem.Str} (rs : Rise first) (hn : us.length ≤ 11) (ms : ∀ x, x ∈ first ↔ x ∈ us) : first.length ≤ 11 := Nat.le_trans (len_sub us first rs.nodup fun k hk => (ms k).mp hk) hn
theorem law_walk : PySem.Challenge.rw_in0102_01.Holds := hd (by
  k_go0
  all_goals try k_fold
  rename_i w s₀ s₁ mg mb G0 Y fa o pm cd doc ho hcd hg X0a V Ta Ba TE TW ns hs hlay0 hL1 hr1 hl2 w6 w5 sc vs w2 hL ra w1 r0 hI hr hlen hcond hD h₁ tk₁ o2 o1 left right X0 X T K F C2 N l0
  rename (ghostOf s₁.heap [(54, 50), (75, 71)]).IsList sc vs.toArray => hsc
  rename CodeHd (ghostOf s₁.heap [(54, 50), (75, 71)]) (75, 71).fst (75, 71).snd => C1
  clear hD hcd X0 X0a V Ta Ba TE TW hT8 hT9 hs hlay0 hL1 hr1 hl2 ra w1 r0 hr hcond G0 Y ho
  have left2 : o2.data = Data.cell none := left
  have right2 : o1.data = Data.cell none := right
  clear left right
  generalize hLd : s₁.heap.objs.size = L at *
  generalize hh0 : ghostOf s₁.heap [(54, 50), (75, 71)] = h₀ at *
  have F1 := F
  have N1 := N
  iterate 8 walk1
  refine ⟨X.keeps F1.keep, ?_⟩
  obtain ⟨m₀, F1⟩ : ∃ m₀, Fr h₀ L h₁ m₀ := ⟨_, F1⟩
  clear F N
  have hlim : callerA.depth + 300 < recursionLimit := by simp only [depth_caller]; decide
  have hunits : callerA.units + 4000 < cLine := by decide +kernel
  refine wpAny_call (rows_does (G := ⟨topProg, _, _, mg, mb⟩) _ L h₀ m₀ _ _ _ hsc hI (om_63 hlen) ⟨⟨_, _, _, K, rfl, rfl, rfl⟩, X, T, rfl, C1, C2⟩ (by rw [depth_deeper]; exact lim2 hlim (by decide)) (by dsimp only [Around.deeper]; exact lim2 hunits (by decide)) F1 N1 ?_)
  intro tp r0 r1 v0 n0 v1 n1 h2 tk2 F2 N2 l1 l2 l3 hv0 hv1
  dsimp only
  iterate 16 walk1
  rename_i _ _ Rn _ lRn _ Tp _ lTp _ FA NA
  refine For_invV h₀ rfl rfl ?_
  iterate 1 walk1
  have l3a : @LT.lt Nat _ (L + 1 + 1) r0 := l3 _ (.head _)
  have l3b : @LT.lt Nat _ (L + 1) r0 := l3 _ (.tail _ (.head _))
  have l3c : @LT.lt Nat _ 50 r0 := l3 _ (.tail _ (.tail _ (.head _)))
  have l3d : @LT.lt Nat _ 71 r0 := l3 _ (.tail _ (.tail _ (.tail _ (.head _))))
  have l2a : @LT.lt Nat _ r0 r1 := l2.1
  have l1a : @LT.lt Nat _ r1 tp := l1.1
  clear l1 l2 l3
  have a1 : @LT.lt Nat _ L r0 := lt_two l3a
  have a2 : @LT.lt Nat _ L r1 := Nat.lt_trans a1 l2a
  have a3 : @LT.lt Nat _ L tp := Nat.lt_trans a2 l1a
  have a4 : @LT.lt Nat _ L Tp := Nat.lt_trans a3 lTp.2.1
  have NB : News h₀ L _ ((Tp, W.listOf (([] : List (Addr × Tr)).map fun t : Addr × Tr => Value.ref t.1).toArray 0) :: (tp, tupOf #[.ref r0, .ref r1]) :: ([(r1, W.listOf v1.toArray n1), (r0, W.listOf v0.toArray n0), (L + 1 + 1, o2), (L + 1, o1)] ++ St0.led Rn)) := News.sub NA (fa9 (by repeat (first | exact List.Mem.head _ | apply List.Mem.tail)) (by repeat (first | exact List.Mem.head _ | apply List.Mem.tail)) (by repeat (first | exact List.Mem.head _ | apply List.Mem.tail)) (by repeat (first | exact List.Mem.head _ | apply List.Mem.tail)) (by repeat (first | exact List.Mem.head _ | apply List.Mem.tail)) (by repeat (first | exact List.Mem.head _ | apply List.Mem.tail)) (by repeat (first | exact List.Mem.head _ | apply List.Mem.tail)) (by repeat (first | exact List.Mem.head _ | apply List.Mem.tail)) (by repeat (first | exact List.Mem.head _ | apply List.Mem.tail)))
  refine iter_tup (LawJ w Rn Tp tp (tupOf #[.ref r0, .ref r1]) ns [(r1, W.listOf v1.toArray n1), (r0, W.listOf v0.toArray n0), (L + 1 + 1, o2), (L + 1, o1)]) rfl FA NB (.tail _ (.head _)) (fun i m' nx h => by obtain ⟨S, ts, n, rfl, _⟩ := h; exact .tail _ (.head _)) ⟨St0, [], 0, rfl, rfl, St0.trees (Nat.ne_of_gt lRn.2.2.2.2.2.2) (Nat.ne_of_gt lRn.2.2.2.2.2.1), off_start l0 a4 (Nat.ne_of_gt lTp.1) a3 (Nat.ne_of_lt lRn.1) a2 (Nat.ne_of_lt lRn.2.1) a1 (Nat.ne_of_lt lRn.2.2.1) (Nat.lt_succ_of_lt (Nat.lt_succ_self L)) (Nat.ne_of_lt lRn.2.2.2.1) (Nat.lt_succ_self L) (Nat.ne_of_lt lRn.2.2.2.2.1), rfl, rfl, rfl⟩ ?_ ?_
  · rintro i v m₁ nx h3 tk3 I oI hv ⟨S, ts, n, rfl, hti, TS, O1, hw1, hw2, hw3⟩ hoff F4 N4
    subst hti
    have hS1 : S.its.size ≤ 168 * ts.length := by rw [TS.its]; exact szs_le ns _
    have hts : ts.length < 2 := by
      have := (Array.getElem?_eq_some_iff.mp hv).1
      exact this
    obtain ⟨l, vl, nl, rfl, hlm, hvl⟩ : ∃ l vl nl, v = .ref l ∧ (l, W.listOf vl.toArray nl) ∈ ([(r1, W.listOf v1.toArray n1), (r0, W.listOf v0.toArray n0), (L + 1 + 1, o2), (L + 1, o1)] : Led) ∧ StrsAre vl (rowW ts.length (xsOf ns)) := by
      rcases om_ts hts with h | h
      · rw [h] at hv ⊢; exact ⟨r0, v0, n0, (Option.some.inj hv).symm, .tail _ (.head _), hv0⟩
      · rw [h] at hv ⊢; exact ⟨r1, v1, n1, (Option.some.inj hv).symm, .head _, hv1⟩
    have hTm : ∀ p ∈ (tp, tupOf #[.ref r0, .ref r1]) :: ([(r1, W.listOf v1.toArray n1), (r0, W.listOf v0.toArray n0), (L + 1 + 1, o2), (L + 1, o1)] : Led), p.1 ≠ Tp := fa5 (Nat.ne_of_lt lTp.2.1) (Nat.ne_of_lt lTp.2.2.1) (Nat.ne_of_lt lTp.2.2.2.1) (Nat.ne_of_lt lTp.2.2.2.2.1) (Nat.ne_of_lt lTp.2.2.2.2.2.1)
    generalize hmine : ([(r1, W.listOf v1.toArray n1), (r0, W.listOf v0.toArray n0), (L + 1 + 1, o2), (L + 1, o1)] : Led) = mine at *
    clear hv hv0 hv1 left2 right2 NA NB FA lRn lTp l1a l2a l3a l3b l3c l3d a1 a2 a3 a4
    iterate 15 walk1
    have hOI : Off ((I, oI) :: (Tp, W.listOf (ts.map fun t : Addr × Tr => Value.ref t.1).toArray n) :: (tp, tupOf #[.ref r0, .ref r1]) :: mine) (S.led Rn) := fun p hp q hq => by
      rcases List.mem_cons.mp hp with rfl | hp
      · exact (hoff q (.tail _ (.tail _ (List.mem_append_right _ hq)))).symm
      · exact O1 p hp q hq
    refine ⟨X.keeps F4.keep, wpAny_call (grown_does (G := ⟨topProg, _, _, mg, mb⟩) (mine := (I, oI) :: (Tp, _) :: (tp, _) :: mine) TS.ok (om_a1 hS1 hts) (strAre_of hvl) (rowW_words _ _) (Nat.le_trans (rowW_len11 ts.length ns) (by decide)) _ L h₀ _ _ _ ⟨⟨_, _, _, K, rfl, rfl, rfl⟩, X, T, rfl, C1, C2⟩ (by rw [depth_deeper]; exact lim2 hlim (by decide)) (by dsimp only [Around.deeper]; exact lim2 hunits (by decide)) F4 N4 hOI (.tail _ (.tail _ (.tail _ hlm))) ?_)⟩
    intro y S' T' h4 tk4 F5 N5 O5 G5
    dsimp only
    walk1
    have N5' : News h₀ L h4 ((Tp, W.listOf (ts.map fun t : Addr × Tr => Value.ref t.1).toArray n) :: (I, oI) :: (tp, tupOf #[.ref r0, .ref r1]) :: (mine ++ S'.led Rn)) := News.sub N5 fun p hp => by
      rcases List.mem_cons.mp hp with rfl | hp
      · exact .tail _ (.head _)
      rcases List.mem_cons.mp hp with rfl | hp
      · exact .head _
      exact .tail _ (.tail _ hp)
    refine app_head F5 N5' ?_ (by rw [List.length_map]; exact om_t1 hts) ?_
    · intro p hp
      rcases List.mem_cons.mp hp with rfl | hp
      · exact (hoff _ (.head _)).symm
      rcases List.mem_cons.mp hp with rfl | hp
      · exact hTm _ (.head _)
      rcases List.mem_append.mp hp with hp | hp
      · exact hTm p (.tail _ hp)
      · exact (O5 (Tp, _) (.tail _ (.head _)) p hp).symm
    intro h5 F6 N6
    iterate 14 walk1
    refine idx_last (News.isList N6 (.head _)) (by rw [List.length_map]; exact om_t1 hts) ?_
    walk1
    have hdl := domOf_len56 ts.length ns
    have hO6 : Off ((I, oI) :: (Tp, W.listOf ((ts.map fun t : Addr × Tr => Value.ref t.1) ++ [Value.ref y]).toArray (n + 1)) :: (tp, tupOf #[.ref r0, .ref r1]) :: mine) (S'.led Rn) := fun p hp q hq => by
      rcases List.mem_cons.mp hp with rfl | hp
      · exact O5 _ (.head _) q hq
      rcases List.mem_cons.mp hp with rfl | hp
      · exact O5 (Tp, W.listOf (ts.map fun t : Addr × Tr => Value.ref t.1).toArray n) (.tail _ (.head _)) q hq
      exact O5 p (.tail _ (.tail _ hp)) q hq
    refine ⟨X.keeps F6.keep, wpAny_call (frozen_does (G := ⟨topProg, _, _, mg, mb⟩) (domOf_dlen (rowW_words ts.length (xsOf ns))) 6 [] y S' _ rfl G5.ok G5.lay G5.rt (fun _ _ _ => rfl) (by rw [cnt_nil, G5.its]; exact om_a2 hS1 hts hdl) _ L h₀ _ ((I, oI) :: (Tp, W.listOf ((ts.map fun t : Addr × Tr => Value.ref t.1) ++ [Value.ref y]).toArray (n + 1)) :: (tp, tupOf #[.ref r0, .ref r1]) :: mine) _ _ ⟨⟨_, _, _, K, rfl, rfl, rfl⟩, X, T, rfl, C1, C2⟩ (by rw [depth_deeper]; exact lim3 hlim (by decide)) (by dsimp only [Around.deeper]; exact lim3 hunits (by decide)) F6 (News.sub N6 fun p hp => ?_) hO6 ?_)⟩
    · rcases List.mem_cons.mp hp with rfl | hp
      · exact .tail _ (.head _)
      rcases List.mem_cons.mp hp with rfl | hp
      · exact .head _
      exact .tail _ (.tail _ hp)
    intro S2 h7 tk7 F7 N7 O7 Z7
    dsimp only
    k_steps
    refine (show TurnEnd _ _ _ _ _ _ _ from ⟨_, _, _, (Tp, W.listOf ((ts.map fun t : Addr × Tr => Value.ref t.1) ++ [Value.ref y]).toArray (n + 1)) :: (tp, tupOf #[.ref r0, .ref r1]) :: (mine ++ S2.led Rn), rfl, F7, News.sub N7 (fun p hp => ?_), fun p hp => ?_, S2, ts ++ [(y, T')], n + 1, by rw [List.map_append]; rfl, by rw [List.length_append]; rfl, TS.next G5 Z7, ?_, by with_unfolding_all exact hw1, by with_unfolding_all exact hw2, by with_unfolding_all exact hw3⟩)
    · exact hp
    · rcases List.mem_cons.mp hp with rfl | hp
      · exact hoff (Tp, W.listOf (ts.map fun t : Addr × Tr => Value.ref t.1).toArray n) (.head _)
      rcases List.mem_cons.mp hp with rfl | hp
      · exact hoff _ (.tail _ (.head _))
      rcases List.mem_append.mp hp with hp | hp
      · exact hoff _ (.tail _ (.tail _ (List.mem_append_left _ hp)))
      · exact (O7 _ (.head _) p hp).symm
    · intro p hp q hq
      refine O7 p (.tail _ ?_) q hq
      rw [List.map_append] at hp
      exact hp
  · rintro m₁ nx h3 tk3 ⟨S, ts, n, rfl, hti, TS, O1, hw1, hw2, hw3⟩ F4 N4
    match ts, hti with
    | [(y0, T0), (y1, T1)], _ =>
    obtain ⟨rt0, lay0⟩ := TS.lay 0 _ rfl
    obtain ⟨rt1, lay1⟩ := TS.lay 1 _ rfl
    have hits : S.its.size = 0 + 3 * (domOf (rowW 0 (xsOf ns))).length + 3 * (domOf (rowW 1 (xsOf ns))).length := TS.its
    have hok := TS.ok
    have hne0 := rowW_ne ns (s := 0) (.inl rfl)
    have hne1 := rowW_ne ns (s := 1) (.inr rfl)
    have hn0 := rowW_len11 0 ns
    have hn1 := rowW_len11 1 ns
    have h560 := domOf_len56 0 ns
    have h561 := domOf_len56 1 ns
    have hW0 := rowW_words 0 (xsOf ns)
    have hW1 := rowW_words 1 (xsOf ns)
    generalize hu0 : rowW 0 (xsOf ns) = us0 at *
    generalize hu1 : rowW 1 (xsOf ns) = us1 at *
    have hdl0 := domOf_dlen hW0
    have hdl1 := domOf_dlen hW1
    have CC : LCtx w ⟨topProg, _, _, mg, mb⟩ h₀ := ⟨K, X, T, C1, C2⟩
    have hc0 : ∀ p ∈ ((Tp, W.listOf #[.ref y0, .ref y1] n) :: (tp, tupOf #[.ref r0, .ref r1]) :: (r1, W.listOf v1.toArray n1) :: (r0, W.listOf v0.toArray n0) :: [] : Led), p.1 ≠ L + 1 ∧ p.1 ≠ L + 1 + 1 := fa4 (two_ne (lt2 (lt2 l3a l2a) (Nat.lt_trans l1a lTp.2.1))) (two_ne (lt2 (lt2 l3a l2a) l1a)) (two_ne (lt2 l3a l2a)) (two_ne l3a)
    have N4' : News h₀ L h3 ((Tp, W.listOf #[.ref y0, .ref y1] n) :: (tp, tupOf #[.ref r0, .ref r1]) :: (r1, W.listOf v1.toArray n1) :: (r0, W.listOf v0.toArray n0) :: (L + 1 + 1, o2) :: (L + 1, o1) :: S.led Rn) := N4
    have O1' : Off ((Tp, W.listOf #[.ref y0, .ref y1] n) :: (tp, tupOf #[.ref r0, .ref r1]) :: (r1, W.listOf v1.toArray n1) :: (r0, W.listOf v0.toArray n0) :: (L + 1 + 1, o2) :: (L + 1, o1) :: []) (S.led Rn) := O1
    refine law_p4 (o1 := o1) (o2 := o2) (mine := (Tp, W.listOf #[.ref y0, .ref y1] n) :: (tp, tupOf #[.ref r0, .ref r1]) :: (r1, W.listOf v1.toArray n1) :: (r0, W.listOf v0.toArray n0) :: []) CC hdl0 hdl1 hok rt0 rt1 lay0 lay1 hw1 F4 (News.sub N4' (mem_lift2)) (off_sub O1' mem_lift2') (.head _) hc0 ?_
    intro RD R0 R1 w0 w1 k0 k1 h4 tk4 F5 N5 O5 hc5 sA sB
    refine law_p5 (mine := (RD, lst [.ref R0, .ref R1]) :: (R1, W.listOf w1.toArray k1) :: (R0, W.listOf w0.toArray k0) :: (Tp, W.listOf #[.ref y0, .ref y1] n) :: (tp, tupOf #[.ref r0, .ref r1]) :: (r1, W.listOf v1.toArray n1) :: (r0, W.listOf v0.toArray n0) :: []) CC hW0 hW1 hn0 hn1 hv0 hv1 left2 right2 (by with_unfolding_all exact hw3) F5 N5 O5 (by repeat (first | exact List.Mem.head _ | apply List.Mem.tail)) (by repeat (first | exact List.Mem.head _ | apply List.Mem.tail)) (by repeat (first | exact List.Mem.head _ | apply List.Mem.tail)) hc5 ?_
    intro c1 c2 f1 f2 x1 x2 i1 i2 first second h6 tk6 F6 N6 O6 d1 d2 s2 s3 rs1 rs2 ms1 ms2
    rw [read_eq hW0 rs1 ms1] at sA
    rw [read_eq hW1 rs2 ms2] at sB
    have wf := words_of hW0 ms1
    have ws := words_of hW1 ms2
    have lf := first_len rs1 hn0 ms1
    have ls := first_len rs2 hn1 ms2
    refine law_p6 (mine := ((f2, W.listOf x2.toArray i2) :: (f1, W.listOf x1.toArray i1) :: (RD, lst [.ref R0, .ref R1]) :: (R1, W.listOf w1.toArray k1) :: (R0, W.listOf w0.toArray k0) :: (Tp, W.listOf #[.ref y0, .ref y1] n) :: (tp, tupOf #[.ref r0, .ref r1]) :: (r1, W.listOf v1.toArray n1) :: (r0, W.listOf v0.toArray n0) :: []) ++ S.led Rn) CC wf ws d1 d2 (by with_unfolding_all rfl) F6 N6 (by repeat (first | exact List.Mem.head _ | apply List.Mem.tail)) (by repeat (first | exact List.Mem.head _ | apply List.Mem.tail)) (by repeat (first | exact List.Mem.head _ | apply List.Mem.tail)) (by repeat (first | exact List.Mem.head _ | apply List.Mem.tail)) (by repeat (first | exact List.Mem.head _ | apply List.Mem.tail)) sA sB s2 s3 ?_
    intro h7 tk7 F7 N7
    refine law_p7 (mine := ((f2, W.listOf x2.toArray i2) :: (f1, W.listOf x1.toArray i1) :: (RD, lst [.ref R0, .ref R1]) :: (R1, W.listOf w1.toArray k1) :: (R0, W.listOf w0.toArray k0) :: (Tp, W.listOf #[.ref y0, .ref y1] n) :: (tp, tupOf #[.ref r0, .ref r1]) :: (r1, W.listOf v1.toArray n1) :: (r0, W.listOf v0.toArray n0) :: []) ++ S.led Rn) CC wf ws (Nat.le_trans lf (by decide)) (Nat.le_trans ls (by decide)) d1 d2 F7 N7 (by repeat (first | exact List.Mem.head _ | apply List.Mem.tail)) (by repeat (first | exact List.Mem.head _ | apply List.Mem.tail)) s2 s3 ?_
    intro td Da Db ya yb h8 tk8 F8 N8 n8 sa sb
    refine law_p8 (mine := ((L + 1 + 1, c2) :: (L + 1, c1) :: (td, tupOf #[.ref Da, .ref Db]) :: (Db, lst yb) :: (Da, lst ya) :: (f2, W.listOf x2.toArray i2) :: (f1, W.listOf x1.toArray i1) :: (RD, lst [.ref R0, .ref R1]) :: (R1, W.listOf w1.toArray k1) :: (R0, W.listOf w0.toArray k0) :: (Tp, W.listOf #[.ref y0, .ref y1] n) :: (tp, tupOf #[.ref r0, .ref r1]) :: (r1, W.listOf v1.toArray n1) :: (r0, W.listOf v0.toArray n0) :: []) ++ S.led Rn) CC wf ws (Nat.le_trans lf (by decide)) (Nat.le_trans ls (by decide)) rs1 rs2 (by with_unfolding_all rfl) (by with_unfolding_all rfl) F8 N8 (by repeat (first | exact List.Mem.head _ | apply List.Mem.tail)) (by repeat (first | exact List.Mem.head _ | apply List.Mem.tail)) (by repeat (first | exact List.Mem.head _ | apply List.Mem.tail)) (by repeat (first | exact List.Mem.head _ | apply List.Mem.tail)) (by repeat (first | exact List.Mem.head _ | apply List.Mem.tail)) (by repeat (first | exact List.Mem.head _ | apply List.Mem.tail)) sA sB sa sb ?_
    intro h9 tk9 F9 N9
    refine law_p9 (mine := (L + 1 + 1, c2) :: (L + 1, c1) :: (td, tupOf #[.ref Da, .ref Db]) :: (Db, lst yb) :: (Da, lst ya) :: (f2, W.listOf x2.toArray i2) :: (f1, W.listOf x1.toArray i1) :: (RD, lst [.ref R0, .ref R1]) :: (R1, W.listOf w1.toArray k1) :: (R0, W.listOf w0.toArray k0) :: (Tp, W.listOf #[.ref y0, .ref y1] n) :: (tp, tupOf #[.ref r0, .ref r1]) :: (r1, W.listOf v1.toArray n1) :: (r0, W.listOf v0.toArray n0) :: []) CC hW0 hW1 wf ws rs1 rs2 ms1 ms2 hok (om_a3 h560 h561 hits) rt0 rt1 lay0 lay1 (by with_unfolding_all exact hw1) (by with_unfolding_all rfl) F9 N9 (off3_new n8 O6) (by repeat (first | exact List.Mem.head _ | apply List.Mem.tail)) (by repeat (first | exact List.Mem.head _ | apply List.Mem.tail)) (by repeat (first | exact List.Mem.head _ | apply List.Mem.tail)) (by repeat (first | exact List.Mem.head _ | apply List.Mem.tail)) sa sb ?_
    intro S2 h10 tk10 F10 N10 O10 ok2 lay0' lay1' hits2
    refine law_p10 (mine := ((td, tupOf #[.ref Da, .ref Db]) :: (Db, lst yb) :: (Da, lst ya) :: (f2, W.listOf x2.toArray i2) :: (f1, W.listOf x1.toArray i1) :: (RD, lst [.ref R0, .ref R1]) :: (R1, W.listOf w1.toArray k1) :: (R0, W.listOf w0.toArray k0) :: (Tp, W.listOf #[.ref y0, .ref y1] n) :: (tp, tupOf #[.ref r0, .ref r1]) :: (r1, W.listOf v1.toArray n1) :: (r0, W.listOf v0.toArray n0) :: []) ++ S2.led Rn) CC hW0 hW1 lf ls ms1 ms2 d1 d2 F10 N10 (by repeat (first | exact List.Mem.head _ | apply List.Mem.tail)) (by repeat (first | exact List.Mem.head _ | apply List.Mem.tail)) s2 s3 ?_
    intro Dh Q0 Q1 u0 u1 j0 j1 H0 H1 h11 tk11 F11 N11 n11 t0 t1 hd0 hd1
    have hc0' := cnt_eq hne0 rs1 ms1 hd0
    have hc1' := cnt_eq hne1 rs2 ms2 hd1
    have hl0 : H0.length ≤ 100 := by rw [cnt_nil] at hc0'; exact om_a4 h560 hc0'
    have hl1 : H1.length ≤ 100 := by rw [cnt_nil] at hc1'; exact om_a4 h561 hc1'
    refine law_p11 (mine := ((Dh, W.listOf #[.ref Q0, .ref Q1] 2) :: (Q1, W.listOf u1.toArray j1) :: (Q0, W.listOf u0.toArray j0) :: (td, tupOf #[.ref Da, .ref Db]) :: (Db, lst yb) :: (Da, lst ya) :: (f2, W.listOf x2.toArray i2) :: (f1, W.listOf x1.toArray i1) :: (RD, lst [.ref R0, .ref R1]) :: (R1, W.listOf w1.toArray k1) :: (R0, W.listOf w0.toArray k0) :: (Tp, W.listOf #[.ref y0, .ref y1] n) :: (tp, tupOf #[.ref r0, .ref r1]) :: (r1, W.listOf v1.toArray n1) :: (r0, W.listOf v0.toArray n0) :: []) ++ S2.led Rn) CC (Nat.le_trans lf (by decide)) (Nat.le_trans ls (by decide)) hl0 hl1 d1 d2 (by with_unfolding_all rfl) F11 N11 (by repeat (first | exact List.Mem.head _ | apply List.Mem.tail)) (by repeat (first | exact List.Mem.head _ | apply List.Mem.tail)) (by repeat (first | exact List.Mem.head _ | apply List.Mem.tail)) (by repeat (first | exact List.Mem.head _ | apply List.Mem.tail)) (by repeat (first | exact List.Mem.head _ | apply List.Mem.tail)) t0 t1 s2 s3 ?_
    intro Dn ta tb h12 tk12 F12 N12 n12
    refine law_p12 (mine := (L + 1 + 1, c2) :: (L + 1, c1) :: (Dn, W.listOf #[.int ((H0.length : Int) + (first.length : Int)) ta, .int ((H1.length : Int) + (second.length : Int)) tb] 0) :: (Dh, W.listOf #[.ref Q0, .ref Q1] 2) :: (Q1, W.listOf u1.toArray j1) :: (Q0, W.listOf u0.toArray j0) :: (td, tupOf #[.ref Da, .ref Db]) :: (Db, lst yb) :: (Da, lst ya) :: (f2, W.listOf x2.toArray i2) :: (f1, W.listOf x1.toArray i1) :: (RD, lst [.ref R0, .ref R1]) :: (R1, W.listOf w1.toArray k1) :: (R0, W.listOf w0.toArray k0) :: (Tp, W.listOf #[.ref y0, .ref y1] n) :: (tp, tupOf #[.ref r0, .ref r1]) :: (r1, W.listOf v1.toArray n1) :: (r0, W.listOf v0.toArray n0) :: []) CC hdl0 hdl1 ok2 rt0 rt1 lay0' lay1' (by with_unfolding_all exact hw1) (by with_unfolding_all rfl) F12 N12 (off1_new n12 (off3_new n11 O10)) (by repeat (first | exact List.Mem.head _ | apply List.Mem.tail)) (by repeat (first | exact List.Mem.head _ | apply List.Mem.tail)) (by rw [hc0']; exact Int.natCast_add _ _) (by rw [hc1']; exact Int.natCast_add _ _) ?_
    intro h13 tk13 F13 N13
    have b1 := cB_heads hW0 hne0 hne1 hd0 hd1
    have b2 := cB_heads hW1 hne1 hne0 hd1 hd0
    have q1 : (H0.filter (lacks H1)).length ≤ H0.length := List.length_filter_le _ _
    have q2 : (H1.filter (lacks H0)).length ≤ H1.length := List.length_filter_le _ _
    rw [cnt_nil] at hc0' hc1'
    refine law_p13 (mine := (L + 1 + 1, c2) :: (L + 1, c1) :: (Dn, W.listOf #[.int ((H0.length : Int) + (first.length : Int)) ta, .int ((H1.length : Int) + (second.length : Int)) tb] 0) :: (Dh, W.listOf #[.ref Q0, .ref Q1] 2) :: (Q1, W.listOf u1.toArray j1) :: (Q0, W.listOf u0.toArray j0) :: (td, tupOf #[.ref Da, .ref Db]) :: (Db, lst yb) :: (Da, lst ya) :: (f2, W.listOf x2.toArray i2) :: (f1, W.listOf x1.toArray i1) :: (RD, lst [.ref R0, .ref R1]) :: (R1, W.listOf w1.toArray k1) :: (R0, W.listOf w0.toArray k0) :: (Tp, W.listOf #[.ref y0, .ref y1] n) :: (tp, tupOf #[.ref r0, .ref r1]) :: (r1, W.listOf v1.toArray n1) :: (r0, W.listOf v0.toArray n0) :: []) CC hl0 hl1 hd0.rise hd1.rise (om_a5 h560 h561 hits hits2 hc0' hc1' b1 b2 q1 q2) (by with_unfolding_all rfl) (by with_unfolding_all rfl) (by with_unfolding_all exact hw2) F13 N13 (by repeat (first | exact List.Mem.head _ | apply List.Mem.tail)) (by repeat (first | exact List.Mem.head _ | apply List.Mem.tail)) (by repeat (first | exact List.Mem.head _ | apply List.Mem.tail)) (by repeat (first | exact List.Mem.head _ | apply List.Mem.tail)) t0 t1 (om_a6 hits hits2 hc0' hc1' b1 b2) ?_
    intro m' h14 tk14 F14 N14
    refine ⟨⟨.inl ⟨.bool true, .bool true, [], rfl, fun _ => rfl, .bool true, ?_, fun _ => ⟨.nil, fun _ h => nomatch h⟩⟩, F14.keep, rfl, ?_⟩, ⟨_, (N14 (50, tabObj (tab50 S2.tc)) (List.mem_append_right _ (.tail _ (.head _)))).1⟩, ⟨_, (N14 (71, tabObj (tab71 S2.tb)) (List.mem_append_right _ (.head _))).1⟩, trivial⟩
    · wrow_post
    · assumption)
end Mine
end

section
open PySem PySem.W PyProof.Rows
theorem Mine.clrLawA (prog : Program) (w : World) (A : Around) (env : Env) (pos : Pos) (s : Shared) : True := by
  w_top off
  first
  | (have : wpAny (model prog w) A (PySem.eval (.Constant (.int 0) 0 pos) env) (fun _ _ => True) (fun _ _ => True) s := by (walk1; fail "x")); trivial
  | trivial
end

theorem PySem.Challenge.cw_in0102_01_holds : PySem.Challenge.rw_in0102_01.Holds :=
  Mine.law_walk
