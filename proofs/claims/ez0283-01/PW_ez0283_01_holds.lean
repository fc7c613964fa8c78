import PyProof.Rows.All
import Wide.All
import OpenK.AllK
import Wide.FinOn
import Lean
import PySem.Challenge.RW_ez0283_01
set_option Elab.async false
section
open PySem PySem.W PyProof.Rows
namespace Mine
set_option maxRecDepth 100000 in
set_option maxHeartbeats 8000000 in
open_top hd for PySem.Challenge.rw_ez0283_01
end Mine
end
section
open PySem PySem.W PyProof.Rows PySem.Calls
namespace Mine
noncomputable abbrev PG : Program := OpenLaw.prog PySem.Challenge.rw_ez0283_01
noncomputable abbrev VW : Program := Mine.hd.view_39
noncomputable abbrev LO : List Str := looseW Mine.hd.view_39 [Str.ofString "NMEASentence", Str.ofString "WPL", Str.ofString "DTM", Str.ofString "_law_starts"]
abbrev Led := List (Addr × Obj)
/-- the head's own way of walking is left -/
theorem walk_off : True := by
  w_top off
  trivial
theorem fillit (P : Prop) : (fun (_ : OpenLaw) (_ : Params → Frag) => P) PySem.Challenge.rw_ez0283_01 Mine.hd.heap_39 → P := fun h => h

/-- what every call's proof is given: the frames below, the caller's frame, the written part, the ledger, the top -/
abbrev CallP (w : World) (mean : ExcName → Option Value) (mg mb : Str → Option Value) (dp un : Nat) (cs : Scope) (outer : List Env) (A₀ : Around) (base h₀ : Heap) (L : Addr) (m : Str → Option Value) (news : Led) (s : Shared) (k : Nat) (P : Prop) : Prop :=
  Below A₀ base outer h₀ → Fr h₀ L s.heap m → Frag.In (Mine.hd.heap_39 w.params) h₀ → News h₀ L s.heap news → Top VW LO mean mg mb h₀ → cs.kind = .function →
  dp + 4 * k < recursionLimit → un + 40 * k < cLine → P

/-- a contract of a call that makes, and turns nothing -/
abbrev Ct (w : World) (f : Addr) (k : Nat) (pre : Led → Prop) (vs : List Value) (post : Led → Led → Value → Prop) : Prop :=
  ∀ (mean : ExcName → Option Value) (mg mb : Str → Option Value) (dp un : Nat) (gd : Option (List Code)) (cn : Str) (cs : Scope) (a : Addr) (ccd : Value) (cl : List (Str × Addr)) (outer : List Env) (A₀ : Around) (base h₀ : Heap) (L : Addr) (m : Str → Option Value) (news : Led) (s : Shared) (Q E : Value → Shared → Prop),
  CallP w mean mg mb dp un cs outer A₀ base h₀ L m news s k (pre news →
    (∀ h' tk' new v, Fr h₀ L h' m → News h₀ L h' (new ++ news) → (∀ p ∈ new, AllLt p.1 news) → post new news v → Q v { s with heap := h', toks := tk' }) →
    codeAny (model PG w) (ktrTop dp un gd cn cs L a ccd cl outer) (.call (.ref f) ⟨vs, []⟩) (fun r s' => match r with | .ok (.ret v) => Q v s' | .ok _ => False | .error e => E e s') s)
theorem ct_use {w : World} {f : Addr} {k : Nat} {pre : Led → Prop} {vs : List Value} {post : Led → Led → Value → Prop} (C : Ct w f k pre vs post)
    {mean : ExcName → Option Value} {mg mb : Str → Option Value} {dp un : Nat} {gd : Option (List Code)} {cn : Str} {cs : Scope} {a : Addr} {ccd : Value} {cl : List (Str × Addr)} {outer : List Env} {A₀ : Around} {base h₀ : Heap} {L : Addr} {m : Str → Option Value} {news : Led} {s : Shared} {Q E : Value → Shared → Prop}
    (B : Below A₀ base outer h₀) (F : Fr h₀ L s.heap m) (X : Frag.In (Mine.hd.heap_39 w.params) h₀) (N : News h₀ L s.heap news) (T : Top VW LO mean mg mb h₀) (hk : cs.kind = .function)
    (hd : dp + 4 * k < recursionLimit) (hu : un + 40 * k < cLine) (hp : pre news)
    (ret : ∀ h' tk' new v, Fr h₀ L h' m → News h₀ L h' (new ++ news) → (∀ p ∈ new, AllLt p.1 news) → post new news v → Q v { s with heap := h', toks := tk' }) :
    codeAny (model PG w) (ktrTop dp un gd cn cs L a ccd cl outer) (.call (.ref f) ⟨vs, []⟩) (fun r s' => match r with | .ok (.ret v) => Q v s' | .ok _ => False | .error e => E e s') s :=
  C _ _ _ _ _ _ _ _ _ _ _ _ _ _ _ _ _ _ _ _ _ B F X N T hk hd hu hp ret
end Mine
end
section
open PySem PySem.W PyProof.Rows PySem.Calls
namespace Mine
set_option maxRecDepth 100000
set_option maxHeartbeats 4000000

namespace FF
theorem slot_map_init : Slot "map" "__init__" "object.__init__" :=
  .of (owner := "object") (n := "__init__") (by rw [typeLookup_type, builtinLookup_eq_fast]; kernel_rfl) (by decide +kernel) (by decide +kernel) (by decide +kernel)
    (by first | exact .inl (by decide +kernel) | exact .inr (by decide +kernel)) (by rw [isSubtype_type]; kernel_rfl)
theorem slot_map_next : Slot "map" "__next__" "map.__next__" :=
  .of (owner := "map") (n := "__next__") (by rw [typeLookup_type, builtinLookup_eq_fast]; kernel_rfl) (by decide +kernel) (by decide +kernel) (by decide +kernel)
    (by first | exact .inl (by decide +kernel) | exact .inr (by decide +kernel)) (by rw [isSubtype_type]; kernel_rfl)
theorem slot_map_iter : Slot "map" "__iter__" "map.__iter__" :=
  .of (owner := "map") (n := "__iter__") (by rw [typeLookup_type, builtinLookup_eq_fast]; kernel_rfl) (by decide +kernel) (by decide +kernel) (by decide +kernel)
    (by first | exact .inl (by decide +kernel) | exact .inr (by decide +kernel)) (by rw [isSubtype_type]; kernel_rfl)
theorem mro_map : mroOf (.type "map") = pure [.type "map", .type "object"] := by rw [mroOf_type]; kernel_rfl
theorem lookup_map_new : typeLookup (.type "map") "__new__" = pure (some (.builtin "map.__new__")) := by rw [typeLookup_type, builtinLookup_eq_fast]; kernel_rfl
theorem called_map : TypeCalled "map" "map.__new__" "object.__init__" :=
  ⟨by decide +kernel, by decide +kernel, ⟨_, _, mro_map⟩, madeBy_type mro_map lookup_map_new (by decide +kernel), by decide +kernel, by rw [isSubtype_type]; kernel_rfl, slot_map_init⟩
theorem typeCall_map_2 (a b : Value) : checkTypeCall "map" ⟨[a, b], []⟩ = pure () := by kernel_rfl
theorem newCall_map_2 (a b : Value) : checkBuiltinCall "map.__new__" ⟨[.type "map", a, b], []⟩ = pure () := by kernel_rfl
theorem entry_map_new : entryFor table "map.__new__" = some Builtin.«map.__new__» := entryFor_of_tree (by kernel_rfl)
theorem entry_map_next : entryFor table "map.__next__" = some Builtin.«map.__next__» := entryFor_of_tree (by kernel_rfl)
theorem args_map_next_1 (a : Value) : argsOk "map.__next__" ⟨[a], []⟩ := by unfold argsOk; kernel_rfl
theorem args_map_iter_1 (a : Value) : argsOk "map.__iter__" ⟨[a], []⟩ := by unfold argsOk; kernel_rfl
theorem entry_map_iter : entryFor table "map.__iter__" = some Builtin.«dict_keyiterator.__iter__» :=
  entryFor_alias (id' := "dict_keyiterator.__iter__") (by kernel_rfl) (by first | rfl | decide +kernel | (unfold String.splitOn; simp +decide [String.splitOnAux])) (by decide +kernel) (by kernel_rfl)
theorem sub_map : isSubtype (.type "map") (.type "map") = pure true := by rw [isSubtype_type]; kernel_rfl
theorem entry_reduce : entryFor table "_functools.reduce" = some Builtin.«_functools.reduce» := entryFor_of_tree (by kernel_rfl)
theorem entry_reduce_loop : entryFor table "_functools.reduce.loop" = some Builtin.«_functools.reduce.loop» := entryFor_of_tree (by kernel_rfl)
theorem entry_xor : entryFor table "_operator.xor" = some Builtin.«_operator.xor» := entryFor_of_tree (by kernel_rfl)
theorem kind_xor : builtinKind "_operator.xor" = none := by decide +kernel
theorem plain_xor : plainId "_operator.xor" = true := by decide +kernel
theorem args_xor (a b : Value) : argsOk "_operator.xor" ⟨[a, b], []⟩ := by unfold argsOk; kernel_rfl
theorem kind_reduce : builtinKind "_functools.reduce" = none := by decide +kernel
theorem plain_reduce : plainId "_functools.reduce" = true := by decide +kernel
theorem check_reduce (a b c : Value) : checkBuiltinCall "_functools.reduce" ⟨[a, b, c], []⟩ = pure () := by kernel_rfl
theorem plain_reduce_loop : plainId "_functools.reduce.loop" = true := by decide +kernel
end FF
section
variable {prog : Program} {w : World} {A : Around} {E : Value → Shared → Prop} {s : Shared}
theorem op_xor {a b : Int} {t u : Tok} {Q : Value → Shared → Prop} (h : Q (.int (Builtin.bitXor a b) s.toks) { s with toks := s.toks + 1 }) :
    wpAny (model prog w) A (call (.builtin "_operator.xor") [.int a t, .int b u]) Q E s := by
  refine Calls.call_function_entry FF.kind_xor FF.plain_xor FF.entry_xor (FF.args_xor _ _) ?_
  show wpAny _ _ (binaryOp .BitXor (.int a t) (.int b u) >>= fun v => ret v) _ _ _
  exact wpAny_bind (xor_int (wpAny_pure ⟨_, rfl, h⟩))

abbrev mapH (h : Heap) (x : Str) (t : Tok) : Heap := ((h.push { cls := .type "str_ascii_iterator", data := .fields #[.str x t, .int 0 0] }).push { cls := .type "tuple", data := .seq #[.ref h.objs.size] }).push
  { cls := .type "map", data := .fields #[.ref (h.objs.size + 1), .builtin "ord"] }
theorem meets_map_new (x : Str) (t : Tok) (ha : x.cps.all (· < 128) = true) :
    Meets (Builtin.«map.__new__» ⟨[.type "map", .builtin "ord", .str x t], []⟩) (fun _ R s =>
      R (.ok (.ret (.ref (s.heap.objs.size + 2)))) { s with heap := mapH s.heap x t }) :=
  .of_wp fun prog w A R s h => by
    obtain ⟨hp, g, d, tk, os⟩ := s
    have hsub := FF.sub_map
    wp_walk using wpAny_pyIter_ascii ha
    simp only [Heap.size_push]
    exact ⟨_, rfl, by simpa [Heap.size_push] using h⟩
end
end Mine
end
section
open PySem PySem.W PyProof.Rows PySem.Calls
namespace Mine
set_option maxRecDepth 100000
set_option maxHeartbeats 4000000
section
variable {prog : Program} {w : World} {A : Around} {E : Value → Shared → Prop} {s : Shared}

/-- a map of ord over a text's signs, the i-th next -/
structure IsMapOrd (h : Heap) (M T I : Addr) (x : Str) (t : Tok) (i : Nat) : Prop where
  hm : h.get? M = some { cls := .type "map", data := .fields #[.ref T, .builtin "ord"] }
  ht : h.get? T = some { cls := .type "tuple", data := .seq #[.ref I] }
  hi : h.IsStrIter I "str_ascii_iterator" x t i

theorem call_map_ord {x : Str} {t : Tok} {Q : Value → Shared → Prop} (ha : x.cps.all (· < 128) = true)
    (h : ∀ h' M T I, IsMapOrd h' M T I x t 0 → M ≠ I → T ≠ I → M < h'.objs.size → T < h'.objs.size → I < h'.objs.size → s.heap.objs.size ≤ M → s.heap.objs.size ≤ T → s.heap.objs.size ≤ I → (∀ b o, s.heap.get? b = some o → h'.get? b = some o) → Q (.ref M) { s with heap := h' }) :
    wpAny (model prog w) A (call (.type "map") [.builtin "ord", .str x t]) Q E s := by
  refine callType_new FF.called_map (by decide) (FF.typeCall_map_2 _ _) (FF.newCall_map_2 _ _) (fun obj => F.args_object_init_3 obj _ _) FF.entry_map_new
    (meets_map_new x t ha) ?_
  have z0 : (s.heap.push { cls := .type "str_ascii_iterator", data := .fields #[.str x t, .int 0 0] }).objs.size = s.heap.objs.size + 1 := Heap.size_push ..
  have z1 : ((s.heap.push { cls := .type "str_ascii_iterator", data := .fields #[.str x t, .int 0 0] }).push { cls := .type "tuple", data := .seq #[.ref s.heap.objs.size] }).objs.size = s.heap.objs.size + 2 := by rw [Heap.size_push, z0]
  have z2 : (mapH s.heap x t).objs.size = s.heap.objs.size + 3 := by rw [Heap.size_push, z1]
  have g3 : (mapH s.heap x t).get? (s.heap.objs.size + 2) = some { cls := .type "map", data := .fields #[.ref (s.heap.objs.size + 1), .builtin "ord"] } := by
    have := Heap.get?_push_size ((s.heap.push { cls := .type "str_ascii_iterator", data := .fields #[.str x t, .int 0 0] }).push { cls := .type "tuple", data := .seq #[.ref s.heap.objs.size] }) (o := { cls := .type "map", data := .fields #[.ref (s.heap.objs.size + 1), .builtin "ord"] }) rfl
    rw [z1] at this; exact this
  have g2 : (mapH s.heap x t).get? (s.heap.objs.size + 1) = some { cls := .type "tuple", data := .seq #[.ref s.heap.objs.size] } := by
    have := Heap.get?_push_size (s.heap.push { cls := .type "str_ascii_iterator", data := .fields #[.str x t, .int 0 0] }) (o := { cls := .type "tuple", data := .seq #[.ref s.heap.objs.size] }) rfl
    rw [z0] at this; exact Heap.get?_push_of_some _ this
  have g1 : (mapH s.heap x t).get? s.heap.objs.size = some { cls := .type "str_ascii_iterator", data := .fields #[.str x t, .int 0 0] } := Heap.get?_push_of_some _ (Heap.get?_push_of_some _ (Heap.get?_push_size _ rfl))
  have l2 : @LT.lt Nat _ (s.heap.objs.size + 2) (mapH s.heap x t).objs.size := by rw [z2]; omega
  have l1 : @LT.lt Nat _ (s.heap.objs.size + 1) (mapH s.heap x t).objs.size := by rw [z2]; omega
  have l0 : @LT.lt Nat _ s.heap.objs.size (mapH s.heap x t).objs.size := by rw [z2]; omega
  exact ⟨⟨_, g3, rfl⟩, h (mapH s.heap x t) _ _ _ ⟨g3, g2, _, g1, rfl, rfl⟩ (Nat.ne_of_gt (by omega)) (Nat.ne_of_gt (by omega)) l2 l1 l0 (Nat.le_add_right ..) (Nat.le_add_right ..) (Nat.le_refl _) fun b o x => Heap.get?_push_of_some _ (Heap.get?_push_of_some _ (Heap.get?_push_of_some _ x))⟩

theorem pyNext_map_item {M T I : Addr} {x : Str} {t : Tok} {i c : Nat} {Q : Option Value → Shared → Prop} (hh : IsMapOrd s.heap M T I x t i) (hMI : M ≠ I) (hTI : T ≠ I) (hx : x.cps[i]? = some c)
    (hQ : ∀ h' tk k, IsMapOrd h' M T I x t (i + 1) → Heap.SameBut I s.heap h' → Q (some (.int c k)) { s with heap := h', toks := tk }) :
    wpAny (model prog w) A (pyNext (.ref M)) Q E s := by
  have hT : s.TypeIs (.ref M) "map" := ⟨_, hh.hm, rfl⟩
  unfold pyNext
  refine wpAny_bind (wpAny_attempt (wpAny_callSpecial?_slot (name := Str.ofString "__next__") hT FF.slot_map_next
    (wpAny_call_entry FF.slot_map_next hT FF.entry_map_next ?_ (FF.args_map_next_1 _))))
  show wpAny _ _ (field (.ref M) 0 >>= _) _ _ _
  refine wpAny_bind (wpAny_field hh.hm rfl (x := .ref T) rfl ?_)
  refine wpAny_bind (wpAny_seqItems hh.ht rfl ?_)
  simp only [List.forIn_toArray, List.forIn_cons, List.forIn_nil]
  refine wpAny_bind ?_
  refine wpAny_bind (wpAny_bind (wpAny_holding (wpAny_nextOf_ascii_item hh.hi hx fun h' hi' hs' => ?_)))
  refine wpAny_pure (wpAny_pure ?_)
  have hm' : h'.get? M = some { cls := .type "map", data := .fields #[.ref T, .builtin "ord"] } := (hs'.2 _ hMI).trans hh.hm
  refine wpAny_bind (wpAny_field hm' rfl (x := .builtin "ord") rfl ?_)
  refine wpAny_bind (wpAny_holding ?_)
  refine P.ord_of_char ?_
  refine wpAny_bind (wpAny_letGo ?_)
  refine wpAny_pure ⟨_, rfl, wpAny_pure ?_⟩
  exact hQ h' _ _ ⟨hm', (hs'.2 _ hTI).trans hh.ht, hi'⟩ hs'

theorem pyNext_map_end {M T I : Addr} {x : Str} {t : Tok} {i : Nat} {Q : Option Value → Shared → Prop} (ha : A.handled = none) (hh : IsMapOrd s.heap M T I x t i) (hx : x.cps[i]? = none)
    (hQ : ∀ h', Heap.ExtBut I s.heap h' → Q none { s with heap := h' }) :
    wpAny (model prog w) A (pyNext (.ref M)) Q E s := by
  have hT : s.TypeIs (.ref M) "map" := ⟨_, hh.hm, rfl⟩
  unfold pyNext
  refine wpAny_bind (wpAny_attempt (wpAny_callSpecial?_slot (name := Str.ofString "__next__") hT FF.slot_map_next
    (wpAny_call_entry FF.slot_map_next hT FF.entry_map_next ?_ (FF.args_map_next_1 _))))
  show wpAny _ _ (field (.ref M) 0 >>= _) _ _ _
  refine wpAny_bind (wpAny_field hh.hm rfl (x := .ref T) rfl ?_)
  refine wpAny_bind (wpAny_seqItems hh.ht rfl ?_)
  simp only [List.forIn_toArray, List.forIn_cons, List.forIn_nil]
  refine wpAny_bind ?_
  refine wpAny_bind (wpAny_bind (wpAny_holding (wpAny_nextOf_ascii_end (show A.in1.handled = none from ha) hh.hi hx fun h' e hs' he => ?_)))
  obtain ⟨o, ho, hc⟩ := he
  refine wpAny_bind (wpAny_isInstance (T := "StopIteration") (b := true) ⟨o, ho, hc⟩ isSubtype_stop ?_)
  exact wpAny_pure (hQ _ hs')

/-- the fold that reduce makes -/
def xfold (x : List Nat) (a : Int) : Int := x.foldl (fun r (c : Nat) => Builtin.bitXor r c) a

theorem reduce_loop {M T I P O : Addr} {x : Str} {t : Tok} {ao : Array Value} {R : Result → Shared → Prop} (ha : A.handled = none) (hMI : M ≠ I) (hTI : T ≠ I) (hMP : M ≠ P) (hTP : T ≠ P) (hIP : I ≠ P) (hOI : O ≠ I) (hOP : O ≠ P) :
    ∀ (n i : Nat) (a : Int) (u : Tok) (pv : Value × Value) (s : Shared), x.cps.size - i = n → i ≤ x.cps.size → IsMapOrd s.heap M T I x t i → s.heap.get? P = some { cls := .type "tuple", data := .seq #[pv.1, pv.2] } → s.heap.get? O = some { cls := .type "tuple", data := .seq #[.builtin "_operator.xor", ao.getD 0 .none, ao.getD 1 .none] } →
      (∀ h' tk k, (∀ b o, b ≠ I → b ≠ P → s.heap.get? b = some o → h'.get? b = some o) → R (.ok (.ret (.int (xfold (x.cps.toList.drop i) a) k))) { s with heap := h', toks := tk }) →
      codeAny (model prog w) A (.builtin "_functools.reduce.loop" ⟨[.ref P, .ref M, .ref O, .int a u], []⟩) R s := by
  intro n
  induction n with
  | zero =>
    intro i a u pv s hn hi hm hp ho hR
    have hx : x.cps[i]? = none := by rw [Array.getElem?_eq_none_iff]; omega
    have hd : x.cps.toList.drop i = [] := by rw [List.drop_eq_nil_iff]; simp; omega
    refine codeAny_builtin FF.entry_reduce_loop ?_
    rw [Around.under_plainId FF.plain_reduce_loop]
    show wpAny _ _ (seqItems? (.ref O) >>= _) _ _ _
    refine wpAny_bind (wpAny_seqItems ho rfl ?_)
    refine wpAny_bind (pyNext_map_end (show A.in1.handled = none from ha) hm hx fun h' hs => ?_)
    refine wpAny_pure ?_
    have := hR h' s.toks u (fun b o b1 _ e => hs b o b1 e)
    rw [hd] at this
    exact this
  | succ n ih =>
    intro i a u pv s hn hi hm hp ho hR
    have hlt : i < x.cps.size := by omega
    have hx : x.cps[i]? = some x.cps[i] := by simp [hlt]
    have hd : x.cps.toList.drop i = x.cps[i] :: x.cps.toList.drop (i + 1) := by rw [List.drop_eq_getElem_cons (by simpa using hlt)]; simp
    refine codeAny_builtin FF.entry_reduce_loop ?_
    rw [Around.under_plainId FF.plain_reduce_loop]
    show wpAny _ _ (seqItems? (.ref O) >>= _) _ _ _
    refine wpAny_bind (wpAny_seqItems ho rfl ?_)
    refine wpAny_bind (pyNext_map_item hm hMI hTI hx fun h₁ tk k hm₁ hs₁ => ?_)
    have hp₁ : h₁.get? P = some { cls := .type "tuple", data := .seq #[pv.1, pv.2] } := (hs₁.2 _ hIP.symm).trans hp
    refine wpAny_bind (wpAny_seqItems hp₁ rfl ?_)
    refine wpAny_bind (wpAny_updateSeq_pair hp₁ fun h₂ hp₂ hs₂ => ?_)
    refine wpAny_bind (wpAny_letGo ?_)
    have hp₂' : h₂.get? P = some { cls := .type "tuple", data := .seq #[.int a u, pv.2] } := hp₂
    refine wpAny_bind (wpAny_updateSeq_pair hp₂' fun h₃ hp₃ hs₃ => ?_)
    refine wpAny_bind (wpAny_letGo ?_)
    have hp₃' : h₃.get? P = some { cls := .type "tuple", data := .seq #[.int a u, .int x.cps[i] k] } := hp₃
    refine wpAny_bind (op_xor ?_)
    refine wpAny_pure ⟨plainId_quiet FF.plain_reduce_loop _, ?_⟩
    have k3 : ∀ b, b ≠ P → h₃.get? b = h₁.get? b := fun b hb => (hs₃.2 b hb).trans (hs₂.2 b hb)
    refine ih (i + 1) _ _ (.int a u, .int x.cps[i] k) _ (by omega) (by omega) ⟨(k3 _ hMP).trans hm₁.hm, (k3 _ hTP).trans hm₁.ht, ?_⟩ hp₃' ((k3 _ hOP).trans ((hs₁.2 _ hOI).trans ho)) ?_
    · obtain ⟨o, e, r⟩ := hm₁.hi
      exact ⟨o, (k3 _ hIP).trans e, r⟩
    · intro h' tk' k' hk
      have := hR h' tk' k' (fun b o b1 b2 e => hk b o b1 b2 ((k3 _ b2).trans ((hs₁.2 _ b1).trans e)))
      rw [hd] at this
      exact this

theorem wpAny_pyIter_map {M T I : Addr} {x : Str} {t : Tok} {i : Nat} {Q : Value → Shared → Prop} (hh : IsMapOrd s.heap M T I x t i) (h : Q (.ref M) s) : wpAny (model prog w) A (pyIter (.ref M)) Q E s := by
  have hT : s.TypeIs (.ref M) "map" := ⟨_, hh.hm, rfl⟩
  refine wpAny_pyIter_slot hT FF.slot_map_iter (wpAny_call_entry FF.slot_map_iter hT FF.entry_map_iter ?_ (FF.args_map_iter_1 _))
  show wpAny _ _ (ret (.ref M)) _ _ s
  exact wpAny_pure ⟨_, rfl, "map", _, hT, FF.slot_map_next.lookup, h⟩

theorem call_reduce {M T I : Addr} {x : Str} {t u : Tok} {a : Int} {Q : Value → Shared → Prop} (ha : A.handled = none) (hm : IsMapOrd s.heap M T I x t 0) (hMI : M ≠ I) (hTI : T ≠ I)
    (hQ : ∀ h' tk k, (∀ b o, b ≠ I → s.heap.get? b = some o → h'.get? b = some o) → Q (.int (xfold x.cps.toList a) k) { s with heap := h', toks := tk }) :
    wpAny (model prog w) A (call (.builtin "_functools.reduce") [.builtin "_operator.xor", .ref M, .int a u]) Q E s := by
  refine wpAny_call (codeAny_call_builtin FF.plain_reduce FF.entry_reduce ?_)
  refine wpAny_of_eq (FF.check_reduce _ _ _) ?_
  show wpAny _ _ (tryCatch (pyIter (.ref M)) _ >>= _) _ _ _
  refine wpAny_bind (wpAny_tryCatch (wpAny_pyIter_map hm ?_))
  refine wpAny_bind (wpAny_holding (wpAny_newTuple ?_))
  refine wpAny_bind (wpAny_holding (wpAny_newTuple ?_))
  refine wpAny_pure ⟨plainId_quiet FF.plain_reduce_loop _, ?_⟩
  have lM : M < s.heap.objs.size := Heap.lt_size hm.hm
  have lT : T < s.heap.objs.size := Heap.lt_size hm.ht
  have lI : I < s.heap.objs.size := by obtain ⟨o, e, _⟩ := hm.hi; exact Heap.lt_size e
  have z1 : (s.heap.push { cls := .type "tuple", data := .seq #[rawInt 0, rawInt 0] }).objs.size = s.heap.objs.size + 1 := Heap.size_push ..
  have up : ∀ b o, s.heap.get? b = some o → (((s.heap.push { cls := .type "tuple", data := .seq #[rawInt 0, rawInt 0] }).push { cls := .type "tuple", data := .seq #[.builtin "_operator.xor", .ref M, .int a u] }).get? b = some o) :=
    fun b o e => Heap.get?_push_of_some _ (Heap.get?_push_of_some _ e)
  refine reduce_loop (ao := #[.ref M, .int a u]) (M := M) (T := T) (I := I) (x := x) (t := t) ha hMI hTI (Nat.ne_of_lt lM) (Nat.ne_of_lt lT) (Nat.ne_of_lt lI) ?_ ?_ _ 0 a u (rawInt 0, rawInt 0) _ rfl (Nat.zero_le _) ⟨up _ _ hm.hm, up _ _ hm.ht, ?_⟩ ?_ ?_ ?_
  · simp only [z1]; exact Nat.ne_of_gt (Nat.lt_succ_of_lt lI)
  · simp only [z1]; exact Nat.ne_of_gt (Nat.lt_succ_self _)
  · obtain ⟨o, e, r⟩ := hm.hi; exact ⟨o, up _ _ e, r⟩
  · exact Heap.get?_push_of_some _ (Heap.get?_push_size _ rfl)
  · exact Heap.get?_push_size _ rfl
  · intro h' tk k hk
    rw [List.drop_zero]
    refine hQ h' tk k fun b o hb e => hk b o hb ?_ (up b o e)
    exact Nat.ne_of_lt (Heap.lt_size e)
end
end Mine
end
section
open PySem PySem.W PyProof.Rows PySem.Calls
namespace Mine
set_option maxRecDepth 100000
set_option maxHeartbeats 8000000
theorem fr_ext {h₀ h h' : Heap} {L : Addr} {m : Str → Option Value} (F : Fr h₀ L h m) (hk : ∀ b o, h.get? b = some o → h'.get? b = some o) : Fr h₀ L h' m :=
  ⟨F.ns.keeps hk, fun b o e => hk _ _ (F.keep b o e), F.above⟩
theorem news_ext {h₀ h h' : Heap} {L : Addr} {news : Led} (N : News h₀ L h news) (hk : ∀ b o, h.get? b = some o → h'.get? b = some o) : News h₀ L h' news :=
  fun p hp => ⟨hk _ _ (N p hp).1, (N p hp).2⟩
theorem fr_extB {h₀ h h' : Heap} {L I : Addr} {m : Str → Option Value} (F : Fr h₀ L h m) (hk : ∀ b o, b ≠ I → h.get? b = some o → h'.get? b = some o) (hL : L ≠ I) (h0 : h₀.get? I = none) : Fr h₀ L h' m := by
  refine ⟨?_, fun b o e => hk _ _ (fun q => by subst q; rw [h0] at e; cases e) (F.keep b o e), F.above⟩
  obtain ⟨o, a1, a2, e, a3⟩ := F.ns
  exact ⟨o, a1, a2, hk _ _ hL e, a3⟩
theorem news_extB {h₀ h h' : Heap} {L I : Addr} {news : Led} (N : News h₀ L h news) (hk : ∀ b o, b ≠ I → h.get? b = some o → h'.get? b = some o) (hn : ∀ p ∈ news, p.1 ≠ I) : News h₀ L h' news :=
  fun p hp => ⟨hk _ _ (hn p hp) (N p hp).1, (N p hp).2⟩
theorem news_drop {h₀ h : Heap} {L : Addr} {news news' : Led} (N : News h₀ L h news') (hs : ∀ p ∈ news, p ∈ news') : News h₀ L h news := fun p hp => N p (hs p hp)
/-- a new address: off the frame, off the base, off the ledger -/
theorem new_off {h₀ h : Heap} {L I : Addr} {m : Str → Option Value} {news : Led} (F : Fr h₀ L h m) (N : News h₀ L h news) (hI : h.objs.size ≤ I) : L ≠ I ∧ h₀.get? I = none ∧ ∀ p ∈ news, p.1 ≠ I := by
  refine ⟨Nat.ne_of_lt (Nat.lt_of_lt_of_le F.ns.lt hI), ?_, fun p hp => Nat.ne_of_lt (Nat.lt_of_lt_of_le (Heap.lt_size (N p hp).1) hI)⟩
  cases e : h₀.get? I with
  | none => rfl
  | some o => exact absurd (Heap.lt_size (F.keep _ _ e)) (Nat.not_lt.mpr hI)

theorem t_ck (w : World) (x : Str) (t : Tok) (ha : x.cps.all (· < 128) = true) : Ct w 106 3 (fun _ => True) [.str x t] (fun new _ v => new = [] ∧ ∃ k, v = .int (xfold x.cps.toList 0) k) := by
  refine fillit _ ?_
  k_fill
  show Ct _ _ _ _ _ _
  intro mean mg mb dp un gd cn cs a ccd cl outer A₀ base h₀ L m news s Q E B F X N T hk hd hu hpre hret
  k_dflt cell_enter
  k_steps
  rename Fr _ _ _ _ => kF
  rename News _ _ _ _ => kN
  refine call_map_ord ha ?_
  intro h1 M T1 I hm hMI hTI _ _ _ lM lT lI hk1
  obtain ⟨oL, o0, oN⟩ := new_off kF kN lI
  replace kF := fr_ext kF hk1
  replace kN := news_ext kN hk1
  k_steps
  refine call_reduce rfl hm hMI hTI ?_
  intro h2 tk2 k2 hk2
  replace kF := fr_extB kF hk2 oL o0
  replace kN := news_extB kN hk2 oN
  k_steps
  exact hret _ _ [] _ (by assumption) (by assumption) (by intro p hp; cases hp) ⟨rfl, _, rfl⟩
end Mine
end
section
open PySem PySem.W PyProof.Rows PySem.Calls Builtin Builtin.ObjectAttr
namespace Mine
set_option maxRecDepth 100000
set_option maxHeartbeats 4000000
section
variable {prog : Program} {w : World} {A : Around} {E : Value → Shared → Prop} {s : Shared} {K : Frag} {x C f hk L : Addr} {ox : Obj} {od : Obj} {name : Str} {expr : Bool} {h₀ : Heap} {m : Str → Option Value} {news : List (Addr × Obj)} {es : List DictEntry} {n : Nat} {Q : Value → Shared → Prop} {t : Tok}

/-- an own entry of the object, of a class that has a hook -/
theorem hk_own {v : Value} {attr : Option Value} (F : Fr h₀ L s.heap m) (X₀ : K.In h₀) (I : InstAt s.heap x ox C (some (dictOf es n))) (hga : findIn K (.ref C) "__getattribute__" = some (some (.builtin "object.__getattribute__"))) (hh : hasDictIn K C = true)
    (ha : findIn K (.ref C) name = some attr) (hn : noGet K attr = true) (hl : getL name es = some (some v)) (hv : handedIn v = true) (h : Q v { s with toks := s.toks + 1 }) :
    wpAny (model prog w) A (getAttr (.ref x) name expr) Q E s :=
  get_value (X₀.keeps F.keep) I hga (findObj_own hh ha hn (by show lookIn name (dictOf es n) = _; rw [lookIn_dict, hl])) hv h

theorem hk_bound (F : Fr h₀ L s.heap m) (X₀ : K.In h₀) (N : News h₀ L s.heap news) (I : InstAt s.heap x ox C (some (dictOf es n))) (hga : findIn K (.ref C) "__getattribute__" = some (some (.builtin "object.__getattribute__"))) (hhk : findIn K (.ref C) "__getattr__" = some (some (.ref hk)))
    (hh : hasDictIn K C = true) (ha : findIn K (.ref C) name = some (some (.ref f))) (hf : isFn K (.ref f) = true)
    (hgf : specialIn K (.ref f) "__get__" = some (some (.builtin "function.__get__"))) (ht : takesIn K (.ref f) = some false) (hc : copiedNames.contains name = false) (hl : getL name es = some none)
    (h : ∀ q h', Fr h₀ L h' m → News h₀ L h' ((q, methodObj (.ref f) (.ref x)) :: news) → (∀ p ∈ news, p.1 < q) → Q (.ref q) { s with heap := h', toks := s.toks + 1 }) : wpAny (model prog w) A (getAttr (.ref x) name expr) Q E s := by
  have X := X₀.keeps F.keep
  refine get_open X I hga ?_
  have hfo := findObj_fn hh ha hgf ht hc (by show lookIn name (dictOf es n) = _; rw [lookIn_dict, hl])
  have key : ∀ (A' : Around) (E' : Value → Shared → Prop), wpAny (model prog w) A' (call (.builtin "function.__get__") [.ref f, .ref x, .ref C]) (fun v s' => wpAny (model prog w) A (handedOut v) Q E s') E' { s with toks := s.toks + 1 } := fun A' E' =>
    wpAny_call (fn_get (s := { s with toks := s.toks + 1 }) X (beq_iff_eq.mp hf) (handed_on rfl (h s.heap.objs.size _ (F.push _) (N.push F _) fun p hp => Heap.lt_size (N p hp).1)))
  obtain ⟨hh', gg, d, t, os⟩ := s
  have L0 := I.type (M := model prog w)
  have L1 := looks_find (M := model prog w) X I hfo
  have L2 := looks_findIn (M := model prog w) X hhk
  refine wpAny_bind (wpAny_pure (wpAny_bind (L0.at (wpAny_bind (L1.at (wpAny_bind (L2.at ?_)))))))
  show wpAny _ _ (bindOrHook _ _ _ _ _ _) _ _ _
  unfold bindOrHook
  refine wpAny_bind (wpAny_attempt (wpAny_holding ?_))
  show wpAny _ _ (holding [_] (call _ [_, .ref x, .ref C]) >>= ret) _ _ _
  exact wpAny_bind (wpAny_holding (wpAny_mono (key _ _) (fun v s' z => wpAny_pure (wpAny_pure z)) fun _ _ z => z))

theorem hk_method {pl : Sem Bool} {Q : Value × List Value → Shared → Prop} (F : Fr h₀ L s.heap m) (X₀ : K.In h₀) (I : InstAt s.heap x ox C (some od)) (hga : findIn K (.ref C) "__getattribute__" = some (some (.builtin "object.__getattribute__"))) (hhk : findIn K (.ref C) "__getattr__" = some (some (.ref hk)))
    (h : wpAny (model prog w) A (getAttr (.ref x) name) (fun v => Q (v, [])) E s) : wpAny (model prog w) A (getMethod (.ref x) name pl) Q E s := by
  have X := X₀.keeps F.keep
  have hcan := PySem.F.canon_object_ga
  unfold getMethod specialOf
  refine wpAny_bind (wpAny_bind (I.type.here ((looks_findIn X hga).here ?_)))
  dsimp only
  rw [hcan, if_neg (by decide)]
  refine wpAny_bind (wpAny_bind (I.type.here ((looks_findIn X hhk).here ?_)))
  rw [if_pos (show (some (Value.ref hk)).isSome = true from rfl)]
  exact wpAny_bind (wpAny_mono h (fun v s' z => wpAny_pure z) fun _ _ z => z)

/-- nothing so called: the hook is asked -/
theorem hk_miss (F : Fr h₀ L s.heap m) (X₀ : K.In h₀) (I : InstAt s.heap x ox C (some (dictOf es n))) (hga : findIn K (.ref C) "__getattribute__" = some (some (.builtin "object.__getattribute__"))) (hhk : findIn K (.ref C) "__getattr__" = some (some (.ref hk))) (hf : isFn K (.ref hk) = true)
    (hh : hasDictIn K C = true) (ha : findIn K (.ref C) name = some none) (hc : copiedNames.contains name = false) (hl : getL name es = some none)
    (h : wpAny (model prog w) A.in1 (call (.ref hk) [.ref x, .str name s.toks]) (fun v s' => wpAny (model prog w) A (handedOut v) Q E s') (fun e s' => wpAny (model prog w) A (noteIf true (.ref x) (.str name s.toks) e) (fun _ s'' => E e s'') E s') { s with toks := s.toks + 1 }) : wpAny (model prog w) A (getAttr (.ref x) name expr) Q E s := by
  have X := X₀.keeps F.keep
  refine get_open X I hga ?_
  have hfo : findObj K C (some (dictOf es n)) name = some .missing := by
    obtain ⟨cd, hc', hd⟩ := any_some hh
    unfold findObj
    have ho : W.ownOf cd (some (dictOf es n)) name = some none := by unfold W.ownOf; rw [if_pos hd]; show lookIn name (dictOf es n) = _; rw [lookIn_dict, hl]
    rw [hc', Option.bind_some, ha, Option.bind_some]
    simp only [Option.bind_some, ho, hc, Bool.false_and, Bool.false_eq_true, if_false]
  obtain ⟨hh', gg, d, t, os⟩ := s
  have L0 := I.type (M := model prog w)
  have L1 := looks_find (M := model prog w) X I hfo
  have L2 := looks_findIn (M := model prog w) X hhk
  refine wpAny_bind (wpAny_pure (wpAny_bind (L0.at (wpAny_bind (L1.at (wpAny_bind (L2.at ?_)))))))
  show wpAny _ _ (byHook _ _ _) _ _ _
  unfold byHook
  refine wpAny_bind ((bind_fn X _ (beq_iff_eq.mp hf)).at ?_)
  exact wpAny_bind (wpAny_mono h (fun v s' z => wpAny_bind (wpAny_rule (wpAny_pure z))) fun _ _ z => z)
end
end Mine
end
section
open PySem PySem.W PyProof.Rows PySem.Calls Builtin Builtin.Str
namespace Mine
set_option maxRecDepth 100000
set_option maxHeartbeats 8000000
def hexd (d : Nat) : Nat := if d < 10 then 48 + d else 55 + d
/-- two hex digits -/
def hex2 (n : Nat) : Str := ⟨#[hexd (n / 16), hexd (n % 16)]⟩
/-- a star and two hex digits -/
def starT (n : Nat) : Str := ⟨#[42, hexd (n / 16), hexd (n % 16)]⟩
theorem pct_gives (t u : Tok) : ∀ n : Nat, n < 128 → Gives («str.__mod__» ⟨[.str "*%02X" t, .int (n : Nat) u], []⟩) (Made.str (starT n))
  | 0, _ => .of_eq (by kernel_rfl)
  | 1, _ => .of_eq (by kernel_rfl)
  | 2, _ => .of_eq (by kernel_rfl)
  | 3, _ => .of_eq (by kernel_rfl)
  | 4, _ => .of_eq (by kernel_rfl)
  | 5, _ => .of_eq (by kernel_rfl)
  | 6, _ => .of_eq (by kernel_rfl)
  | 7, _ => .of_eq (by kernel_rfl)
  | 8, _ => .of_eq (by kernel_rfl)
  | 9, _ => .of_eq (by kernel_rfl)
  | 10, _ => .of_eq (by kernel_rfl)
  | 11, _ => .of_eq (by kernel_rfl)
  | 12, _ => .of_eq (by kernel_rfl)
  | 13, _ => .of_eq (by kernel_rfl)
  | 14, _ => .of_eq (by kernel_rfl)
  | 15, _ => .of_eq (by kernel_rfl)
  | 16, _ => .of_eq (by kernel_rfl)
  | 17, _ => .of_eq (by kernel_rfl)
  | 18, _ => .of_eq (by kernel_rfl)
  | 19, _ => .of_eq (by kernel_rfl)
  | 20, _ => .of_eq (by kernel_rfl)
  | 21, _ => .of_eq (by kernel_rfl)
  | 22, _ => .of_eq (by kernel_rfl)
  | 23, _ => .of_eq (by kernel_rfl)
  | 24, _ => .of_eq (by kernel_rfl)
  | 25, _ => .of_eq (by kernel_rfl)
  | 26, _ => .of_eq (by kernel_rfl)
  | 27, _ => .of_eq (by kernel_rfl)
  | 28, _ => .of_eq (by kernel_rfl)
  | 29, _ => .of_eq (by kernel_rfl)
  | 30, _ => .of_eq (by kernel_rfl)
  | 31, _ => .of_eq (by kernel_rfl)
  | 32, _ => .of_eq (by kernel_rfl)
  | 33, _ => .of_eq (by kernel_rfl)
  | 34, _ => .of_eq (by kernel_rfl)
  | 35, _ => .of_eq (by kernel_rfl)
  | 36, _ => .of_eq (by kernel_rfl)
  | 37, _ => .of_eq (by kernel_rfl)
  | 38, _ => .of_eq (by kernel_rfl)
  | 39, _ => .of_eq (by kernel_rfl)
  | 40, _ => .of_eq (by kernel_rfl)
  | 41, _ => .of_eq (by kernel_rfl)
  | 42, _ => .of_eq (by kernel_rfl)
  | 43, _ => .of_eq (by kernel_rfl)
  | 44, _ => .of_eq (by kernel_rfl)
  | 45, _ => .of_eq (by kernel_rfl)
  | 46, _ => .of_eq (by kernel_rfl)
  | 47, _ => .of_eq (by kernel_rfl)
  | 48, _ => .of_eq (by kernel_rfl)
  | 49, _ => .of_eq (by kernel_rfl)
  | 50, _ => .of_eq (by kernel_rfl)
  | 51, _ => .of_eq (by kernel_rfl)
  | 52, _ => .of_eq (by kernel_rfl)
  | 53, _ => .of_eq (by kernel_rfl)
  | 54, _ => .of_eq (by kernel_rfl)
  | 55, _ => .of_eq (by kernel_rfl)
  | 56, _ => .of_eq (by kernel_rfl)
  | 57, _ => .of_eq (by kernel_rfl)
  | 58, _ => .of_eq (by kernel_rfl)
  | 59, _ => .of_eq (by kernel_rfl)
  | 60, _ => .of_eq (by kernel_rfl)
  | 61, _ => .of_eq (by kernel_rfl)
  | 62, _ => .of_eq (by kernel_rfl)
  | 63, _ => .of_eq (by kernel_rfl)
  | 64, _ => .of_eq (by kernel_rfl)
  | 65, _ => .of_eq (by kernel_rfl)
  | 66, _ => .of_eq (by kernel_rfl)
  | 67, _ => .of_eq (by kernel_rfl)
  | 68, _ => .of_eq (by kernel_rfl)
  | 69, _ => .of_eq (by kernel_rfl)
  | 70, _ => .of_eq (by kernel_rfl)
  | 71, _ => .of_eq (by kernel_rfl)
  | 72, _ => .of_eq (by kernel_rfl)
  | 73, _ => .of_eq (by kernel_rfl)
  | 74, _ => .of_eq (by kernel_rfl)
  | 75, _ => .of_eq (by kernel_rfl)
  | 76, _ => .of_eq (by kernel_rfl)
  | 77, _ => .of_eq (by kernel_rfl)
  | 78, _ => .of_eq (by kernel_rfl)
  | 79, _ => .of_eq (by kernel_rfl)
  | 80, _ => .of_eq (by kernel_rfl)
  | 81, _ => .of_eq (by kernel_rfl)
  | 82, _ => .of_eq (by kernel_rfl)
  | 83, _ => .of_eq (by kernel_rfl)
  | 84, _ => .of_eq (by kernel_rfl)
  | 85, _ => .of_eq (by kernel_rfl)
  | 86, _ => .of_eq (by kernel_rfl)
  | 87, _ => .of_eq (by kernel_rfl)
  | 88, _ => .of_eq (by kernel_rfl)
  | 89, _ => .of_eq (by kernel_rfl)
  | 90, _ => .of_eq (by kernel_rfl)
  | 91, _ => .of_eq (by kernel_rfl)
  | 92, _ => .of_eq (by kernel_rfl)
  | 93, _ => .of_eq (by kernel_rfl)
  | 94, _ => .of_eq (by kernel_rfl)
  | 95, _ => .of_eq (by kernel_rfl)
  | 96, _ => .of_eq (by kernel_rfl)
  | 97, _ => .of_eq (by kernel_rfl)
  | 98, _ => .of_eq (by kernel_rfl)
  | 99, _ => .of_eq (by kernel_rfl)
  | 100, _ => .of_eq (by kernel_rfl)
  | 101, _ => .of_eq (by kernel_rfl)
  | 102, _ => .of_eq (by kernel_rfl)
  | 103, _ => .of_eq (by kernel_rfl)
  | 104, _ => .of_eq (by kernel_rfl)
  | 105, _ => .of_eq (by kernel_rfl)
  | 106, _ => .of_eq (by kernel_rfl)
  | 107, _ => .of_eq (by kernel_rfl)
  | 108, _ => .of_eq (by kernel_rfl)
  | 109, _ => .of_eq (by kernel_rfl)
  | 110, _ => .of_eq (by kernel_rfl)
  | 111, _ => .of_eq (by kernel_rfl)
  | 112, _ => .of_eq (by kernel_rfl)
  | 113, _ => .of_eq (by kernel_rfl)
  | 114, _ => .of_eq (by kernel_rfl)
  | 115, _ => .of_eq (by kernel_rfl)
  | 116, _ => .of_eq (by kernel_rfl)
  | 117, _ => .of_eq (by kernel_rfl)
  | 118, _ => .of_eq (by kernel_rfl)
  | 119, _ => .of_eq (by kernel_rfl)
  | 120, _ => .of_eq (by kernel_rfl)
  | 121, _ => .of_eq (by kernel_rfl)
  | 122, _ => .of_eq (by kernel_rfl)
  | 123, _ => .of_eq (by kernel_rfl)
  | 124, _ => .of_eq (by kernel_rfl)
  | 125, _ => .of_eq (by kernel_rfl)
  | 126, _ => .of_eq (by kernel_rfl)
  | 127, _ => .of_eq (by kernel_rfl)
  | n + 128, h => absurd h (by omega)
theorem pct {prog : Program} {w : World} {A : Around} {E : Value → Shared → Prop} {s : Shared} {n : Nat} {t u : Tok} {Q : Value → Shared → Prop} (hn : n < 128)
    (h : ∀ t' k, Q (.str (starT n) t') { s with toks := k }) : wpAny (model prog w) A (binaryOp .Mod (.str "*%02X" t) (.int n u)) Q E s :=
  AutoFloatOps.binaryOp_left_meets (T := "str") (U := "int") (op := .Mod) (by decide) (typeIs_str s _ t) (fun s' => typeIs_int s' n u) F.fills_str_mod F.fills_int_mod F.sub_int_str F.slot_str_mod F.slot_int_rmod F.entry_str_mod (F.args_str_mod_2 _ _)
    (pct_gives t u n hn).meets ⟨(by show 3 ≤ sizeLine; decide), (fun e => nomatch e), h _ _⟩
end Mine
end
section
open PySem PySem.W PyProof.Rows PySem.Calls Builtin Builtin.Str
namespace Mine
theorem bitNot_not (x : Int) : Builtin.bitNot (Builtin.bitNot x) = x := by unfold Builtin.bitNot; omega
theorem bitAnd_nat (a b : Nat) : Builtin.bitAnd (a : Int) (b : Int) = ((a &&& b : Nat) : Int) := by
  unfold Builtin.bitAnd
  simp
theorem bitOr_nat (a b : Nat) : Builtin.bitOr (a : Int) (b : Int) = ((a ||| b : Nat) : Int) := by
  unfold Builtin.bitOr Builtin.bitAnd
  have h1 : decide (0 ≤ Builtin.bitNot (a : Int)) = false := decide_eq_false (by unfold Builtin.bitNot; omega)
  have h2 : decide (0 ≤ Builtin.bitNot (b : Int)) = false := decide_eq_false (by unfold Builtin.bitNot; omega)
  simp only [h1, h2, bitNot_not, Int.toNat_natCast]
theorem bitXor_small (a b : Nat) (ha : a < 128) (hb : b < 128) : ∃ c : Nat, c < 128 ∧ Builtin.bitXor (a : Int) (b : Int) = (c : Int) := by
  unfold Builtin.bitXor
  rw [bitAnd_nat, bitOr_nat]
  have h1 : a ||| b < 2 ^ 7 := Nat.or_lt_two_pow ha hb
  have h2 : a &&& b ≤ a := Nat.and_le_left
  have h3 : a ≤ a ||| b := Nat.left_le_or
  exact ⟨(a ||| b) - (a &&& b), by omega, by omega⟩
theorem xfold_small : ∀ (l : List Nat) (a : Nat), a < 128 → (∀ c ∈ l, c < 128) → ∃ c : Nat, c < 128 ∧ xfold l (a : Int) = (c : Int)
  | [], a, ha, _ => ⟨a, ha, rfl⟩
  | c :: l, a, ha, h => by
    obtain ⟨b, hb, e⟩ := bitXor_small a c ha (h c (.head _))
    show ∃ d : Nat, d < 128 ∧ xfold l (Builtin.bitXor a c) = d
    rw [e]
    exact xfold_small l b hb fun d hd => h d (.tail _ hd)
/-- the checksum of a text -/
def ck (x : Str) : Nat := (xfold x.cps.toList 0).toNat
theorem ck_is {x : Str} (h : ∀ c ∈ x.cps.toList, c < 128) : ck x < 128 ∧ xfold x.cps.toList 0 = (ck x : Int) := by
  obtain ⟨c, hc, e⟩ := xfold_small x.cps.toList 0 (by decide) h
  have e' : xfold x.cps.toList 0 = (c : Int) := e
  unfold ck
  rw [e', Int.toNat_natCast]
  exact ⟨hc, rfl⟩
end Mine
end
section
open PySem PySem.W PyProof.Rows PySem.Calls Builtin Builtin.ObjectAttr
namespace Mine
set_option maxRecDepth 100000
set_option maxHeartbeats 8000000
/-- a message's own dict -/
def msgDict (P : Params) (k1 v1 k2 v2 k3 : Tok) (tk ty : Str) (l : Addr) : Obj :=
  dictOf [⟨PyData.keyHash P (Str.ofString "talker"), .str (Str.ofString "talker") k1, .str tk v1⟩, ⟨PyData.keyHash P (Str.ofString "sentence_type"), .str (Str.ofString "sentence_type") k2, .str ty v2⟩, ⟨PyData.keyHash P (Str.ofString "data"), .str (Str.ofString "data") k3, .ref l⟩] 3
/-- a message of the ledger -/
structure MsgIn (P : Params) (news : Led) (x C : Addr) (tk ty : Str) (l : Addr) (dx : Addr) (k1 v1 k2 v2 k3 : Tok) : Prop where
  hx : (x, instObj C dx) ∈ news
  hd : (dx, msgDict P k1 v1 k2 v2 k3 tk ty l) ∈ news

theorem MsgIn.mono {P : Params} {news news' : Led} {x C : Addr} {tk ty : Str} {l dx : Addr} {k1 v1 k2 v2 k3 : Tok} (h : MsgIn P news x C tk ty l dx k1 v1 k2 v2 k3) (hs : ∀ p ∈ news, p ∈ news') : MsgIn P news' x C tk ty l dx k1 v1 k2 v2 k3 := ⟨hs _ h.hx, hs _ h.hd⟩
theorem dat_strs {news : Led} : ∀ {vs : List Value} {row : List Str}, DatAll news vs (row.map Dat.str) → ∃ l : List (Str × Tok), vs = strValues l ∧ l.map (·.1) = row
  | _, [], h => by cases h; exact ⟨[], rfl, rfl⟩
  | _, x :: row, h => by
    cases h with
    | cons hd hr =>
      obtain ⟨l, rfl, rfl⟩ := dat_strs hr
      cases hd with
      | str _ t => exact ⟨(x, t) :: l, rfl, rfl⟩
theorem strs_dat {news : Led} : ∀ (l : List (Str × Tok)), DatAll news (strValues l) ((l.map (·.1)).map Dat.str)
  | [] => .nil
  | p :: l => .cons (.str _ _) (strs_dat l)
/-- a row of parts: few, short, of ASCII without a star -/
structure OkRow (row : List Str) : Prop where
  few : row.length ≤ 9
  short : ∀ p ∈ row, p.length ≤ 8
  plain : ∀ p ∈ row, ∀ c ∈ p.cps.toList, c < 128 ∧ c ≠ 42
theorem sum_le {row : List Str} (h : ∀ p ∈ row, p.length ≤ 8) : (row.map (·.length)).sum ≤ 8 * row.length := by
  induction row with
  | nil => simp
  | cons x r ih =>
    have h1 := h x (.head _)
    have h2 := ih fun p hp => h p (.tail _ hp)
    simp only [List.map_cons, List.sum_cons, List.length_cons]
    omega
theorem OkRow.join_len {row : List Str} (h : OkRow row) : (Txt.join "," row).length ≤ 81 := by
  show (Builtin.Str.glued _ _).length ≤ _
  rw [StrLaws.glued_eq_join]
  have a := StrLaws.join_length_le (Str.ofString ",") row
  have b := sum_le h.short
  have c := h.few
  have d : (Str.ofString ",").length = 1 := by decide
  rw [d] at a
  omega
theorem OkRow.joinOk {row : List Str} (h : OkRow row) : JoinOk "," row = true := by
  unfold JoinOk Builtin.Str.tooLong
  rw [StrLaws.joinTotal, sizeLine_eq]
  have b := sum_le h.short
  have c := h.few
  have d : (Str.ofString ",").length = 1 := by decide
  rw [d]
  simp only [Bool.not_eq_true', decide_eq_false_iff_not]
  omega
/-- what a sentence says bare -/
def bodyT (head : Str) (row : List Str) : Str := head ++ Txt.join "," row
theorem bodyT_len {head : Str} {row : List Str} (h : OkRow row) (hh : head.length ≤ 8) : (bodyT head row).length ≤ 89 := by
  unfold bodyT
  rw [Str.length_append]
  have := h.join_len
  omega


theorem ascii_str (s : Str) (h : (s.cps.toList.all fun c => decide (c < 128)) = true) : ∀ c ∈ s.cps.toList, c < 128 := fun c hc => of_decide_eq_true (List.all_eq_true.mp h c hc)
theorem all_of {x : Str} (h : ∀ c ∈ x.cps.toList, c < 128) : x.cps.all (· < 128) = true := by
  rw [← Array.all_toList]
  exact List.all_eq_true.mpr fun c hc => decide_eq_true (h c hc)
theorem join_mem {sep : Str} : ∀ {row : List Str} {c : Nat}, c ∈ (Str.join sep row).cps.toList → c ∈ sep.cps.toList ∨ ∃ p ∈ row, c ∈ p.cps.toList
  | [], c, h => by simp [Str.join, Str.empty] at h
  | [x], c, h => .inr ⟨x, .head _, h⟩
  | x :: y :: r, c, h => by
    have e : Str.join sep (x :: y :: r) = x ++ sep ++ Str.join sep (y :: r) := rfl
    rw [e, Str.cps_append, Str.cps_append] at h
    simp only [Array.toList_append, List.mem_append] at h
    rcases h with (h | h) | h
    · exact .inr ⟨x, .head _, h⟩
    · exact .inl h
    · rcases join_mem h with h | ⟨p, hp, hc⟩
      · exact .inl h
      · exact .inr ⟨p, .tail _ hp, hc⟩
theorem txt_join (sep : Str) (row : List Str) : Txt.join sep row = Str.join sep row := StrLaws.glued_eq_join ..
theorem OkRow.join_plain {row : List Str} (h : OkRow row) : ∀ c ∈ (Txt.join "," row).cps.toList, c < 128 ∧ c ≠ 42 := by
  intro c hc
  rw [txt_join] at hc
  rcases join_mem hc with hc | ⟨p, hp, hc⟩
  · have e : (Str.ofString ",").cps.toList = [44] := by decide +kernel
    rw [e] at hc
    simp at hc
    subst hc
    decide
  · exact h.plain p hp c hc
theorem body_plain {head : Str} {row : List Str} (h : OkRow row) (hh : (head.cps.toList.all fun c => decide (c < 128 ∧ c ≠ 42)) = true) : ∀ c ∈ (bodyT head row).cps.toList, c < 128 ∧ c ≠ 42 := by
  intro c hc
  unfold bodyT at hc
  rw [Str.cps_append] at hc
  simp only [Array.toList_append, List.mem_append] at hc
  rcases hc with hc | hc
  · exact of_decide_eq_true (List.all_eq_true.mp hh c hc)
  · exact h.join_plain c hc
/-- a line as the law says it -/
def lineT (body : Str) : Str := "$" ++ (body ++ starT (ck body))
end Mine
end
section
open PySem PySem.W PyProof.Rows PySem.Calls Builtin Builtin.ObjectAttr
namespace Mine
set_option maxRecDepth 100000
set_option maxHeartbeats 8000000
section
variable {prog : Program} {w : World} {A : Around} {E : Value → Shared → Prop} {s : Shared} {env : Env} {h₀ : Heap} {xn : Str} {body : List Stmt} {Q : Flow → Shared → Prop}
/-- a for over a text's signs, by a word of the frame and the ledger -/
theorem str_loop {x : Str} {t : Tok} {m₀ : Str → Option Value} {news : Led} (J : Nat → (Str → Option Value) → Led → Prop) (ha : x.cps.all (· < 128) = true) (hh : A.handled = none) (F : Fr h₀ env.locals s.heap m₀) (N : News h₀ env.locals s.heap news) (hj : J 0 m₀ news)
    (turn : ∀ i c u m₁ nx h tk own, x.cps[i]? = some c → OwnOff own (nx.map (·.1)) → J i m₁ nx → Fr h₀ env.locals h (fun y => if y = xn then some (.str ⟨#[c]⟩ u) else m₁ y) → News h₀ env.locals h (nx ++ own) →
      wpAny (model prog w) A (execs body env) (InvPostG h₀ env.locals (J (i + 1)) own { s with heap := h, toks := tk } Q) E { s with heap := h, toks := tk })
    (done : ∀ m₁ nx h tk, J x.cps.size m₁ nx → Fr h₀ env.locals h m₁ → News h₀ env.locals h nx → Q .next { s with heap := h, toks := tk }) :
    wpAny (model prog w) A (pyIter (.str x t)) (fun it s₂ => LoopAtV prog w A h₀ env xn body Q E it s₂) E s := by
  refine wpAny_pyIter_ascii ha ?_
  have hI0 : h₀.get? s.heap.objs.size = none := next_is_new F
  refine kdr_loop J (Walks.strAscii hh s.heap.objs.size x t) (fun _ h => h) (fun _ h => h) ?_ ?_ ?_ ?_ ⟨_, Heap.get?_push_size _ rfl, rfl, rfl⟩ (F.push _) (fun p hp => ⟨Heap.get?_push_of_some _ (N p hp).1, (N p hp).2⟩) hj ?_ done
  · rintro i h ⟨o, ho, _⟩ b hb
    rw [List.mem_singleton.mp hb]
    exact ⟨o, ho⟩
  · intro hm
    exact absurd F.ns.lt ((List.mem_singleton.mp hm) ▸ Nat.lt_irrefl _)
  · intro b hb
    rw [List.mem_singleton.mp hb]; exact hI0
  · intro p hp hI
    exact absurd (Heap.lt_size (N p hp).1) ((List.mem_singleton.mp hI) ▸ Nat.lt_irrefl _)
  · rintro i v m₁ nx h tk own hi ⟨c, u, hc, rfl⟩ hoff hJ F₁ N₁
    exact turn i c u m₁ nx h tk own hc hoff hJ F₁ N₁

/-- a loop's word: what the ledger bears, what the names hold, the rest of the names as it was -/
def SJ {σ : Type} (Ld : σ → Led) (ps : σ → List (Str × Value)) (xn : Str) (stored : List Str) (m₀ : Str → Option Value) (P : σ → Prop) (m : Str → Option Value) (nx : Led) : Prop :=
  ∃ c, nx = Ld c ∧ (∀ p ∈ ps c, m p.1 = some p.2) ∧ (∀ z, z ≠ xn → (∀ p ∈ ps c, z ≠ p.1) → stored.contains z = false → m z = m₀ z) ∧ P c
theorem sloop {σ : Type} {x : Str} {t : Tok} {m₀ : Str → Option Value} (Ld : σ → Led) (ps : σ → List (Str × Value)) (stored : List Str) (P : Nat → σ → Prop) (c₀ : σ) (ha : x.cps.all (· < 128) = true) (hh : A.handled = none)
    (F : Fr h₀ env.locals s.heap m₀) (N : News h₀ env.locals s.heap (Ld c₀)) (hk : ∀ p ∈ ps c₀, m₀ p.1 = some p.2) (hp : P 0 c₀)
    (turn : ∀ (c : σ) i n t (u : Str → Option Value) h tk own, x.cps[i]? = some n → OwnOff own ((Ld c).map (·.1)) → P i c →
      Fr h₀ env.locals h (fun y => if y = xn then some (.str ⟨#[n]⟩ t) else kstB (fun z => if stored.contains z then u z else m₀ z) (ps c) y) → News h₀ env.locals h (Ld c ++ own) →
      wpAny (model prog w) A (execs body env) (InvPostG h₀ env.locals (SJ Ld ps xn stored m₀ (P (i + 1))) own { s with heap := h, toks := tk } Q) E { s with heap := h, toks := tk })
    (done : ∀ (c : σ) (u : Str → Option Value) h tk, P x.cps.size c → Fr h₀ env.locals h (fun y => if y = xn then u y else kstB (fun z => if stored.contains z then u z else m₀ z) (ps c) y) → News h₀ env.locals h (Ld c) → Q .next { s with heap := h, toks := tk }) :
    wpAny (model prog w) A (pyIter (.str x t)) (fun it s₂ => LoopAtV prog w A h₀ env xn body Q E it s₂) E s := by
  refine str_loop (fun i m nx => SJ Ld ps xn stored m₀ (P i) m nx) ha hh F N ⟨c₀, rfl, hk, fun _ _ _ _ => rfl, hp⟩ ?_ ?_
  · rintro i n u m₁ nx h tk own hn hoff ⟨c, rfl, h1, h2, hp'⟩ F₁ N₁
    exact turn c i n u m₁ h tk own hn hoff hp' (kst_fr h1 h2 F₁) N₁
  · rintro m₁ nx h tk ⟨c, rfl, h1, h2, hp'⟩ F₁ N₁
    exact done c m₁ h tk hp' (kst_frOut h1 h2 F₁) N₁
theorem sj_end {σ : Type} {Ld : σ → Led} {ps : σ → List (Str × Value)} {stored : List Str} {m₀ : Str → Option Value} {P : σ → Prop} (c : σ) {L : Addr} {m' : Str → Option Value} {own news' : Led} {s₁ : Shared} {h' : Heap} {tk : Nat}
    (F : Fr h₀ L h' m') (N : News h₀ L h' news') (hn : ∀ p ∈ Ld c, p ∈ news') (ho : ∀ p ∈ own, p ∈ news') (hoff : OwnOff own ((Ld c).map (·.1))) (hk : ∀ p ∈ ps c, m' p.1 = some p.2)
    (hr : ∀ z, z ≠ xn → (∀ p ∈ ps c, z ≠ p.1) → stored.contains z = false → m' z = m₀ z) (hp : P c) :
    InvEndG h₀ L (SJ Ld ps xn stored m₀ P) own s₁ { s₁ with heap := h', toks := tk } := ⟨h', tk, m', news', Ld c, rfl, F, N, hn, ho, hoff, c, rfl, hk, hr, hp⟩
end
end Mine
end
section
open PySem PySem.W PyProof.Rows PySem.Calls Builtin Builtin.ObjectAttr
namespace Mine
set_option maxRecDepth 100000
set_option maxHeartbeats 8000000
local macro_rules | `(tactic| walk_at "getAttr ref") => `(tactic| (k_here; k_dflt (refine' hk_bound ?k1 ?k2 ?k3 ?k4 ?k5 ?kh ?k6 ?k7 ?k8 ?k9 ?k10 ?k11 ?k12 ?_; (case k4 => k_inst); (case k1 => k_asm); (case k2 => k_asm); (case k3 => k_asm); (case k5 => k_is); (case kh => k_is); (case k6 => k_is); (case k7 => k_is); (case k8 => k_is); (case k9 => k_is); (case k10 => k_is); (case k11 => decide +kernel); (case k12 => k_get); k_whole); intro q' h' F' N' l1; (try k_lt l1); (try k_sweep)))
local macro_rules | `(tactic| walk_at "getAttr ref") => `(tactic| (k_here; k_dflt (refine' hk_own ?k1 ?k2 ?k3 ?k4 ?k5 ?k6 ?k7 ?k8 ?k9 ?_; (case k1 => k_asm); (case k2 => k_asm); (case k3 => k_inst); (case k4 => k_is); (case k5 => k_is); (case k6 => k_is); (case k7 => k_is); (case k8 => k_get); (case k9 => k_handed); k_whole)))
local macro_rules | `(tactic| walk_at "getMethod ref") => `(tactic| (k_here; k_dflt (refine' hk_method ?k1 ?k2 ?k3 ?k4 ?k5 ?_; (case k1 => k_asm); (case k2 => k_asm); (case k3 => k_inst); (case k4 => k_is); (case k5 => k_is); k_whole)))
local macro_rules | `(tactic| ktr_enter) => `(tactic| (refine' code_def ?k1 ?k2 ?k3 ?k4 ?k5 ?kA ?kF ?kK ?k6 ?k7 ?k8 ?k9 ?kB ?_ ?c2 ?c3 ?c4 ?c5; (case kA => exact rfl); (case kF => exact rfl); (case kK => first | assumption | exact rfl); (case k1 => k_asm); (case k2 => k_asm); (case k3 => k_asm); (case k4 => k_asm); (case k5 => k_asm); (case k6 => k_is); (case k7 => k_is); (case k8 => ktr_room); (case k9 => first | exact BindsTo.of_eq rfl | exact binds_K (by k_in) rfl (by k_is) rfl rfl rfl); (case c5 => decide); (case kB => exact locs rfl); (case c2 => exact rfl); (case c3 => exact rfl); (case c4 => exact rfl); k_whole; intro g' L' h' FG' F' N' B' X' T'; (try dsimp only); (try k_lift B'); (try k_fold)))
local macro_rules | `(tactic| ktr_call $c:term 0) => `(tactic| (refine wpAny_call ?_; k_dflt (refine' ct_use $c ?k1 ?k2 ?k3 ?k4 ?k5 ?kK ?kd ?ku ?kp ?_; (case k1 => k_asm); (case k2 => k_asm); (case k3 => k_asm); (case k4 => k_asm); (case k5 => k_asm); (case kK => first | assumption | exact rfl); (case kd => ktr_room); (case ku => ktr_units))))
local macro_rules | `(tactic| ktr_call $c:term 1) => `(tactic| (refine' call_meth ?N ?q ?_; (case N => k_asm); (case q => k_mem); k_dflt (refine' ct_use $c ?k1 ?k2 ?k3 ?k4 ?k5 ?kK ?kd ?ku ?kp ?_; (case k1 => k_asm); (case k2 => k_asm); (case k3 => k_asm); (case k4 => k_asm); (case k5 => k_asm); (case kK => first | assumption | exact rfl); (case kd => ktr_room); (case ku => ktr_units))))
local macro_rules | `(tactic| k_mem) => `(tactic| first | assumption | exact List.mem_cons_self .. | (refine' List.mem_cons_of_mem _ ?_; k_mem))
local macro_rules | `(tactic| kst_same) => `(tactic| (intro z h1 h2 h3; (simp only [List.forall_mem_cons, List.not_mem_nil, false_implies, implies_true, and_true, ne_eq] at h2); (simp only [List.contains_cons, List.contains_nil, Bool.or_false, Bool.or_eq_false_iff, beq_eq_false_iff_ne, ne_eq] at h3); (simp [kstB, h1, h2, h3]; done)))
local macro_rules | `(tactic| kby_size) => `(tactic| (rw [PySem.sizeLine_eq]; omega))
local macro_rules | `(tactic| walk_at "call builtin:str.lstrip") => `(tactic| (k_here; (refine KXw.lstrip (by assumption) (by kby_size) ?_); intro _ _))
local macro_rules | `(tactic| walk_at "call builtin:str.strip") => `(tactic| (k_here; (refine KXw.strip (by assumption) (by kby_size) ?_); intro _ _))
local macro_rules | `(tactic| walk_at "call builtin:str.strip") => `(tactic| (k_here; (refine KXw.stripChars (by assumption) (by kby_size) ?_); intro _ _))
local macro_rules | `(tactic| walk_at "call builtin:str.upper") => `(tactic| (k_here; (refine KXw.upper (by assumption) (by decide +kernel) ?_); intro _ _))
local macro_rules | `(tactic| walk_at "call builtin:str.partition") => `(tactic| (k_here; (refine KXpa.partition (by k_asm) (by k_asm) (by decide) (by assumption) (by assumption) (by assumption) (by kby_size) ?_); intro D' _ _ _ _ _ F' N' l1; (try k_lt l1)))
local macro_rules | `(tactic| walk_at "call builtin:str.split") => `(tactic| (k_here; (refine KSpl.split1 (by k_asm) (by k_asm) (by decide) ?_ (by kby_size)); intro D' _ _ _ _ _ F' N' l1; (try k_lt l1)))

theorem xfold_snoc (l : List Nat) (c : Nat) (a : Int) : xfold (l ++ [c]) a = Builtin.bitXor (xfold l a) c := by simp [xfold, List.foldl_append]
theorem take_snoc {x : Str} {i c : Nat} (h : x.cps[i]? = some c) : x.cps.toList.take (i + 1) = x.cps.toList.take i ++ [c] := by
  rw [List.take_add_one, Array.getElem?_toList, h]; rfl
theorem digs : ∀ v, v < 128 → Txt.item (Str.ofString "0123456789ABCDEF") (Int.fdiv (v : Nat) 16) ++ Txt.item (Str.ofString "0123456789ABCDEF") (Int.fmod (v : Nat) 16) = hex2 v := by decide +kernel
theorem line_eq (x : Str) (v : Nat) (h : v < 128) : Str.ofString "$" ++ x ++ Str.ofString "*" ++ Txt.item (Str.ofString "0123456789ABCDEF") (Int.fdiv (v : Nat) 16) ++ Txt.item (Str.ofString "0123456789ABCDEF") (Int.fmod (v : Nat) 16) = "$" ++ (x ++ starT v) := by
  have e := digs v h
  rw [PySem.Str.append_assoc, PySem.Str.append_assoc, PySem.Str.append_assoc, e]
  rfl
theorem t_line (w : World) (x : Str) (t : Tok) (hx : ∀ c ∈ x.cps.toList, c < 128) (hlen : x.length ≤ 100) : Ct w 315 4 (fun _ => True) [.str x t] (fun new _ v => new = [] ∧ ∃ k, v = .str (lineT x) k) := by
  refine fillit _ ?_
  k_fill
  show Ct _ _ _ _ _ _
  intro mean mg mb dp un gd cn cs a ccd cl outer A₀ base h₀ L m news s Q E B F X N T hk hd hu hpre hret
  k_dflt ktr_enter
  repeat' ((fail_if_success (with_reducible show wpAny _ _ (exec (Stmt.For _ _ _ _ _) _) _ _ _)); first | walk1 | (k_unfold; (try dsimp only)))
  rename Fr _ _ _ _ => kF
  rename News _ _ _ _ => kN
  with_unfolding_all refine' For_invVF kF ?k1 ?k2 ?_
  case k1 => exact rfl
  case k2 => exact rfl
  walk1
  with_unfolding_all refine' sloop (σ := Nat × Tok) (fun _ => news) (fun c => [(Str.ofString "value", .int (c.1 : Nat) c.2)]) [Str.ofString "number"] (fun i c => c.1 < 128 ∧ xfold (x.cps.toList.take i) 0 = (c.1 : Int)) (0, _) ?ka ?kh kF kN ?kk ?kp ?_ ?_
  case ka => exact all_of hx
  case kh => exact rfl
  case kk => intro p hp; rcases List.mem_cons.mp hp with rfl | hp; exact rfl; cases hp
  case kp => exact ⟨Nat.zero_lt_succ _, rfl⟩
  · rintro ⟨v, tv⟩ i n t u h1 tk1 own hn hoff ⟨hv, hxf⟩ F1 N1
    clear kF kN
    have hn128 : n < 128 := hx n (by rw [Array.mem_toList_iff]; exact Array.mem_of_getElem? hn)
    dsimp only at F1 N1 hv hxf
    try k_fold
    obtain ⟨v', hv', e'⟩ := bitXor_small v n hv hn128
    have e2 := e'
    rw [bitXor_and] at e2
    k_steps
    refine' sj_end (v', ?tok) (by assumption) (by assumption) (by intro p hp; exact List.mem_append_left _ hp) (by intro p hp; exact List.mem_append_right _ hp) hoff ?hk ?hr ⟨hv', by rw [take_snoc hn, xfold_snoc, hxf, e']⟩
    case hk =>
      intro p hp
      rcases List.mem_cons.mp hp with rfl | hp
      · show some (Value.int _ _) = some (Value.int (v' : Int) _)
        rw [← e2]
      · cases hp
    kst_same
  · rintro ⟨v, tv⟩ u h1 tk1 ⟨hv, hxf⟩ F1 N1
    clear kF kN
    dsimp only at F1 N1 hv hxf
    rw [show x.cps.size = x.cps.toList.length from rfl, List.take_length] at hxf
    have hvc : v = ck x := by unfold ck; rw [hxf]; rfl
    try k_fold
    k_steps
    exact hret _ _ [] _ (by assumption) (by assumption) (by intro p hp; cases hp) ⟨rfl, _, by rw [hvc]; exact congrArg (fun q => Value.str q _) (line_eq x (ck x) (by rw [← hvc]; exact hv))⟩

end Mine
end
section
open PySem PySem.W PyProof.Rows PySem.Calls Builtin Builtin.ObjectAttr
namespace Mine
set_option maxRecDepth 100000
set_option maxHeartbeats 8000000
local macro_rules | `(tactic| walk_at "getAttr ref") => `(tactic| (k_here; k_dflt (refine' hk_bound ?k1 ?k2 ?k3 ?k4 ?k5 ?kh ?k6 ?k7 ?k8 ?k9 ?k10 ?k11 ?k12 ?_; (case k4 => k_inst); (case k1 => k_asm); (case k2 => k_asm); (case k3 => k_asm); (case k5 => k_is); (case kh => k_is); (case k6 => k_is); (case k7 => k_is); (case k8 => k_is); (case k9 => k_is); (case k10 => k_is); (case k11 => decide +kernel); (case k12 => k_get); k_whole); intro q' h' F' N' l1; (try k_lt l1); (try k_sweep)))
local macro_rules | `(tactic| walk_at "getAttr ref") => `(tactic| (k_here; k_dflt (refine' hk_own ?k1 ?k2 ?k3 ?k4 ?k5 ?k6 ?k7 ?k8 ?k9 ?_; (case k1 => k_asm); (case k2 => k_asm); (case k3 => k_inst); (case k4 => k_is); (case k5 => k_is); (case k6 => k_is); (case k7 => k_is); (case k8 => k_get); (case k9 => k_handed); k_whole)))
local macro_rules | `(tactic| walk_at "getMethod ref") => `(tactic| (k_here; k_dflt (refine' hk_method ?k1 ?k2 ?k3 ?k4 ?k5 ?_; (case k1 => k_asm); (case k2 => k_asm); (case k3 => k_inst); (case k4 => k_is); (case k5 => k_is); k_whole)))
local macro_rules | `(tactic| ktr_enter) => `(tactic| (refine' code_def ?k1 ?k2 ?k3 ?k4 ?k5 ?kA ?kF ?kK ?k6 ?k7 ?k8 ?k9 ?kB ?_ ?c2 ?c3 ?c4 ?c5; (case kA => exact rfl); (case kF => exact rfl); (case kK => first | assumption | exact rfl); (case k1 => k_asm); (case k2 => k_asm); (case k3 => k_asm); (case k4 => k_asm); (case k5 => k_asm); (case k6 => k_is); (case k7 => k_is); (case k8 => ktr_room); (case k9 => first | exact BindsTo.of_eq rfl | exact binds_K (by k_in) rfl (by k_is) rfl rfl rfl); (case c5 => decide); (case kB => exact locs rfl); (case c2 => exact rfl); (case c3 => exact rfl); (case c4 => exact rfl); k_whole; intro g' L' h' FG' F' N' B' X' T'; (try dsimp only); (try k_lift B'); (try k_fold)))
local macro_rules | `(tactic| ktr_call $c:term 0) => `(tactic| (refine wpAny_call ?_; k_dflt (refine' ct_use $c ?k1 ?k2 ?k3 ?k4 ?k5 ?kK ?kd ?ku ?kp ?_; (case k1 => k_asm); (case k2 => k_asm); (case k3 => k_asm); (case k4 => k_asm); (case k5 => k_asm); (case kK => first | assumption | exact rfl); (case kd => ktr_room); (case ku => ktr_units))))
local macro_rules | `(tactic| ktr_call $c:term 1) => `(tactic| (refine' call_meth ?N ?q ?_; (case N => k_asm); (case q => k_mem); k_dflt (refine' ct_use $c ?k1 ?k2 ?k3 ?k4 ?k5 ?kK ?kd ?ku ?kp ?_; (case k1 => k_asm); (case k2 => k_asm); (case k3 => k_asm); (case k4 => k_asm); (case k5 => k_asm); (case kK => first | assumption | exact rfl); (case kd => ktr_room); (case ku => ktr_units))))
local macro_rules | `(tactic| k_mem) => `(tactic| first | assumption | exact List.mem_cons_self .. | (refine' List.mem_cons_of_mem _ ?_; k_mem))
local macro_rules | `(tactic| kst_same) => `(tactic| (intro z h1 h2 h3; (simp only [List.forall_mem_cons, List.not_mem_nil, false_implies, implies_true, and_true, ne_eq] at h2); (simp only [List.contains_cons, List.contains_nil, Bool.or_false, Bool.or_eq_false_iff, beq_eq_false_iff_ne, ne_eq] at h3); (simp [kstB, h1, h2, h3]; done)))
local macro_rules | `(tactic| kby_size) => `(tactic| (rw [PySem.sizeLine_eq]; omega))
local macro_rules | `(tactic| walk_at "call builtin:str.lstrip") => `(tactic| (k_here; (refine KXw.lstrip (by assumption) (by kby_size) ?_); intro _ _))
local macro_rules | `(tactic| walk_at "call builtin:str.strip") => `(tactic| (k_here; (refine KXw.strip (by assumption) (by kby_size) ?_); intro _ _))
local macro_rules | `(tactic| walk_at "call builtin:str.strip") => `(tactic| (k_here; (refine KXw.stripChars (by assumption) (by kby_size) ?_); intro _ _))
local macro_rules | `(tactic| walk_at "call builtin:str.upper") => `(tactic| (k_here; (refine KXw.upper (by assumption) (by decide +kernel) ?_); intro _ _))
local macro_rules | `(tactic| walk_at "call builtin:str.partition") => `(tactic| (k_here; (refine KXpa.partition (by k_asm) (by k_asm) (by decide) (by assumption) (by assumption) (by assumption) (by kby_size) ?_); intro D' _ _ _ _ _ F' N' l1; (try k_lt l1)))
local macro_rules | `(tactic| walk_at "call builtin:str.split") => `(tactic| (k_here; (refine KSpl.split1 (by k_asm) (by k_asm) (by decide) ?_ (by kby_size)); intro D' _ _ _ _ _ F' N' l1; (try k_lt l1)))
theorem app_comma {c : Nat} : ∀ {a b s t : List Nat}, c ∉ a → c ∉ b → a ++ c :: s = b ++ c :: t → a = b ∧ s = t
  | [], [], s, t, _, _, h => ⟨rfl, (List.cons.inj h).2⟩
  | [], y :: b, s, t, _, hb, h => absurd ((List.cons.inj h).1 ▸ List.mem_cons_self ..) hb
  | x :: a, [], s, t, ha, _, h => absurd ((List.cons.inj h).1 ▸ List.mem_cons_self ..) ha
  | x :: a, y :: b, s, t, ha, hb, h => by
    obtain ⟨h1, h2⟩ := List.cons.inj h
    obtain ⟨e1, e2⟩ := app_comma (fun q => ha (.tail _ q)) (fun q => hb (.tail _ q)) h2
    exact ⟨by rw [h1, e1], e2⟩
theorem join_cons2 (sep x y : Str) (r : List Str) : Str.join sep (x :: y :: r) = x ++ sep ++ Str.join sep (y :: r) := rfl
theorem comma_cps : (Str.ofString ",").cps.toList = [44] := by decide +kernel
theorem join_inj : ∀ {a b : List Str}, a ≠ [] → b ≠ [] → (∀ p ∈ a, 44 ∉ p.cps.toList) → (∀ p ∈ b, 44 ∉ p.cps.toList) → Str.join "," a = Str.join "," b → a = b
  | [], _, h, _, _, _, _ => absurd rfl h
  | _, [], _, h, _, _, _ => absurd rfl h
  | [x], [y], _, _, _, _, h => by rw [show x = y from h]
  | [x], y :: z :: r, _, _, ha, _, h => by
    refine absurd ?_ (ha x (.head _))
    rw [show x = _ from h, join_cons2, PySem.Str.cps_append, PySem.Str.cps_append]
    simp [comma_cps]
  | x :: z :: r, [y], _, _, _, hb, h => by
    refine absurd ?_ (hb y (.head _))
    rw [show y = _ from h.symm, join_cons2, PySem.Str.cps_append, PySem.Str.cps_append]
    simp [comma_cps]
  | x :: x' :: r, y :: y' :: q, _, _, ha, hb, h => by
    rw [join_cons2, join_cons2] at h
    have e := congrArg (fun s : Str => s.cps.toList) h
    simp only [PySem.Str.cps_append, Array.toList_append, comma_cps, List.append_assoc, List.singleton_append] at e
    obtain ⟨e1, e2⟩ := app_comma (ha x (.head _)) (hb y (.head _)) e
    have e3 : x = y := PySem.Str.ext' (Array.toList_inj.mp e1)
    have e4 : Str.join "," (x' :: r) = Str.join "," (y' :: q) := PySem.Str.ext' (Array.toList_inj.mp e2)
    rw [e3, join_inj (by simp) (by simp) (fun p hp => ha p (.tail _ hp)) (fun p hp => hb p (.tail _ hp)) e4]
theorem join_new : ∀ {l : List Str}, l ≠ [] → Str.join "," (l ++ [Str.ofString ""]) = Str.join "," l ++ ","
  | [], h => absurd rfl h
  | [x], _ => by
    show x ++ Str.ofString "," ++ Str.join "," [Str.ofString ""] = x ++ Str.ofString ","
    exact PySem.Str.ext' (by rw [PySem.Str.cps_append]; exact Array.append_empty)
  | x :: y :: r, _ => by
    show x ++ Str.ofString "," ++ Str.join "," (y :: r ++ [Str.ofString ""]) = _
    rw [join_new (by simp), join_cons2, PySem.Str.append_assoc, PySem.Str.append_assoc, PySem.Str.append_assoc]
theorem join_last (q c : Str) : ∀ (l : List Str), Str.join "," (l ++ [q ++ c]) = Str.join "," (l ++ [q]) ++ c
  | [] => rfl
  | [x] => by
    show x ++ Str.ofString "," ++ (q ++ c) = x ++ Str.ofString "," ++ q ++ c
    simp only [PySem.Str.append_assoc]
  | x :: y :: r => by
    show x ++ Str.ofString "," ++ Str.join "," (y :: r ++ [q ++ c]) = x ++ Str.ofString "," ++ Str.join "," (y :: r ++ [q]) ++ c
    rw [join_last q c (y :: r)]
    simp only [PySem.Str.append_assoc]
/-- the parts of a text between its commas -/
def cutT (x : Str) : List Str := Txt.split x ","
theorem cut_is {x : Str} {l : List Str} (h : l ≠ []) (hf : ∀ p ∈ l, 44 ∉ p.cps.toList) (hj : Str.join "," l = x) : l = cutT x := by
  refine join_inj h ?_ hf ?_ (by rw [hj]; exact (StrLaws.join_split x ",").symm)
  · intro e
    have := PyProof.Rows.split_pos x ","
    unfold cutT at e
    rw [e] at this
    cases this
  · exact StrLaws.split_free x 44
theorem lt_one {D : Addr} {o : Obj} {news : Led} (h : ∀ p ∈ news, p.1 < D) : ∀ p ∈ [(D, o)], AllLt p.1 news := by
  intro p hp
  rw [List.mem_singleton.mp hp]
  exact allLt_of h
theorem strValues_len (l : List (Str × Tok)) : (strValues l).length = l.length := by simp [strValues]
theorem strs_push (l : List (Str × Tok)) (x : Str) (t : Tok) : (strValues l).toArray.push (.str x t) = (strValues (l ++ [(x, t)])).toArray := by simp [strValues]
theorem neg_one (n : Nat) : seqIndex? (-1) (n + 1) = some n := by
  unfold seqIndex?
  simp
  omega
theorem setL_last (x : Str) (t : Tok) (y : Str) (u : Tok) : ∀ (l : List (Str × Tok)), ki_setL (strValues (l ++ [(y, u)])) l.length (.str x t) = some (strValues (l ++ [(x, t)]))
  | [] => rfl
  | p :: l => by
    show (match ki_setL (strValues (l ++ [(y, u)])) l.length (.str x t) with | some q => some (_ :: q) | none => none) = _
    rw [setL_last x t y u l]
    rfl
theorem t_cut (w : World) (x : Str) (t : Tok) (hx : ∀ c ∈ x.cps.toList, c < 128) (hlen : x.length ≤ 100) : Ct w 322 4 (fun _ => True) [.str x t] (fun new _ v => ∃ P l n, new = [(P, listOf (strValues l).toArray n)] ∧ l.map (·.1) = cutT x ∧ v = .ref P) := by
  refine fillit _ ?_
  k_fill
  show Ct _ _ _ _ _ _
  intro mean mg mb dp un gd cn cs a ccd cl outer A₀ base h₀ L m news s Q E B F X N T hk hd hu hpre hret
  k_dflt ktr_enter
  repeat' ((fail_if_success (with_reducible show wpAny _ _ (exec (Stmt.For _ _ _ _ _) _) _ _ _)); first | walk1 | (k_unfold; (try dsimp only)))
  rename Fr _ _ _ _ => kF
  rename News _ _ _ _ => kN
  with_unfolding_all refine' For_invVF kF ?k1 ?k2 ?_
  case k1 => exact rfl
  case k2 => exact rfl
  walk1
  first
    | (rename_i tk9 P h8 l9 h9; have hk9 : Tok := tk9; clear hk9)
    | (rename_i P h8 l9 h9; obtain ⟨tk9, htk⟩ : ∃ t : Nat, t = tk := ⟨_, rfl⟩; subst htk)
  with_unfolding_all refine' sloop (σ := List (Str × Tok) × Str × Tok × Nat) (fun c => (P, W.listOf (strValues (c.1 ++ [(c.2.1, c.2.2.1)])).toArray c.2.2.2) :: news) (fun c => []) [] (fun i c => (∀ p ∈ c.1, 44 ∉ p.1.cps.toList) ∧ 44 ∉ c.2.1.cps.toList ∧ c.1.length + c.2.1.length ≤ i ∧ (Str.join "," (c.1.map (·.1) ++ [c.2.1])).cps.toList = x.cps.toList.take i) ([], Str.ofString "", tk9, 0) ?ka ?kh kF kN ?kk ?kp ?_ ?_
  case ka => exact all_of hx
  case kh => exact rfl
  case kk => intro p hp; cases hp
  case kp => exact ⟨(fun p hp => nomatch hp), (by decide +kernel : 44 ∉ (Str.ofString "").cps.toList), (by decide +kernel : 0 + (Str.ofString "").length ≤ 0), rfl⟩
  · rintro ⟨l, q, tq, n⟩ i c t u h1 tk1 own hn hoff ⟨hl, hq, hlc, hj⟩ F1 N1
    clear kF kN
    dsimp only at F1 N1 hl hq hlc hj
    have hil : i < x.length := by
      have := Array.getElem?_eq_some_iff.mp hn
      exact this.1
    have hP : ∀ p ∈ news ++ own, p.1 ≠ P := by
      intro p hp
      rcases List.mem_append.mp hp with hp | hp
      · exact Nat.ne_of_lt (l9 p hp)
      · exact hoff p hp P (.head _)
    have hxl : x.length ≤ 100 := by assumption
    have e44 : 44 ∉ (Str.ofString "").cps.toList := by decide +kernel
    simp only [List.cons_append] at N1
    try k_fold
    repeat' ((fail_if_success (with_reducible show wpAny _ _ (subscriptTail _ _ _ _) _ _ _)); (fail_if_success (with_reducible show wpAny _ _ (PySem.call (Value.builtin "list.append") _) _ _ _)); first | walk1 | (k_unfold; (try dsimp only)))
    try dsimp only
    · have hc : c = 44 := by
        have e : (⟨#[c]⟩ : Str) = Str.ofString "," := eq_of_beq (by assumption)
        have e2 := congrArg (fun z : Str => z.cps.toList) e
        rw [comma_cps] at e2
        exact (List.cons.inj e2).1
      subst hc
      refine append_K (by k_asm) (by k_asm) (Upd.head hP) ?_ (by rw [List.size_toArray, strValues_len, PySem.sizeLine_eq]; simp only [List.length_append, List.length_singleton]; omega)
      intro h5 F5 N5
      rw [strs_push] at N5
      k_steps
      refine' sj_end (l ++ [(q, tq)], Str.ofString "", ?tok, n + 1) (by assumption) N5 ?hn ?ho hoff ?hk ?hr ⟨?p1, e44, ?p3, ?p4⟩
      case hn => intro p hp; rcases List.mem_cons.mp hp with rfl | hp; exact List.mem_cons_self ..; exact .tail _ (List.mem_append_left _ hp)
      case ho => intro p hp; exact .tail _ (List.mem_append_right _ hp)
      case hk => intro p hp; cases hp
      case hr => kst_same
      case p1 => intro p hp; rcases List.mem_append.mp hp with hp | hp; exact hl p hp; rw [List.mem_singleton.mp hp]; exact hq
      case p3 => simp only [List.length_append, List.length_singleton]; have : (Str.ofString "").length = 0 := (by decide +kernel); omega
      case p4 => rw [List.map_append, List.map_cons, List.map_nil, join_new (by simp), PySem.Str.cps_append, Array.toList_append, hj, comma_cps, take_snoc hn]
    · have hc : c ≠ 44 := by
        intro e
        subst e
        have : ((⟨#[44]⟩ : Str) == Str.ofString ",") = true := by decide +kernel
        simp_all
      refine kde_neg (j := l.length) (v := .str q tq) (News.isList (by k_asm) (List.mem_cons_self ..)) (by decide) (by decide) ?i1 ?i2 ?_ (by with_unfolding_all rfl)
      case i1 => rw [strValues_len, List.length_append]; exact neg_one _
      case i2 => simp [strValues]
      repeat' ((fail_if_success (with_reducible show wpAny _ _ (PySem.setItem _ _ _) _ _ _)); first | walk1 | (k_unfold; (try dsimp only)))
      try dsimp only
      refine' ki_setNeg (j := l.length) (its := (strValues (l ++ [(q, tq)])).toArray) ?iF ?iN ?i3 ?i4 ?i1 ?i2 ?U ?_
      case iF => k_asm
      case iN => k_asm
      case i3 => decide
      case i4 => decide
      case i1 => rw [List.size_toArray, strValues_len, List.length_append]; exact neg_one l.length
      case i2 => exact setL_last ..
      case U => exact Upd.head hP
      intro h5 F5 N5
      k_steps
      refine' sj_end (l, q ++ ⟨#[c]⟩, ?tok5, n) (by assumption) N5 ?hn ?ho hoff ?hk ?hr ⟨hl, ?p2, ?p3, ?p4⟩
      case hn => intro p hp; rcases List.mem_cons.mp hp with rfl | hp; exact List.mem_cons_self ..; exact .tail _ (List.mem_append_left _ hp)
      case ho => intro p hp; exact .tail _ (List.mem_append_right _ hp)
      case hk => intro p hp; cases hp
      case hr => kst_same
      case p2 =>
        rw [PySem.Str.cps_append, Array.toList_append]
        intro hm
        rcases List.mem_append.mp hm with hm | hm
        · exact hq hm
        · exact hc (List.mem_singleton.mp hm).symm
      case p3 => show l.length + (q ++ ⟨#[c]⟩ : Str).length ≤ i + 1; rw [PySem.Str.length_append]; have h1 : (⟨#[c]⟩ : Str).length = 1 := rfl; rw [h1]; exact Nat.succ_le_succ hlc
      case p4 => rw [join_last, PySem.Str.cps_append, Array.toList_append, hj, take_snoc hn]
  · rintro ⟨l, q, tq, n⟩ u h1 tk1 ⟨hl, hq, hlc, hj⟩ F1 N1
    clear kF kN
    dsimp only at F1 N1 hl hq hlc hj
    try k_fold
    k_steps
    exact hret _ _ [_] _ (by assumption) (by assumption) (lt_one (by assumption)) ⟨P, _, _, rfl, cut_is (by simp) (by
      intro p hp
      simp only [List.map_append, List.map_cons, List.map_nil, List.mem_append, List.mem_singleton] at hp
      rcases hp with hp | rfl
      · obtain ⟨q', hq', rfl⟩ := List.mem_map.mp hp
        exact hl _ hq'
      · exact hq) (by
      refine PySem.Str.ext' (Array.toList_inj.mp ?_)
      rw [List.map_append]
      exact hj.trans (by rw [show x.cps.size = x.cps.toList.length from rfl, List.take_length])), rfl⟩
def kindsOb (P : Params) (k1 k2 : Tok) : Obj := dictOf [⟨PyData.keyHash P (Str.ofString "WPL"), .str (Str.ofString "WPL") k1, .ref 253⟩, ⟨PyData.keyHash P (Str.ofString "DTM"), .str (Str.ofString "DTM") k2, .ref 274⟩] 2

end Mine
end
section
open PySem PySem.W PyProof.Rows PySem.Calls Builtin Builtin.ObjectAttr Builtin.Str
namespace Mine
set_option maxRecDepth 100000
set_option maxHeartbeats 8000000
namespace FF
theorem typeCall_int_2 (a b : Value) : checkTypeCall "int" ⟨[a, b], []⟩ = pure () := by kernel_rfl
theorem newCall_int_2 (a b : Value) : checkBuiltinCall "int.__new__" ⟨[.type "int", a, b], []⟩ = pure () := by kernel_rfl
theorem args_object_init_3 (a b c : Value) : argsOk "object.__init__" ⟨[a, b, c], []⟩ := by
  unfold argsOk; rw [signature?_of (id := "object.__init__") (n := ['_', '_', 't', 'i', 'n', 'i', '_', '_']) (o := ['t', 'c', 'e', 'j', 'b', 'o']) (by kernel_rfl) F.owner_object]; kernel_rfl
end FF
theorem read16 : ∀ v : Nat, v < 128 → (int_private% "readNumeral") 0 (Int.toNat 16) [hexd (v / 16), hexd (v % 16)] = (int_private% "Numeral.value") (v : Int)
  | 0, _ => by kernel_rfl
  | 1, _ => by kernel_rfl
  | 2, _ => by kernel_rfl
  | 3, _ => by kernel_rfl
  | 4, _ => by kernel_rfl
  | 5, _ => by kernel_rfl
  | 6, _ => by kernel_rfl
  | 7, _ => by kernel_rfl
  | 8, _ => by kernel_rfl
  | 9, _ => by kernel_rfl
  | 10, _ => by kernel_rfl
  | 11, _ => by kernel_rfl
  | 12, _ => by kernel_rfl
  | 13, _ => by kernel_rfl
  | 14, _ => by kernel_rfl
  | 15, _ => by kernel_rfl
  | 16, _ => by kernel_rfl
  | 17, _ => by kernel_rfl
  | 18, _ => by kernel_rfl
  | 19, _ => by kernel_rfl
  | 20, _ => by kernel_rfl
  | 21, _ => by kernel_rfl
  | 22, _ => by kernel_rfl
  | 23, _ => by kernel_rfl
  | 24, _ => by kernel_rfl
  | 25, _ => by kernel_rfl
  | 26, _ => by kernel_rfl
  | 27, _ => by kernel_rfl
  | 28, _ => by kernel_rfl
  | 29, _ => by kernel_rfl
  | 30, _ => by kernel_rfl
  | 31, _ => by kernel_rfl
  | 32, _ => by kernel_rfl
  | 33, _ => by kernel_rfl
  | 34, _ => by kernel_rfl
  | 35, _ => by kernel_rfl
  | 36, _ => by kernel_rfl
  | 37, _ => by kernel_rfl
  | 38, _ => by kernel_rfl
  | 39, _ => by kernel_rfl
  | 40, _ => by kernel_rfl
  | 41, _ => by kernel_rfl
  | 42, _ => by kernel_rfl
  | 43, _ => by kernel_rfl
  | 44, _ => by kernel_rfl
  | 45, _ => by kernel_rfl
  | 46, _ => by kernel_rfl
  | 47, _ => by kernel_rfl
  | 48, _ => by kernel_rfl
  | 49, _ => by kernel_rfl
  | 50, _ => by kernel_rfl
  | 51, _ => by kernel_rfl
  | 52, _ => by kernel_rfl
  | 53, _ => by kernel_rfl
  | 54, _ => by kernel_rfl
  | 55, _ => by kernel_rfl
  | 56, _ => by kernel_rfl
  | 57, _ => by kernel_rfl
  | 58, _ => by kernel_rfl
  | 59, _ => by kernel_rfl
  | 60, _ => by kernel_rfl
  | 61, _ => by kernel_rfl
  | 62, _ => by kernel_rfl
  | 63, _ => by kernel_rfl
  | 64, _ => by kernel_rfl
  | 65, _ => by kernel_rfl
  | 66, _ => by kernel_rfl
  | 67, _ => by kernel_rfl
  | 68, _ => by kernel_rfl
  | 69, _ => by kernel_rfl
  | 70, _ => by kernel_rfl
  | 71, _ => by kernel_rfl
  | 72, _ => by kernel_rfl
  | 73, _ => by kernel_rfl
  | 74, _ => by kernel_rfl
  | 75, _ => by kernel_rfl
  | 76, _ => by kernel_rfl
  | 77, _ => by kernel_rfl
  | 78, _ => by kernel_rfl
  | 79, _ => by kernel_rfl
  | 80, _ => by kernel_rfl
  | 81, _ => by kernel_rfl
  | 82, _ => by kernel_rfl
  | 83, _ => by kernel_rfl
  | 84, _ => by kernel_rfl
  | 85, _ => by kernel_rfl
  | 86, _ => by kernel_rfl
  | 87, _ => by kernel_rfl
  | 88, _ => by kernel_rfl
  | 89, _ => by kernel_rfl
  | 90, _ => by kernel_rfl
  | 91, _ => by kernel_rfl
  | 92, _ => by kernel_rfl
  | 93, _ => by kernel_rfl
  | 94, _ => by kernel_rfl
  | 95, _ => by kernel_rfl
  | 96, _ => by kernel_rfl
  | 97, _ => by kernel_rfl
  | 98, _ => by kernel_rfl
  | 99, _ => by kernel_rfl
  | 100, _ => by kernel_rfl
  | 101, _ => by kernel_rfl
  | 102, _ => by kernel_rfl
  | 103, _ => by kernel_rfl
  | 104, _ => by kernel_rfl
  | 105, _ => by kernel_rfl
  | 106, _ => by kernel_rfl
  | 107, _ => by kernel_rfl
  | 108, _ => by kernel_rfl
  | 109, _ => by kernel_rfl
  | 110, _ => by kernel_rfl
  | 111, _ => by kernel_rfl
  | 112, _ => by kernel_rfl
  | 113, _ => by kernel_rfl
  | 114, _ => by kernel_rfl
  | 115, _ => by kernel_rfl
  | 116, _ => by kernel_rfl
  | 117, _ => by kernel_rfl
  | 118, _ => by kernel_rfl
  | 119, _ => by kernel_rfl
  | 120, _ => by kernel_rfl
  | 121, _ => by kernel_rfl
  | 122, _ => by kernel_rfl
  | 123, _ => by kernel_rfl
  | 124, _ => by kernel_rfl
  | 125, _ => by kernel_rfl
  | 126, _ => by kernel_rfl
  | 127, _ => by kernel_rfl
  | _ + 128, h => absurd h (by omega)
theorem hex_ok : ∀ v : Nat, v < 128 → (hexd (v / 16) < 128 ∧ hexd (v % 16) < 128) ∧ (hexd (v / 16) != 0) = true ∧ (hexd (v % 16) != 0) = true := by decide +kernel
theorem seen16 {v : Nat} (h : v < 128) : (if ((hex2 v).cps.all fun x => decide (x < 128)) = true then (hex2 v).cps.toList else Unicode.numberText (hex2 v).cps.toList) = [hexd (v / 16), hexd (v % 16)] := by
  have e := (hex_ok v h).1
  have : ((hex2 v).cps.all fun x => decide (x < 128)) = true := by
    rw [← Array.all_toList]
    show ([hexd (v / 16), hexd (v % 16)].all fun x => decide (x < 128)) = true
    simp [e.1, e.2]
  rw [if_pos this]; rfl
theorem seen16' {v : Nat} (h : v < 128) : [hexd (v / 16), hexd (v % 16)].takeWhile (fun x => x != 0) = [hexd (v / 16), hexd (v % 16)] := by
  have e := (hex_ok v h).2
  rw [List.takeWhile_cons, if_pos e.1, List.takeWhile_cons, if_pos e.2, List.takeWhile_nil]
theorem g16 (t u : Tok) {v : Nat} (hv : v < 128) : Gives (Builtin.«int.__new__» ⟨[.type "int", .str (hex2 v) t, .int 16 u], []⟩) (Made.int v) := 
  .of_wp fun M A E s Q h => by
    obtain ⟨hp, g, d, tk, os⟩ := s
    have f1 := F.conv_sub_int
    have f2 := F.madeHere_int
    repeat (any_goals (first | assumption | wp_step))
    all_goals (rw [seen16 hv, seen16' hv])
    all_goals (refine wpAny_ite_true (by rw [decide_eq_true_eq]; exact (by omega : 2 ≤ 640)) ?_)
    repeat (any_goals (first | assumption | ((with_reducible show wpAny _ _ (pure 0 >>= _) _ _ _); refine wpAny_bind (wpAny_pure ?_); dsimp only; rw [read16 v hv]; dsimp only) | wp_step))
    all_goals exact ⟨_, rfl, h⟩
theorem call_int16 {prog : Program} {w : World} {A : Around} {E : Value → Shared → Prop} {s : Shared} {v : Nat} {t u : Tok} {Q : Value → Shared → Prop} (hv : v < 128) (h : Q (.int v s.toks) { s with toks := s.toks + 1 }) : wpAny (model prog w) A (call (.type "int") [.str (hex2 v) t, .int 16 u]) Q E s :=
  callType_new F.called_int F.newNe_int (FF.typeCall_int_2 _ _) (FF.newCall_int_2 _ _) (fun obj => FF.args_object_init_3 obj _ _) F.entry_int_new (g16 t u hv).meets (show (Made.int v).post _ s from ⟨rfl, h⟩)
end Mine
end
section
open PySem PySem.W PyProof.Rows PySem.Calls Builtin Builtin.ObjectAttr
namespace Mine
set_option maxRecDepth 100000
set_option maxHeartbeats 8000000
local macro_rules | `(tactic| walk_at "getAttr ref") => `(tactic| (k_here; k_dflt (refine' hk_bound ?k1 ?k2 ?k3 ?k4 ?k5 ?kh ?k6 ?k7 ?k8 ?k9 ?k10 ?k11 ?k12 ?_; (case k4 => k_inst); (case k1 => k_asm); (case k2 => k_asm); (case k3 => k_asm); (case k5 => k_is); (case kh => k_is); (case k6 => k_is); (case k7 => k_is); (case k8 => k_is); (case k9 => k_is); (case k10 => k_is); (case k11 => decide +kernel); (case k12 => k_get); k_whole); intro q' h' F' N' l1; (try k_lt l1); (try k_sweep)))
local macro_rules | `(tactic| walk_at "getAttr ref") => `(tactic| (k_here; k_dflt (refine' hk_own ?k1 ?k2 ?k3 ?k4 ?k5 ?k6 ?k7 ?k8 ?k9 ?_; (case k1 => k_asm); (case k2 => k_asm); (case k3 => k_inst); (case k4 => k_is); (case k5 => k_is); (case k6 => k_is); (case k7 => k_is); (case k8 => k_get); (case k9 => k_handed); k_whole)))
local macro_rules | `(tactic| walk_at "getMethod ref") => `(tactic| (k_here; k_dflt (refine' hk_method ?k1 ?k2 ?k3 ?k4 ?k5 ?_; (case k1 => k_asm); (case k2 => k_asm); (case k3 => k_inst); (case k4 => k_is); (case k5 => k_is); k_whole)))
local macro_rules | `(tactic| ktr_enter) => `(tactic| (refine' code_def ?k1 ?k2 ?k3 ?k4 ?k5 ?kA ?kF ?kK ?k6 ?k7 ?k8 ?k9 ?kB ?_ ?c2 ?c3 ?c4 ?c5; (case kA => exact rfl); (case kF => exact rfl); (case kK => first | assumption | exact rfl); (case k1 => k_asm); (case k2 => k_asm); (case k3 => k_asm); (case k4 => k_asm); (case k5 => k_asm); (case k6 => k_is); (case k7 => k_is); (case k8 => ktr_room); (case k9 => first | exact BindsTo.of_eq rfl | exact binds_K (by k_in) rfl (by k_is) rfl rfl rfl); (case c5 => decide); (case kB => exact locs rfl); (case c2 => exact rfl); (case c3 => exact rfl); (case c4 => exact rfl); k_whole; intro g' L' h' FG' F' N' B' X' T'; (try dsimp only); (try k_lift B'); (try k_fold)))
local macro_rules | `(tactic| ktr_call $c:term 0) => `(tactic| (refine wpAny_call ?_; k_dflt (refine' ct_use $c ?k1 ?k2 ?k3 ?k4 ?k5 ?kK ?kd ?ku ?kp ?_; (case k1 => k_asm); (case k2 => k_asm); (case k3 => k_asm); (case k4 => k_asm); (case k5 => k_asm); (case kK => first | assumption | exact rfl); (case kd => ktr_room); (case ku => ktr_units))))
local macro_rules | `(tactic| ktr_call $c:term 1) => `(tactic| (refine' call_meth ?N ?q ?_; (case N => k_asm); (case q => k_mem); k_dflt (refine' ct_use $c ?k1 ?k2 ?k3 ?k4 ?k5 ?kK ?kd ?ku ?kp ?_; (case k1 => k_asm); (case k2 => k_asm); (case k3 => k_asm); (case k4 => k_asm); (case k5 => k_asm); (case kK => first | assumption | exact rfl); (case kd => ktr_room); (case ku => ktr_units))))
local macro_rules | `(tactic| k_mem) => `(tactic| first | assumption | exact List.mem_cons_self .. | (refine' List.mem_cons_of_mem _ ?_; k_mem))
local macro_rules | `(tactic| kst_same) => `(tactic| (intro z h1 h2 h3; (simp only [List.forall_mem_cons, List.not_mem_nil, false_implies, implies_true, and_true, ne_eq] at h2); (simp only [List.contains_cons, List.contains_nil, Bool.or_false, Bool.or_eq_false_iff, beq_eq_false_iff_ne, ne_eq] at h3); (simp [kstB, h1, h2, h3]; done)))
local macro_rules | `(tactic| kby_size) => `(tactic| (rw [PySem.sizeLine_eq]; omega))
local macro_rules | `(tactic| walk_at "call builtin:str.lstrip") => `(tactic| (k_here; (refine KXw.lstrip (by assumption) (by kby_size) ?_); intro _ _))
local macro_rules | `(tactic| walk_at "call builtin:str.strip") => `(tactic| (k_here; (refine KXw.strip (by assumption) (by kby_size) ?_); intro _ _))
local macro_rules | `(tactic| walk_at "call builtin:str.strip") => `(tactic| (k_here; (refine KXw.stripChars (by assumption) (by kby_size) ?_); intro _ _))
local macro_rules | `(tactic| walk_at "call builtin:str.upper") => `(tactic| (k_here; (refine KXw.upper (by assumption) (by decide +kernel) ?_); intro _ _))
local macro_rules | `(tactic| walk_at "call builtin:str.partition") => `(tactic| (k_here; (refine KXpa.partition (by k_asm) (by k_asm) (by decide) (by assumption) (by assumption) (by assumption) (by kby_size) ?_); intro D' _ _ _ _ _ F' N' l1; (try k_lt l1)))
local macro_rules | `(tactic| walk_at "call builtin:str.split") => `(tactic| (k_here; (refine KSpl.split1 (by k_asm) (by k_asm) (by decide) ?_ (by kby_size)); intro D' _ _ _ _ _ F' N' l1; (try k_lt l1)))
theorem sl_of {x : Str} {cs J : List Nat} (hx : x.cps.toList = cs ++ J) {i j : Int} (h : 0 ≤ i ∧ i ≤ j ∧ j ≤ cs.length) {y : Str} (hy : ((cs.drop i.toNat).take (j - i).toNat) = y.cps.toList) : Txt.slice x (some i) (some j) = y := by
  have hl : x.cps.toList.length = cs.length + J.length := by rw [hx, List.length_append]
  refine (eq_of_beq (slice_closes (x := x) ⟨h.1, h.2.1, by omega⟩)).trans (PySem.Str.ext' (Array.toList_inj.mp ?_))
  show (x.cps.toList.drop i.toNat).take (j - i).toNat = y.cps.toList
  rw [hx, ← hy, List.drop_append_of_le_length (by omega), List.take_append_of_le_length (by rw [List.length_drop]; omega)]
theorem sl_to {x : Str} {cs J : List Nat} (hx : x.cps.toList = cs ++ J) {j : Int} (h : 0 ≤ j ∧ j ≤ cs.length) {y : Str} (hy : (cs.take j.toNat) = y.cps.toList) : Txt.slice x none (some j) = y := by
  have hl : x.cps.toList.length = cs.length + J.length := by rw [hx, List.length_append]
  refine (eq_of_beq (slice_closes_to (x := x) ⟨h.1, by omega⟩)).trans (PySem.Str.ext' (Array.toList_inj.mp ?_))
  show (x.cps.toList.drop 0).take (j - 0).toNat = y.cps.toList
  rw [hx, ← hy, List.drop_zero, List.take_append_of_le_length (by omega)]
  congr 1
  omega
theorem sl_from {x : Str} {cs J : List Nat} (hx : x.cps.toList = cs ++ J) {i : Int} (h : i = cs.length) {y : Str} (hy : J = y.cps.toList) : Txt.slice x (some i) none = y := by
  have hl : x.cps.toList.length = cs.length + J.length := by rw [hx, List.length_append]
  refine (eq_of_beq (slice_closes_from (x := x) ⟨by omega, by omega⟩)).trans (PySem.Str.ext' (Array.toList_inj.mp ?_))
  show (x.cps.toList.drop i.toNat).take ((x.cps.toList.length : Int) - i).toNat = y.cps.toList
  rw [hl, hx, ← hy, show i.toNat = cs.length by omega, List.drop_left, show (((cs.length + J.length : Nat) : Int) - i).toNat = J.length by omega, List.take_length]
theorem sl_all {x : Str} {j : Int} (h : j = x.cps.toList.length) : Txt.slice x none (some j) = x :=
  sl_to (cs := x.cps.toList) (J := []) (by simp) ⟨by omega, by omega⟩ (by rw [h, Int.toNat_natCast, List.take_length])
theorem lstrip_same {x : Str} {c : Nat} {r : List Nat} (hx : x.cps.toList = c :: r) (hc : Unicode.isSpace c = false) : Txt.lstrip x = x := by
  have e : stripLo Unicode.isSpace true x = 0 := by
    unfold stripLo
    rw [if_pos rfl, hx, List.takeWhile_cons, if_neg (by rw [hc]; decide)]
    rfl
  unfold Txt.lstrip Txt.stripBy
  rw [if_pos]
  unfold stripSame
  rw [e]
  simp [stripHi]
theorem star_is : Str.ofString "*" = ⟨#[42]⟩ := by decide +kernel
theorem part_at {x : Str} {p q : List Nat} (hx : x.cps.toList = p ++ 42 :: q) (hp : 42 ∉ p) : Txt.partition x (Str.ofString "*") = (⟨p.toArray⟩, Str.ofString "*", ⟨q.toArray⟩) := by
  rw [star_is]
  have hl : x.length = p.length + (q.length + 1) := by
    show x.cps.toList.length = _
    rw [hx, List.length_append, List.length_cons]
  have hat : ∀ i, StrLaws.At x ⟨#[42]⟩ x.length i ↔ x.cps.toList[i]? = some 42 := fun i => StrLaws.subAt_one x 42 i
  have hy : StrLaws.At x ⟨#[42]⟩ x.length p.length := (hat _).mpr (by rw [hx, List.getElem?_append_right (Nat.le_refl _)]; simp)
  rcases StrLaws.occ_head x ⟨#[42]⟩ 1 (Nat.le_refl _) with ⟨_, hn⟩ | ⟨i, r, ho, hi, hm⟩
  · exact absurd hy (hn _)
  · have h1 : i ≤ p.length := by
      false_or_by_contra
      exact hm _ (by omega) hy
    have h2 : i = p.length := by
      false_or_by_contra
      have hlt : i < p.length := by omega
      have e := (hat i).mp hi
      rw [hx, List.getElem?_append_left hlt] at e
      exact hp (List.mem_of_getElem? e)
    unfold Txt.partition
    rw [ho, h2]
    show (_, _, _) = (_, _, _)
    have e1 : Builtin.Str.strSub x 0 p.length = ⟨p.toArray⟩ := PySem.Str.ext' (Array.toList_inj.mp (by rw [StrLaws.strSub_toList, hx]; simp))
    have e2 : Builtin.Str.strSub x (p.length + (⟨#[42]⟩ : Str).length) x.length = ⟨q.toArray⟩ := PySem.Str.ext' (Array.toList_inj.mp (by
      rw [StrLaws.strSub_toList, hx, hl, show p.length + (⟨#[42]⟩ : Str).length = p.length + 1 from rfl, show p ++ 42 :: q = (p ++ [42]) ++ q by simp, List.drop_left' (by simp), show p.length + (q.length + 1) - (p.length + 1) = q.length by omega, List.take_length]))
    rw [e1, e2]
theorem strip_hex : ∀ v, v < 128 → Txt.stripChars (hex2 v) (Str.ofString "0123456789ABCDEFabcdef") = Str.ofString "" := by decide +kernel
theorem strip_none : Txt.strip (Str.ofString "") = Str.ofString "" := by decide +kernel
theorem star_ne {row : List Str} (hr : OkRow row) (head : Str) (hh : (head.cps.toList.all fun c => decide (c < 128 ∧ c ≠ 42)) = true) : 42 ∉ (Str.ofString "$" ++ bodyT head row).cps.toList := by
  intro hm
  rw [PySem.Str.cps_append, Array.toList_append] at hm
  rcases List.mem_append.mp hm with hm | hm
  · have : (Str.ofString "$").cps.toList = [36] := by decide +kernel
    rw [this] at hm
    simp at hm
  · exact (body_plain hr hh _ hm).2 rfl
theorem line_cps (B : Str) : (lineT B).cps.toList = (Str.ofString "$" ++ B).cps.toList ++ 42 :: (hex2 (ck B)).cps.toList := by
  unfold lineT
  simp only [PySem.Str.cps_append, Array.toList_append, List.append_assoc]
  rfl
theorem line_part {row : List Str} (hr : OkRow row) (head : Str) (hh : (head.cps.toList.all fun c => decide (c < 128 ∧ c ≠ 42)) = true) : Txt.partition (lineT (bodyT head row)) (Str.ofString "*") = (Str.ofString "$" ++ bodyT head row, Str.ofString "*", hex2 (ck (bodyT head row))) :=
  part_at (line_cps _) (star_ne hr head hh)
theorem line_lstrip (B : Str) : Txt.lstrip (lineT B) = lineT B := lstrip_same (c := 36) (r := B.cps.toList ++ 42 :: (hex2 (ck B)).cps.toList) (by
  rw [line_cps, PySem.Str.cps_append, Array.toList_append]
  have : (Str.ofString "$").cps.toList = [36] := by decide +kernel
  rw [this]; rfl) (by decide +kernel)
theorem body_cps (head : Str) (row : List Str) : (bodyT head row).cps.toList = head.cps.toList ++ (Txt.join "," row).cps.toList := by
  unfold bodyT
  rw [PySem.Str.cps_append, Array.toList_append]
theorem dollar_cps (B : Str) : (Str.ofString "$" ++ B).cps.toList = [36] ++ B.cps.toList := by
  rw [PySem.Str.cps_append, Array.toList_append]
  have : (Str.ofString "$").cps.toList = [36] := by decide +kernel
  rw [this]
section
variable {prog : Program} {w : World} {A : Around} {E : Value → Shared → Prop} {s : Shared} {h₀ : Heap} {L : Addr} {m : Str → Option Value} {news : List (Addr × Obj)} {x y : Str} {t : Tok} {Q : Value → Shared → Prop} {value slice : PySem.Expr}
theorem sw_ns {j : Int} {uj : Tok} (hF : Fr h₀ L s.heap m) (hN : News h₀ L s.heap news) (e : Txt.slice x none (some j) = y) (hsz : x.length ≤ sizeLine) (h : ∀ h' t' k, Fr h₀ L h' m → News h₀ L h' news → Q (.str y t') { s with heap := h', toks := k })
    (hs : subscripted slice false (.str x t) (.ref s.heap.objs.size) = operate [.ref s.heap.objs.size, .str x t] (getItem (.str x t) (.ref s.heap.objs.size)) := by with_unfolding_all rfl)
    (ht : ∀ r, letTemporaryGo value (.str x t) r = pure () := by intro _; with_unfolding_all rfl) :
    wpAny (model prog w) A (subscriptTail value slice (.str x t) (.ref s.heap.objs.size)) Q E { s with heap := s.heap.push { cls := .type "slice", data := .fields #[.none, .int j uj, .none] } } := by
  subst e
  exact slice_strN_ns hF hN h hs ht hsz
theorem sw_sn {i : Int} {ui : Tok} (hF : Fr h₀ L s.heap m) (hN : News h₀ L s.heap news) (e : Txt.slice x (some i) none = y) (hsz : x.length ≤ sizeLine) (h : ∀ h' t' k, Fr h₀ L h' m → News h₀ L h' news → Q (.str y t') { s with heap := h', toks := k })
    (hs : subscripted slice false (.str x t) (.ref s.heap.objs.size) = operate [.ref s.heap.objs.size, .str x t] (getItem (.str x t) (.ref s.heap.objs.size)) := by with_unfolding_all rfl)
    (ht : ∀ r, letTemporaryGo value (.str x t) r = pure () := by intro _; with_unfolding_all rfl) :
    wpAny (model prog w) A (subscriptTail value slice (.str x t) (.ref s.heap.objs.size)) Q E { s with heap := s.heap.push { cls := .type "slice", data := .fields #[.int i ui, .none, .none] } } := by
  subst e
  exact slice_strN_sn hF hN h hs ht hsz
theorem sw_ss {i j : Int} {ui uj : Tok} (hF : Fr h₀ L s.heap m) (hN : News h₀ L s.heap news) (e : Txt.slice x (some i) (some j) = y) (hsz : x.length ≤ sizeLine) (h : ∀ h' t' k, Fr h₀ L h' m → News h₀ L h' news → Q (.str y t') { s with heap := h', toks := k })
    (hs : subscripted slice false (.str x t) (.ref s.heap.objs.size) = operate [.ref s.heap.objs.size, .str x t] (getItem (.str x t) (.ref s.heap.objs.size)) := by with_unfolding_all rfl)
    (ht : ∀ r, letTemporaryGo value (.str x t) r = pure () := by intro _; with_unfolding_all rfl) :
    wpAny (model prog w) A (subscriptTail value slice (.str x t) (.ref s.heap.objs.size)) Q E { s with heap := s.heap.push { cls := .type "slice", data := .fields #[.int i ui, .int j uj, .none] } } := by
  subst e
  exact slice_strN_ss hF hN h hs ht hsz
end
section
variable {prog : Program} {w : World} {A : Around} {E : Value → Shared → Prop} {s : Shared} {x y z : Str} {t u v : Tok} {Q : Value → Shared → Prop}
theorem call_replace_none (ho : ((Builtin.Str.occurrences x y 0 x.length (x.length + 1)).isEmpty || (y.length == 0 && z.length == 0)) = true) (h : Q (.str x t) s) :
    wpAny (model prog w) A (call (.builtin "str.replace") [.str x t, .str y u, .str z v]) Q E s := by
  refine call_gives PySem.F.slot_str_replace (typeIs_str _ _ _) PySem.F.entry_str_replace (PySem.F.args_str_replace_3 _ _ _)
    (gives_str_replace x y z t u v fun hc => absurd (ho.symm.trans hc) (by decide)) ?_
  rw [if_pos ho]
  exact h
end
theorem noBool_type : typeLookup (.type "type") "__bool__" = pure none := by rw [typeLookup_type, builtinLookup_eq_fast]; kernel_rfl
theorem noLen_type : typeLookup (.type "type") "__len__" = pure none := by rw [typeLookup_type, builtinLookup_eq_fast]; kernel_rfl
theorem truthy_class {prog : Program} {w : World} {A : Around} {E : Value → Shared → Prop} {s : Shared} {K : Frag} {a : Addr} {o : Obj} {Q : Bool → Shared → Prop} {h₀ : Heap} {L : Addr} {m : Str → Option Value} (F : Fr h₀ L s.heap m) (X : K.In h₀) (hk : K.lookup a = some o) (hc : o.cls = .type "type") (h : Q true s) : wpAny (model prog w) A (truthy (.ref a)) Q E s := by
  have hT : s.TypeIs (.ref a) "type" := ⟨o, X.keeps F.keep _ _ hk, hc⟩
  unfold truthy
  refine wpAny_bind (wpAny_callSpecial?_none (name := Str.ofString "__bool__") hT noBool_type ?_)
  refine wpAny_bind (wpAny_specialOf (name := Str.ofString "__len__") hT noLen_type ?_)
  exact wpAny_pure h
theorem ne_self {prog : Program} {w : World} {A : Around} {E : Value → Shared → Prop} {s : Shared} {x : Int} {t u : Tok} {Q : Value → Shared → Prop} (h : Q (.bool false) s) : wpAny (model prog w) A (compareOp .NotEq (.int x t) (.int x u)) Q E s := by
  refine PyProof.Rows.ne_int ?_
  simpa using h
theorem off_lt {d : Addr} {news : Led} (h : ∀ p ∈ news, p.1 < d) : ∀ p ∈ news, p.1 ≠ d := fun p hp => Nat.ne_of_lt (h p hp)
theorem off_alt {d : Addr} {news : Led} (h : AllLt d news) : ∀ p ∈ news, p.1 ≠ d := fun p hp => Nat.ne_of_lt (kst_ltOf h p hp)
theorem allLt_mono {a b : Addr} (h : @LT.lt Nat _ a b) : ∀ {news : Led}, AllLt a news → AllLt b news
  | [], _ => trivial
  | _ :: _, x => ⟨Nat.lt_trans x.1 h, allLt_mono h x.2⟩

end Mine
end
section
open PySem PySem.W PyProof.Rows PySem.Calls Builtin Builtin.ObjectAttr
namespace Mine
set_option maxRecDepth 100000
set_option maxHeartbeats 8000000
local macro_rules | `(tactic| walk_at "getAttr ref") => `(tactic| (k_here; k_dflt (refine' hk_bound ?k1 ?k2 ?k3 ?k4 ?k5 ?kh ?k6 ?k7 ?k8 ?k9 ?k10 ?k11 ?k12 ?_; (case k4 => k_inst); (case k1 => k_asm); (case k2 => k_asm); (case k3 => k_asm); (case k5 => k_is); (case kh => k_is); (case k6 => k_is); (case k7 => k_is); (case k8 => k_is); (case k9 => k_is); (case k10 => k_is); (case k11 => decide +kernel); (case k12 => k_get); k_whole); intro q' h' F' N' l1; (try k_lt l1); (try k_sweep)))
local macro_rules | `(tactic| walk_at "getAttr ref") => `(tactic| (k_here; k_dflt (refine' hk_own ?k1 ?k2 ?k3 ?k4 ?k5 ?k6 ?k7 ?k8 ?k9 ?_; (case k1 => k_asm); (case k2 => k_asm); (case k3 => k_inst); (case k4 => k_is); (case k5 => k_is); (case k6 => k_is); (case k7 => k_is); (case k8 => k_get); (case k9 => k_handed); k_whole)))
local macro_rules | `(tactic| walk_at "getMethod ref") => `(tactic| (k_here; k_dflt (refine' hk_method ?k1 ?k2 ?k3 ?k4 ?k5 ?_; (case k1 => k_asm); (case k2 => k_asm); (case k3 => k_inst); (case k4 => k_is); (case k5 => k_is); k_whole)))
local macro_rules | `(tactic| ktr_enter) => `(tactic| (refine' code_def ?k1 ?k2 ?k3 ?k4 ?k5 ?kA ?kF ?kK ?k6 ?k7 ?k8 ?k9 ?kB ?_ ?c2 ?c3 ?c4 ?c5; (case kA => exact rfl); (case kF => exact rfl); (case kK => first | assumption | exact rfl); (case k1 => k_asm); (case k2 => k_asm); (case k3 => k_asm); (case k4 => k_asm); (case k5 => k_asm); (case k6 => k_is); (case k7 => k_is); (case k8 => ktr_room); (case k9 => first | exact BindsTo.of_eq rfl | exact binds_K (by k_in) rfl (by k_is) rfl rfl rfl); (case c5 => decide); (case kB => exact locs rfl); (case c2 => exact rfl); (case c3 => exact rfl); (case c4 => exact rfl); k_whole; intro g' L' h' FG' F' N' B' X' T'; (try dsimp only); (try k_lift B'); (try k_fold)))
local macro_rules | `(tactic| ktr_call $c:term 0) => `(tactic| (refine wpAny_call ?_; k_dflt (refine' ct_use $c ?k1 ?k2 ?k3 ?k4 ?k5 ?kK ?kd ?ku ?kp ?_; (case k1 => k_asm); (case k2 => k_asm); (case k3 => k_asm); (case k4 => k_asm); (case k5 => k_asm); (case kK => first | assumption | exact rfl); (case kd => ktr_room); (case ku => ktr_units))))
local macro_rules | `(tactic| ktr_call $c:term 1) => `(tactic| (refine' call_meth ?N ?q ?_; (case N => k_asm); (case q => k_mem); k_dflt (refine' ct_use $c ?k1 ?k2 ?k3 ?k4 ?k5 ?kK ?kd ?ku ?kp ?_; (case k1 => k_asm); (case k2 => k_asm); (case k3 => k_asm); (case k4 => k_asm); (case k5 => k_asm); (case kK => first | assumption | exact rfl); (case kd => ktr_room); (case ku => ktr_units))))
local macro_rules | `(tactic| k_mem) => `(tactic| first | assumption | exact List.mem_cons_self .. | (refine' List.mem_cons_of_mem _ ?_; k_mem))
local macro_rules | `(tactic| kst_same) => `(tactic| (intro z h1 h2 h3; (simp only [List.forall_mem_cons, List.not_mem_nil, false_implies, implies_true, and_true, ne_eq] at h2); (simp only [List.contains_cons, List.contains_nil, Bool.or_false, Bool.or_eq_false_iff, beq_eq_false_iff_ne, ne_eq] at h3); (simp [kstB, h1, h2, h3]; done)))
local macro_rules | `(tactic| kby_size) => `(tactic| (rw [PySem.sizeLine_eq]; omega))
local macro_rules | `(tactic| walk_at "call builtin:str.lstrip") => `(tactic| (k_here; (refine KXw.lstrip (by assumption) (by kby_size) ?_); intro _ _))
local macro_rules | `(tactic| walk_at "call builtin:str.strip") => `(tactic| (k_here; (refine KXw.strip (by assumption) (by kby_size) ?_); intro _ _))
local macro_rules | `(tactic| walk_at "call builtin:str.strip") => `(tactic| (k_here; (refine KXw.stripChars (by assumption) (by kby_size) ?_); intro _ _))
local macro_rules | `(tactic| walk_at "call builtin:str.upper") => `(tactic| (k_here; (refine KXw.upper (by assumption) (by decide +kernel) ?_); intro _ _))
local macro_rules | `(tactic| walk_at "call builtin:str.partition") => `(tactic| (k_here; (refine KXpa.partition (by k_asm) (by k_asm) (by decide) (by assumption) (by assumption) (by assumption) (by kby_size) ?_); intro D' _ _ _ _ _ F' N' l1; (try k_lt l1)))
local macro_rules | `(tactic| walk_at "call builtin:str.split") => `(tactic| (k_here; (refine KSpl.split1 (by k_asm) (by k_asm) (by decide) ?_ (by kby_size)); intro D' _ _ _ _ _ F' N' l1; (try k_lt l1)))
section
variable {prog : Program} {w : World} {A : Around} {E : Value → Shared → Prop} {s : Shared}
/-- a tuple's iterator, asked from within a builtin -/
theorem nextOf_tup {it t : Addr} {i : Nat} {items : Array Value} {Q : Value → Shared → Prop} (hh : A.handled = none) (hit : IsTupIter s.heap it t i) (ht : IsTup s.heap t items)
    (hQ : ∀ x h', items[i]? = some x → IsTupIter h' it t (i + 1) → Heap.SameBut it s.heap h' → Q x { s with heap := h' })
    (hE : items[i]? = none → ∀ h' e, Heap.ExtBut it s.heap h' → (∃ o, h'.get? e = some o ∧ o.cls = .type "StopIteration") → E (.ref e) { s with heap := h' }) :
    wpAny (model prog w) A (Builtin.SmallTypes.nextOf (.ref it)) Q E s := by
  obtain ⟨oi, hoi, hci, hdi⟩ := id hit
  obtain ⟨ot, hot, _, nt, hdt⟩ := ht
  unfold Builtin.SmallTypes.nextOf
  refine wpAny_bind (wpAny_callSpecial?_slot (name := Str.ofString "__next__") hit.typeIs slot_tupleiter_next (wpAny_call_entry slot_tupleiter_next hit.typeIs entry_tupleiter_next ?_ (args_tupleiter_next _)))
  show wpAny _ _ (field (.ref it) 0 >>= _) _ _ s
  refine wpAny_bind (wpAny_field hoi hdi (x := .ref t) rfl ?_)
  show wpAny _ _ (if (Value.ref t == Value.none) = true then _ else _) _ _ s
  rw [if_neg (show ¬ ((Value.ref t == Value.none) = true) from Bool.false_ne_true)]
  show wpAny _ _ (field (.ref it) 1 >>= _) _ _ s
  refine wpAny_bind (wpAny_field hoi hdi (x := .int i 0) rfl ?_)
  show wpAny _ _ (seqItems? (.ref t) >>= _) _ _ s
  refine wpAny_bind (wpAny_seqItems hot hdt ?_)
  cases hx : items[i]? with
  | some x =>
    simp only [Int.toNat_natCast, hx]
    refine wpAny_bind (wpAny_setField hoi hdi (by simp) (wpAny_pure ⟨x, rfl, wpAny_pure (hQ x _ hx ?_ (Heap.SameBut.update ..))⟩))
    exact ⟨_, Heap.get?_update_self _ hoi (Obj.isFreed_of_fields (Obj.data_mapFields hdi _)), (Obj.cls_mapFields ..).trans hci, by rw [Obj.data_mapFields hdi]; simp [rawInt]⟩
  | none =>
    simp only [Int.toNat_natCast, hx]
    refine wpAny_bind (wpAny_rule (wpAny_bind (wpAny_setField hoi hdi (by simp) ?_)))
    show wpAny _ _ (newExc (.type "StopIteration") [] >>= _) _ _ _
    refine wpAny_bind ?_
    simp only [newExc, newTuple]
    refine wpAny_bind (wpAny_newObj_type ?_ (by size_fits))
    refine wpAny_bind (m := firstArgMember _ _) (wpAny_of_eq (a := Value.none) (by first | rfl | (simp only [firstArgMember]; rfl)) ?_)
    refine wpAny_newObj_type ?_ (by size_fits)
    simp only [raiseNew]
    refine wpAny_bind (wpAny_handled ?_)
    first | rw [show A.in1.handled = none from hh] | rw [hh]
    refine wpAny_bind (wpAny_pure (wpAny_throw ?_))
    exact hE hx _ _ (((Heap.SameBut.update ..).extBut.push _).push _) ⟨_, Heap.get?_push_size _ rfl, rfl⟩
end
theorem tupIter_at {h h' : Heap} {it t : Addr} {i : Nat} (x : IsTupIter h it t i) (hk : ∀ o, h.get? it = some o → h'.get? it = some o) : IsTupIter h' it t i := by
  obtain ⟨o, ho, r⟩ := x
  exact ⟨o, hk o ho, r⟩
theorem tup_at {h h' : Heap} {t : Addr} {its : Array Value} (x : IsTup h t its) (hk : ∀ o, h.get? t = some o → h'.get? t = some o) : IsTup h' t its := by
  obtain ⟨o, ho, r⟩ := x
  exact ⟨o, hk o ho, r⟩
theorem draws_tup {prog : Program} {w : World} {A : Around} (hh : A.handled = none) (it t : Addr) (hne : t ≠ it) (items : Array Value) :
    Draws prog w A it [it, t] items.size (fun i v => items[i]? = some v) (fun i h => IsTupIter h it t i ∧ IsTup h t items) where
  live := fun _ _ st => let ⟨o, ho, _⟩ := st.1; ⟨o, ho⟩
  frame := fun _ _ _ st hk => ⟨tupIter_at st.1 fun o e => hk it (by simp) o e, tup_at st.2 fun o e => hk t (by simp) o e⟩
  item := fun i s Q E hi st hQ => by
    refine nextOf_tup hh st.1 st.2 (fun x h' hx hit' hs' => hQ x h' s.toks hx ⟨hit', tup_at st.2 fun o e => (hs'.2 t hne).trans e⟩ hs') fun hx => ?_
    rw [Array.getElem?_eq_getElem hi] at hx
    cases hx
  done := fun s Q E st hE => by
    refine nextOf_tup hh st.1 st.2 (fun x h' hx => ?_) fun _ => hE
    rw [Array.getElem?_eq_none (Nat.le_refl _)] at hx
    cases hx

end Mine
end
section
open PySem PySem.W PyProof.Rows PySem.Calls Builtin Builtin.ObjectAttr
namespace Mine
set_option maxRecDepth 100000
set_option maxHeartbeats 8000000
local macro_rules | `(tactic| walk_at "getAttr ref") => `(tactic| (k_here; k_dflt (refine' hk_bound ?k1 ?k2 ?k3 ?k4 ?k5 ?kh ?k6 ?k7 ?k8 ?k9 ?k10 ?k11 ?k12 ?_; (case k4 => k_inst); (case k1 => k_asm); (case k2 => k_asm); (case k3 => k_asm); (case k5 => k_is); (case kh => k_is); (case k6 => k_is); (case k7 => k_is); (case k8 => k_is); (case k9 => k_is); (case k10 => k_is); (case k11 => decide +kernel); (case k12 => k_get); k_whole); intro q' h' F' N' l1; (try k_lt l1); (try k_sweep)))
local macro_rules | `(tactic| walk_at "getAttr ref") => `(tactic| (k_here; k_dflt (refine' hk_own ?k1 ?k2 ?k3 ?k4 ?k5 ?k6 ?k7 ?k8 ?k9 ?_; (case k1 => k_asm); (case k2 => k_asm); (case k3 => k_inst); (case k4 => k_is); (case k5 => k_is); (case k6 => k_is); (case k7 => k_is); (case k8 => k_get); (case k9 => k_handed); k_whole)))
local macro_rules | `(tactic| walk_at "getMethod ref") => `(tactic| (k_here; k_dflt (refine' hk_method ?k1 ?k2 ?k3 ?k4 ?k5 ?_; (case k1 => k_asm); (case k2 => k_asm); (case k3 => k_inst); (case k4 => k_is); (case k5 => k_is); k_whole)))
local macro_rules | `(tactic| ktr_enter) => `(tactic| (refine' code_def ?k1 ?k2 ?k3 ?k4 ?k5 ?kA ?kF ?kK ?k6 ?k7 ?k8 ?k9 ?kB ?_ ?c2 ?c3 ?c4 ?c5; (case kA => exact rfl); (case kF => exact rfl); (case kK => first | assumption | exact rfl); (case k1 => k_asm); (case k2 => k_asm); (case k3 => k_asm); (case k4 => k_asm); (case k5 => k_asm); (case k6 => k_is); (case k7 => k_is); (case k8 => ktr_room); (case k9 => first | exact BindsTo.of_eq rfl | exact binds_K (by k_in) rfl (by k_is) rfl rfl rfl); (case c5 => decide); (case kB => exact locs rfl); (case c2 => exact rfl); (case c3 => exact rfl); (case c4 => exact rfl); k_whole; intro g' L' h' FG' F' N' B' X' T'; (try dsimp only); (try k_lift B'); (try k_fold)))
local macro_rules | `(tactic| ktr_call $c:term 0) => `(tactic| (refine wpAny_call ?_; k_dflt (refine' ct_use $c ?k1 ?k2 ?k3 ?k4 ?k5 ?kK ?kd ?ku ?kp ?_; (case k1 => k_asm); (case k2 => k_asm); (case k3 => k_asm); (case k4 => k_asm); (case k5 => k_asm); (case kK => first | assumption | exact rfl); (case kd => ktr_room); (case ku => ktr_units))))
local macro_rules | `(tactic| ktr_call $c:term 1) => `(tactic| (refine' call_meth ?N ?q ?_; (case N => k_asm); (case q => k_mem); k_dflt (refine' ct_use $c ?k1 ?k2 ?k3 ?k4 ?k5 ?kK ?kd ?ku ?kp ?_; (case k1 => k_asm); (case k2 => k_asm); (case k3 => k_asm); (case k4 => k_asm); (case k5 => k_asm); (case kK => first | assumption | exact rfl); (case kd => ktr_room); (case ku => ktr_units))))
local macro_rules | `(tactic| k_mem) => `(tactic| first | assumption | exact List.mem_cons_self .. | (refine' List.mem_cons_of_mem _ ?_; k_mem))
local macro_rules | `(tactic| kst_same) => `(tactic| (intro z h1 h2 h3; (simp only [List.forall_mem_cons, List.not_mem_nil, false_implies, implies_true, and_true, ne_eq] at h2); (simp only [List.contains_cons, List.contains_nil, Bool.or_false, Bool.or_eq_false_iff, beq_eq_false_iff_ne, ne_eq] at h3); (simp [kstB, h1, h2, h3]; done)))
local macro_rules | `(tactic| kby_size) => `(tactic| (rw [PySem.sizeLine_eq]; omega))
local macro_rules | `(tactic| walk_at "call builtin:str.lstrip") => `(tactic| (k_here; (refine KXw.lstrip (by assumption) (by kby_size) ?_); intro _ _))
local macro_rules | `(tactic| walk_at "call builtin:str.strip") => `(tactic| (k_here; (refine KXw.strip (by assumption) (by kby_size) ?_); intro _ _))
local macro_rules | `(tactic| walk_at "call builtin:str.strip") => `(tactic| (k_here; (refine KXw.stripChars (by assumption) (by kby_size) ?_); intro _ _))
local macro_rules | `(tactic| walk_at "call builtin:str.upper") => `(tactic| (k_here; (refine KXw.upper (by assumption) (by decide +kernel) ?_); intro _ _))
local macro_rules | `(tactic| walk_at "call builtin:str.partition") => `(tactic| (k_here; (refine KXpa.partition (by k_asm) (by k_asm) (by decide) (by assumption) (by assumption) (by assumption) (by kby_size) ?_); intro D' _ _ _ _ _ F' N' l1; (try k_lt l1)))
local macro_rules | `(tactic| walk_at "call builtin:str.split") => `(tactic| (k_here; (refine KSpl.split1 (by k_asm) (by k_asm) (by decide) ?_ (by kby_size)); intro D' _ _ _ _ _ F' N' l1; (try k_lt l1)))
/-- the heap behind «enumerate(t)», t a tuple -/
abbrev enumH (h : Heap) (t : Addr) : Heap := (h.push { cls := .type "tuple_iterator", data := .fields #[.ref t, .int 0 0] }).push { cls := .type "enumerate", data := .fields #[.none, .bool false, .ref h.objs.size, rawInt 0, .none, .none] }
theorem meets_enum_tup (t : Addr) (items : Array Value) : Meets (Builtin.«enumerate.__new__» ⟨[.type "enumerate", .ref t], []⟩) (fun _ R s => s.heap.get? t = some { cls := .type "tuple", data := .seq items } ∧
      R (.ok (.ret (.ref (s.heap.objs.size + 1)))) { s with heap := enumH s.heap t }) :=
  .of_wp fun prog w A R s h => by
    obtain ⟨hp, g, d, tk, os⟩ := s
    obtain ⟨hl, h⟩ := h
    have hsub := sub_enumerate
    have hT : IsTup (Shared.heap ⟨hp, g, d, tk, os⟩) t items := ⟨_, hl, rfl, _, rfl⟩
    wp_walk using wpAny_loadPart' hl
    refine wpAny_stack_any fun st => wpAny_pure ?_
    split
    · rename_i c _ _ _ _ _
      cases (c == Value.type "enumerate")
      · wp_walk using wpAny_loadPart' hl, iter_tuple hT
        simp only [Heap.size_push]
        exact ⟨_, rfl, h⟩
      · wp_walk using wpAny_loadPart' hl, iter_tuple hT
        simp only [Heap.size_push]
        exact ⟨_, rfl, h⟩
    · wp_walk using wpAny_loadPart' hl, iter_tuple hT
      simp only [Heap.size_push]
      exact ⟨_, rfl, h⟩
section
variable {prog : Program} {w : World} {A : Around} {E : Value → Shared → Prop} {s : Shared}
theorem call_enum_tup {t : Addr} {items : Array Value} {Q : Value → Shared → Prop} (hl : s.heap.get? t = some { cls := .type "tuple", data := .seq items })
    (h : ∀ h', IsEnum h' (s.heap.objs.size + 1) s.heap.objs.size 0 .none → IsTupIter h' s.heap.objs.size t 0 → IsTup h' t items → h'.objs.size = s.heap.objs.size + 2 → (∀ b o, s.heap.get? b = some o → h'.get? b = some o) → Q (.ref (s.heap.objs.size + 1)) { s with heap := h' }) :
    wpAny (model prog w) A (call (.type "enumerate") [.ref t]) Q E s := by
  refine callType_new PySem.F.called_enumerate (by decide) (PySem.F.typeCall_enumerate_1 _) (PySem.F.newCall_enumerate_1 _) (fun obj => PySem.F.args_object_init_2 obj _) PySem.F.entry_enumerate_new (meets_enum_tup t items) ⟨hl, ?_⟩
  have hz : (s.heap.push { cls := .type "tuple_iterator", data := .fields #[.ref t, .int 0 0] }).objs.size = s.heap.objs.size + 1 := Heap.size_push ..
  have he : IsEnum (enumH s.heap t) (s.heap.objs.size + 1) s.heap.objs.size 0 .none := by
    have := Heap.get?_push_size (s.heap.push { cls := .type "tuple_iterator", data := .fields #[.ref t, .int 0 0] }) (o := { cls := .type "enumerate", data := .fields #[.none, .bool false, .ref s.heap.objs.size, rawInt 0, .none, .none] }) rfl
    rw [hz] at this
    exact this
  have up : ∀ b o, s.heap.get? b = some o → (enumH s.heap t).get? b = some o := fun b o x => Heap.get?_push_of_some _ (Heap.get?_push_of_some _ x)
  exact ⟨⟨_, he, rfl⟩, h _ he ⟨_, Heap.get?_push_of_some _ (Heap.get?_push_size _ rfl), rfl, rfl⟩ ⟨_, up _ _ hl, rfl, _, rfl⟩ (by rw [Heap.size_push, hz]) up⟩
/-- a dict's comprehension over pairs: its turns -/
theorem dict_pairs {kx vx iter : Expr} {elts : List Expr} {x1} {tp : Pos} {scope : Scope} {pos : Pos} {it : Value} {D : Addr} {env : Env} {R : Result → Shared → Prop} (I : Nat → Shared → Prop)
    (turn : ∀ n s, I n s → wpAny (model prog w) A (pyNext it) (fun r s₁ => match r with
      | none => R (.ok .next) s₁
      | some v => wpAny (model prog w) A (letOwnedTupleGo (.Tuple elts x1 tp) it v) (fun _ s₂ => wpAny (model prog w) A (assign (.Tuple elts x1 tp) env v) (fun _ s₃ =>
          wpAny (model prog w) A (eval kx env) (fun kv s₄ => wpAny (model prog w) A (eval vx env) (fun vv s₅ => wpAny (model prog w) A (dictSet D kv vv) (fun _ s₆ => ∃ m, m < n ∧ I m s₆) (notedBy (model prog w) A env fun e s' => R (.error e) s') s₅)
            (notedBy (model prog w) A env fun e s' => R (.error e) s') s₄) (notedBy (model prog w) A env fun e s' => R (.error e) s') s₃)
          (notedBy (model prog w) A env fun e s' => R (.error e) s') s₂) (notedBy (model prog w) A env fun e s' => R (.error e) s') s₁) (notedBy (model prog w) A env fun e s' => R (.error e) s') s)
    (n : Nat) (h : I n s) : codeAny (model prog w) A (.compLoop (.DictComp kx vx [⟨.Tuple elts x1 tp, iter, [], 0⟩] scope pos) 0 it (.ref D) env) R s := by
  refine codeAny_loop rfl I (fun n s hI => ?_) n h
  show wpAny _ A ((compTurn (.DictComp kx vx [⟨.Tuple elts x1 tp, iter, [], 0⟩] scope pos) 0 it (.ref D) env).onRaise (fun x => do noteFrame x env; theTreesLotGoes x)) _ _ s
  refine wpAny_noted ?_
  rw [compTurn_dict]
  refine wpAny_bind (wpAny_standAt (wpAny_bind (wpAny_mono (turn n s hI) (fun r s₁ h₁ => ?_) fun _ _ e => e)))
  cases r with
  | none => exact wpAny_pure h₁
  | some v =>
    refine wpAny_bind (wpAny_mono h₁ (fun _ s₂ h₂ => ?_) fun _ _ e => e)
    refine wpAny_bind (wpAny_mono h₂ (fun _ s₃ h₃ => wpAny_bind (wpAny_mono (wpAny_tests_nil (Q := fun ok s' => ok = true ∧ s' = s₃) ⟨rfl, rfl⟩) (fun ok s' hok => ?_) fun _ _ e => e)) fun _ _ e => e)
    obtain ⟨rfl, rfl⟩ := hok
    exact wpAny_bind (wpAny_bind (wpAny_mono h₃ (fun kv s₄ h₄ => wpAny_bind (wpAny_holding (wpAny_mono h₄ (fun vv s₅ h₅ => wpAny_bind (wpAny_standAt (wpAny_holding (wpAny_mono h₅ (fun _ s₆ h₆ => wpAny_pure ⟨rfl, h₆⟩) fun _ _ e => e)))) fun _ _ e => e))) fun _ _ e => e))
end

end Mine
end
section
open PySem PySem.W PyProof.Rows PySem.Calls Builtin Builtin.ObjectAttr
namespace Mine
set_option maxRecDepth 100000
set_option maxHeartbeats 8000000
local macro_rules | `(tactic| walk_at "getAttr ref") => `(tactic| (k_here; k_dflt (refine' hk_bound ?k1 ?k2 ?k3 ?k4 ?k5 ?kh ?k6 ?k7 ?k8 ?k9 ?k10 ?k11 ?k12 ?_; (case k4 => k_inst); (case k1 => k_asm); (case k2 => k_asm); (case k3 => k_asm); (case k5 => k_is); (case kh => k_is); (case k6 => k_is); (case k7 => k_is); (case k8 => k_is); (case k9 => k_is); (case k10 => k_is); (case k11 => decide +kernel); (case k12 => k_get); k_whole); intro q' h' F' N' l1; (try k_lt l1); (try k_sweep)))
local macro_rules | `(tactic| walk_at "getAttr ref") => `(tactic| (k_here; k_dflt (refine' hk_own ?k1 ?k2 ?k3 ?k4 ?k5 ?k6 ?k7 ?k8 ?k9 ?_; (case k1 => k_asm); (case k2 => k_asm); (case k3 => k_inst); (case k4 => k_is); (case k5 => k_is); (case k6 => k_is); (case k7 => k_is); (case k8 => k_get); (case k9 => k_handed); k_whole)))
local macro_rules | `(tactic| walk_at "getMethod ref") => `(tactic| (k_here; k_dflt (refine' hk_method ?k1 ?k2 ?k3 ?k4 ?k5 ?_; (case k1 => k_asm); (case k2 => k_asm); (case k3 => k_inst); (case k4 => k_is); (case k5 => k_is); k_whole)))
local macro_rules | `(tactic| ktr_enter) => `(tactic| (refine' code_def ?k1 ?k2 ?k3 ?k4 ?k5 ?kA ?kF ?kK ?k6 ?k7 ?k8 ?k9 ?kB ?_ ?c2 ?c3 ?c4 ?c5; (case kA => exact rfl); (case kF => exact rfl); (case kK => first | assumption | exact rfl); (case k1 => k_asm); (case k2 => k_asm); (case k3 => k_asm); (case k4 => k_asm); (case k5 => k_asm); (case k6 => k_is); (case k7 => k_is); (case k8 => ktr_room); (case k9 => first | exact BindsTo.of_eq rfl | exact binds_K (by k_in) rfl (by k_is) rfl rfl rfl); (case c5 => decide); (case kB => exact locs rfl); (case c2 => exact rfl); (case c3 => exact rfl); (case c4 => exact rfl); k_whole; intro g' L' h' FG' F' N' B' X' T'; (try dsimp only); (try k_lift B'); (try k_fold)))
local macro_rules | `(tactic| ktr_call $c:term 0) => `(tactic| (refine wpAny_call ?_; k_dflt (refine' ct_use $c ?k1 ?k2 ?k3 ?k4 ?k5 ?kK ?kd ?ku ?kp ?_; (case k1 => k_asm); (case k2 => k_asm); (case k3 => k_asm); (case k4 => k_asm); (case k5 => k_asm); (case kK => first | assumption | exact rfl); (case kd => ktr_room); (case ku => ktr_units))))
local macro_rules | `(tactic| ktr_call $c:term 1) => `(tactic| (refine' call_meth ?N ?q ?_; (case N => k_asm); (case q => k_mem); k_dflt (refine' ct_use $c ?k1 ?k2 ?k3 ?k4 ?k5 ?kK ?kd ?ku ?kp ?_; (case k1 => k_asm); (case k2 => k_asm); (case k3 => k_asm); (case k4 => k_asm); (case k5 => k_asm); (case kK => first | assumption | exact rfl); (case kd => ktr_room); (case ku => ktr_units))))
local macro_rules | `(tactic| k_mem) => `(tactic| first | assumption | exact List.mem_cons_self .. | (refine' List.mem_cons_of_mem _ ?_; k_mem))
local macro_rules | `(tactic| kst_same) => `(tactic| (intro z h1 h2 h3; (simp only [List.forall_mem_cons, List.not_mem_nil, false_implies, implies_true, and_true, ne_eq] at h2); (simp only [List.contains_cons, List.contains_nil, Bool.or_false, Bool.or_eq_false_iff, beq_eq_false_iff_ne, ne_eq] at h3); (simp [kstB, h1, h2, h3]; done)))
local macro_rules | `(tactic| kby_size) => `(tactic| (rw [PySem.sizeLine_eq]; omega))
local macro_rules | `(tactic| walk_at "call builtin:str.lstrip") => `(tactic| (k_here; (refine KXw.lstrip (by assumption) (by kby_size) ?_); intro _ _))
local macro_rules | `(tactic| walk_at "call builtin:str.strip") => `(tactic| (k_here; (refine KXw.strip (by assumption) (by kby_size) ?_); intro _ _))
local macro_rules | `(tactic| walk_at "call builtin:str.strip") => `(tactic| (k_here; (refine KXw.stripChars (by assumption) (by kby_size) ?_); intro _ _))
local macro_rules | `(tactic| walk_at "call builtin:str.upper") => `(tactic| (k_here; (refine KXw.upper (by assumption) (by decide +kernel) ?_); intro _ _))
local macro_rules | `(tactic| walk_at "call builtin:str.partition") => `(tactic| (k_here; (refine KXpa.partition (by k_asm) (by k_asm) (by decide) (by assumption) (by assumption) (by assumption) (by kby_size) ?_); intro D' _ _ _ _ _ F' N' l1; (try k_lt l1)))
local macro_rules | `(tactic| walk_at "call builtin:str.split") => `(tactic| (k_here; (refine KSpl.split1 (by k_asm) (by k_asm) (by decide) ?_ (by kby_size)); intro D' _ _ _ _ _ F' N' l1; (try k_lt l1)))
/-- one more key, a new one -/
theorem stored_new {kvs : List (Str × Value)} {k : Str} {v : Value} (h : k ∉ kvs.map (·.1)) : PySem.stored kvs k v = kvs ++ [(k, v)] := by
  unfold PySem.stored
  rw [if_neg]
  intro e
  obtain ⟨p, hp, hk⟩ := List.any_eq_true.mp e
  exact h (List.mem_map.mpr ⟨p, hp, of_decide_eq_true hk⟩)
section
variable {prog : Program} {w : World} {A : Around} {E : Value → Shared → Prop} {s : Shared} {env : Env} {h₀ : Heap} {L : Addr} {m : Str → Option Value} {news : Led}
/-- names in a row and their places -/
def Placed (names : List Str) (kvs : List (Str × Value)) : Prop := kvs.map (·.1) = names ∧ ∀ i, i < names.length → ∃ t, kvs[i]?.map (·.2) = some (.int i t)
/-- «{f[1]: k for k, f in enumerate(t)}», t a tuple of the base -/
theorem enum_dict {iter : Expr} {x x₂ : Str} {px px₂ tp p1 p2 p3 p4 : Pos} {tk ci} {scope : Scope} {cl : List (Str × Addr)} {pos : Pos} {T : Addr} {items : Array Value} {names : List Str} {Q : Value → Shared → Prop}
    (F : Fr h₀ L s.heap m) (N : News h₀ L s.heap news) (hh : A.handled = none)
    (hclos : closureFor scope env = pure cl) (hcell : ∀ y ∈ scope.names, y.2 ≠ .cell) (hkind : scope.kind = .function)
    (hnames : ∀ y ∈ scope.names, y.2 = .local → scope.names.lookup y.1 = some .local) (hx : scope.names.lookup x = some .local) (hx₂ : scope.names.lookup x₂ = some .local) (hxx : x ≠ x₂) (hdx : (x == ("__debug__" : Str)) = false) (hdx₂ : (x₂ == ("__debug__" : Str)) = false)
    (hnd : names.Nodup) (hlen : names.length = items.size) (hsz : names.length ≤ 100)
    (hit : ∀ (i : Nat) v, items[i]? = some v → ∃ a its n nm tn, v = .ref a ∧ h₀.get? a = some { cls := .type "tuple", data := .seq its n } ∧ its[1]? = some (.str nm tn) ∧ names[i]? = some nm)
    (h : wpAny (model prog w) A (eval iter env) (fun xv s₁ => ∃ e it h₁ tk₁, xv = .ref e ∧ s₁ = { s with heap := h₁, toks := tk₁ } ∧ IsEnum h₁ e it 0 .none ∧ IsTupIter h₁ it T 0 ∧ IsTup h₁ T items ∧ s.heap.objs.size ≤ e ∧ s.heap.objs.size ≤ it ∧ e ≠ it ∧ T < s.heap.objs.size ∧
      ∀ b o, s.heap.get? b = some o → h₁.get? b = some o) E s)
    (hQ : ∀ D o kvs h' tk', Fr h₀ L h' m → News h₀ L h' ((D, o) :: news) → (∀ p ∈ news, p.1 < D) → o.IsDictOf (PySem.strKind prog w) kvs → Placed names kvs → Q (.ref D) { s with heap := h', toks := tk' })
    (hs : ∀ x, foldedSetIterable iter env x = pure x := by intro _; rfl) :
    wpAny (model prog w) A (eval (.DictComp (.Subscript (.Name x₂ p1) (.Constant (.int 1) ci p2) p3) (.Name x p4) [⟨.Tuple [.Name x px, .Name x₂ px₂] tk tp, iter, [], 0⟩] scope pos) env) Q E s := by
  rw [arm_eval_DictComp]
  refine wpAny_comprehension_free (use := none) rfl hs hclos hkind hnames (wpAny_mono h (fun xv s₁ h₁ => ?_) fun _ _ e => e)
  obtain ⟨e, it, h₁, tk₁, rfl, rfl, he, hi, hT, hge, hgi, hei, hTs, hk₁⟩ := h₁
  have hTe : T ≠ e := Nat.ne_of_lt (Nat.lt_of_lt_of_le hTs hge)
  have hTi : T ≠ it := Nat.ne_of_lt (Nat.lt_of_lt_of_le hTs hgi)
  have W := WalksT.enumerateD (draws_tup (prog := prog) (w := w) (A := A.in1) (show A.in1.handled = none from hh) it T hTi items) e hei (by simp [hei, Ne.symm hTe]) (by simp)
  refine wpAny_pyIter_enum he ?_
  refine wpAny_newObj_type (wpAny_newFunctionEnv hcell (by intro y hy; simp at hy) (fun h₂ hns₂ hsb₂ => ?_) hkind)
  dsimp only at hns₂ hsb₂ ⊢
  generalize hHg : h₁.push { cls := .type "dict", dict := none, data := .dict #[] } = H at hns₂ hsb₂ ⊢
  have hHs : H.objs.size = h₁.objs.size + 1 := by rw [← hHg, Heap.size_push]
  have hlt₁ : ∀ b o, h₁.get? b = some o → b < h₁.objs.size := fun b o e => Heap.lt_size e
  have hDC : h₁.objs.size ≠ H.objs.size := by rw [hHs]; exact Nat.ne_of_lt (Nat.lt_succ_self _)
  have offC : ∀ b o, h₁.get? b = some o → b ≠ H.objs.size := fun b o e => Nat.ne_of_lt (by rw [hHs]; exact Nat.lt_succ_of_lt (hlt₁ b o e))
  have offD : ∀ b o, h₁.get? b = some o → b ≠ h₁.objs.size := fun b o e => Nat.ne_of_lt (hlt₁ b o e)
  have up : ∀ b o, h₁.get? b = some o → h₂.get? b = some o := fun b o e => hsb₂.extBut b o (offC b o e) (Heap.get?_push_of_some _ (hHg ▸ Heap.get?_push_of_some _ e))
  have hD₂ : h₂.DictOf (PySem.strKind prog w) h₁.objs.size [] := (Heap.DictOf.at (h := H) (hHg ▸ Heap.DictOf.new h₁) fun o e => hsb₂.extBut _ _ hDC (Heap.get?_push_of_some _ e))
  have hed : e ≠ h₁.objs.size := offD _ _ he
  have hec : e ≠ H.objs.size := offC _ _ he
  obtain ⟨oi, hoi⟩ : ∃ o, h₁.get? it = some o := let ⟨o, ho, _⟩ := hi; ⟨o, ho⟩
  obtain ⟨oT, hoT⟩ : ∃ o, h₁.get? T = some o := let ⟨o, ho, _⟩ := hT; ⟨o, ho⟩
  have hid : it ≠ h₁.objs.size := offD _ _ hoi
  have hic : it ≠ H.objs.size := offC _ _ hoi
  have hTd : T ≠ h₁.objs.size := offD _ _ hoT
  have hTc : T ≠ H.objs.size := offC _ _ hoT
  have hwr : ∀ b, b ≠ e → b ≠ it → b ∉ [e, it] := by
    intro b h1 h2 hm
    simp only [List.mem_cons, List.not_mem_nil, or_false] at hm
    exact hm.elim h1 h2
  have hst₂ : (∃ old, IsEnum h₂ e it (0 : Nat) old) ∧ IsTupIter h₂ it T 0 ∧ IsTup h₂ T items := ⟨⟨_, up _ _ he⟩, tupIter_at hi fun o q => up _ _ q, tup_at hT fun o q => up _ _ q⟩
  have loop : ∀ s₃ : Shared, s₃ = { s with heap := h₂, toks := tk₁ + ([] : List (Str × Value)).length } →
      codeAny (model prog w) A (.compLoop (.DictComp (.Subscript (.Name x₂ p1) (.Constant (.int 1) ci p2) p3) (.Name x p4) [⟨.Tuple [.Name x px, .Name x₂ px₂] tk tp, iter, [], 0⟩] scope pos) 0 (.ref e) (.ref h₁.objs.size) (compEnvC scope cl H.objs.size env))
        (compPost (model prog w) A E none Q (.ref h₁.objs.size) H.objs.size) s₃ := by
    rintro s₃ rfl
    refine dict_pairs (fun k s' => ∃ h' tk i kvs m', s' = { s with heap := h', toks := tk } ∧ i ≤ items.size ∧ k = items.size + 1 - i ∧ ((∃ old, IsEnum h' e it i old) ∧ IsTupIter h' it T i ∧ IsTup h' T items) ∧
      h'.DictOf (PySem.strKind prog w) h₁.objs.size kvs ∧ h'.Ns H.objs.size m' ∧ Placed (names.take i) kvs ∧ ∀ b o, s.heap.get? b = some o → h'.get? b = some o) ?_ (items.size + 1)
      ⟨h₂, _, 0, [], _, rfl, Nat.zero_le _, rfl, hst₂, hD₂, hns₂, ⟨rfl, fun i hi => absurd hi (by simp)⟩, fun b o q => up b o (hk₁ b o q)⟩
    rintro k s' ⟨h', tk', i, kvs, m', rfl, hile, rfl, hst', hD', hn', hpl, hk'⟩
    have offs : ∀ b o, s.heap.get? b = some o → b ≠ e ∧ b ≠ it ∧ b ≠ h₁.objs.size ∧ b ≠ H.objs.size := fun b o q =>
      have hb := Heap.lt_size q
      ⟨Nat.ne_of_lt (Nat.lt_of_lt_of_le hb hge), Nat.ne_of_lt (Nat.lt_of_lt_of_le hb hgi), offD b o (hk₁ b o q), offC b o (hk₁ b o q)⟩
    by_cases hlt : i < items.size
    · refine W.item i _ _ _ hlt hst' fun T' vals h₃ tk₃ hP hge' hTup hMid hk₃ => ?_
      obtain ⟨ti, xi, hxi, rfl⟩ := hP
      obtain ⟨a, its, na, nm, tn, rfl, ha, hits, hnm⟩ := hit i xi hxi
      have hTw := W.apart _ _ _ hMid
      have hTc' : T' ≠ H.objs.size := by
        obtain ⟨o', q', _⟩ := LCg.ns_obj hn'
        exact Ne.symm (Nat.ne_of_lt (Nat.lt_of_lt_of_le (Heap.lt_size q') hge'))
      refine W.go _ _ _ i T' _ _ _ hMid fun h₄ hst₄ hk₄ => ?_
      have hT₄ : IsTup h₄ T' #[.int i ti, .ref a] := by
        obtain ⟨o, ho, r⟩ := hTup
        exact ⟨o, hk₄ _ _ hTw ho, r⟩
      refine assign_Tuple_tuple hh hT₄ rfl rfl fun h₅ he₅ => ?_
      have up₅ : ∀ b o, b ∉ [e, it] → h'.get? b = some o → h₅.get? b = some o := fun b o hb q => by
        have q₄ := hk₄ b o hb (hk₃ b o hb q)
        exact he₅ b o (Nat.ne_of_lt (Heap.lt_size q₄)) q₄
      have hst₅ : (∃ old, IsEnum h₅ e it ((i + 1 : Nat) : Int) old) ∧ IsTupIter h₅ it T (i + 1) ∧ IsTup h₅ T items := W.frame _ _ _ hst₄ fun b _ o q => he₅ b o (Nat.ne_of_lt (Heap.lt_size q)) q
      have hn₅ : h₅.Ns H.objs.size m' := hn'.at' fun o q => up₅ _ o (hwr _ (Ne.symm hec) (Ne.symm hic)) q
      refine assignInOrder_cons (wpAny_assign_Name (wpAny_storeName_local (lookup_relabel_local hx) hn₅ (fun h₆ hn₆ hs₆ => ?_) (by simp [compEnvC, relabel, hkind])))
      refine assignInOrder_cons (wpAny_assign_Name (wpAny_storeName_local (lookup_relabel_local hx₂) hn₆ (fun h₇ hn₇ hs₇ => ?_) (by simp [compEnvC, relabel, hkind])))
      refine assignInOrder_nil ?_
      have up₇ : ∀ b o, b ≠ H.objs.size → h₅.get? b = some o → h₇.get? b = some o := fun b o hb q => hs₇.extBut b o hb (hs₆.extBut b o hb q)
      have hk₇ : ∀ b o, s.heap.get? b = some o → h₇.get? b = some o := fun b o q => by
        obtain ⟨o1, o2, o3, o4⟩ := offs b o q
        exact up₇ b o o4 (up₅ b o (hwr b o1 o2) (hk' b o q))
      have hD₇ : h₇.DictOf (PySem.strKind prog w) h₁.objs.size kvs := hD'.at fun o q => up₇ _ o hDC (up₅ _ o (hwr _ (Ne.symm hed) (Ne.symm hid)) q)
      refine Subscript_ (ldVarK hn₇ (v := .ref a) (by simp) ?_ (by simp [compEnvC, relabel, hkind]) (lookup_relabel_local hx₂) hdx₂)
      refine wpAny_Constant_int ?_
      have hi1 : 1 < its.size := by
        rcases Nat.lt_or_ge 1 its.size with q | q
        · exact q
        · rw [Array.getElem?_eq_none q] at hits; cases hits
      refine item_tuple (items := its) (j := 1) ⟨_, hk₇ _ _ (F.keep _ _ ha), rfl, _, rfl⟩ (by decide) (by decide) (by unfold seqIndex?; simp; omega) hits ?_
      refine ldVarK hn₇ (v := .int i ti) (by simp [hxx]) ?_ (by simp [compEnvC, relabel, hkind]) (lookup_relabel_local hx) hdx
      have hkl : kvs.length = i := by
        have := congrArg List.length hpl.1
        rw [List.length_map, List.length_take] at this
        omega
      refine wpAny_dictSet_pairs (hsz := by rw [PySem.sizeLine_eq]; omega) (strKind_is _ _ _ _) hD₇ fun h₈ hD₈ hs₈ => ?_
      have hnew : nm ∉ kvs.map (·.1) := by
        rw [hpl.1]
        intro hm
        obtain ⟨j, hj, e1⟩ := List.mem_iff_getElem.mp hm
        rw [List.getElem_take] at e1
        have hj' : j < i := by rw [List.length_take] at hj; omega
        obtain ⟨hi', e2⟩ := List.getElem?_eq_some_iff.mp hnm
        have := List.pairwise_iff_getElem.mp hnd j i (by omega) hi' hj'
        exact this (e1.trans e2.symm)
      rw [stored_new hnew] at hD₈
      refine ⟨items.size + 1 - (i + 1), by omega, h₈, _, i + 1, kvs ++ [(nm, .int i ti)], _, rfl, hlt, rfl, ?_, hD₈, hn₇.sameBut hs₈ (Ne.symm hDC), ⟨?_, ?_⟩, ?_⟩
      · refine W.frame (i + 1) _ _ hst₅ fun b hb o q => hs₈.extBut b o ?_ (up₇ b o ?_ q)
        · simp only [List.mem_cons, List.not_mem_nil, or_false] at hb
          rcases hb with rfl | rfl | rfl <;> assumption
        · simp only [List.mem_cons, List.not_mem_nil, or_false] at hb
          rcases hb with rfl | rfl | rfl <;> assumption
      · rw [List.map_append, hpl.1, List.take_add_one, hnm]; rfl
      · intro j hj
        rw [List.length_take] at hj
        by_cases hji : j < i
        · obtain ⟨t, ht⟩ := hpl.2 j (by rw [List.length_take]; omega)
          exact ⟨t, by rw [List.getElem?_append_left (by omega)]; exact ht⟩
        · have : j = kvs.length := by omega
          subst this
          rw [← hkl]
          exact ⟨ti, by simp⟩
      · intro b o q
        obtain ⟨o1, o2, o3, o4⟩ := offs b o q
        exact hs₈.extBut b o o3 (hk₇ b o q)
    · obtain rfl : i = items.size := Nat.le_antisymm hile (Nat.not_lt.mp hlt)
      refine W.done _ _ _ hst' fun h₃ tk₃ hk₃ => ?_
      refine ⟨_, hn'.at' fun o q => hk₃ _ o (hwr _ (Ne.symm hec) (Ne.symm hic)) q, fun h₄ hs₄ => ?_⟩
      have hk₄ : ∀ b o, s.heap.get? b = some o → h₄.get? b = some o := fun b o q => by
        obtain ⟨o1, o2, o3, o4⟩ := offs b o q
        exact hs₄.extBut b o o4 (hk₃ b o (hwr b o1 o2) (hk' b o q))
      have hD₄ : h₄.DictOf (PySem.strKind prog w) h₁.objs.size kvs := hD'.at fun o q => hs₄.extBut _ o hDC (hk₃ _ o (hwr _ (Ne.symm hed) (Ne.symm hid)) q)
      obtain ⟨od, hod, hdd⟩ := Heap.dictOf_iff.mp hD₄
      have hsD : s.heap.objs.size ≤ h₁.objs.size := by
        rcases Nat.lt_or_ge h₁.objs.size s.heap.objs.size with q | q
        · exact absurd (Nat.lt_of_lt_of_le (Nat.lt_of_lt_of_le q hge) (Nat.le_of_lt (Heap.lt_size he))) (Nat.lt_irrefl _)
        · exact q
      have hLD : h₁.objs.size ≠ L := Ne.symm (Nat.ne_of_lt (Nat.lt_of_lt_of_le F.ns.lt hsD))
      have hD0 : h₀.get? h₁.objs.size = none := by
        cases q : h₀.get? h₁.objs.size with
        | none => rfl
        | some o => exact absurd (Heap.lt_size (F.keep _ _ q)) (Nat.not_lt.mpr hsD)
      refine hQ h₁.objs.size od kvs h₄ tk₃ (fr_ext F hk₄) (fun p hp => ?_) (fun p hp => Nat.lt_of_lt_of_le (Heap.lt_size (N p hp).1) hsD) hdd (by rw [← hlen, List.take_length] at hpl; exact hpl)
      rcases List.mem_cons.mp hp with rfl | hp
      · exact ⟨hod, hLD, hD0⟩
      · exact news_ext N hk₄ p hp
  exact codeAny_compStart_dict (loop _ rfl) (wpAny_pyIter_enum (up _ _ he) (loop _ rfl))
end
def namesW : List Str := ["lat", "lat_dir", "lon", "lon_dir", "waypoint_id"]
def namesD : List Str := ["datum", "subd_datum", "lat", "lat_dir", "lon", "lon_dir", "altitude", "datum_code"]
theorem nodupW : namesW.Nodup := by decide +kernel
theorem nodupD : namesD.Nodup := by decide +kernel
theorem placed_at : ∀ {names : List Str} {kvs : List (Str × Value)} {i : Nat} {name : Str}, names.Nodup → Placed names kvs → names[i]? = some name → ∃ t, valueAt kvs name = some (.int i t) := by
  intro names kvs i name hnd hp hi
  obtain ⟨hlt, hn⟩ := List.getElem?_eq_some_iff.mp hi
  obtain ⟨t, ht⟩ := hp.2 i hlt
  refine ⟨t, ?_⟩
  have hkl : kvs.length = names.length := by rw [← hp.1, List.length_map]
  have hk : kvs[i]? = some (name, .int i t) := by
    rw [List.getElem?_eq_getElem (by omega)] at ht ⊢
    have e1 : (kvs[i]'(by omega)).1 = name := by
      have := congrArg (fun l : List Str => l[i]?) hp.1
      simp only [List.getElem?_map] at this
      rw [hi, List.getElem?_eq_getElem (by omega)] at this
      exact Option.some.inj this
    have e2 := Option.some.inj ht
    rw [← e1, ← e2]
  have hnd' : (kvs.map (·.1)).Nodup := by rw [hp.1]; exact hnd
  exact valueAt_of_get hnd' hk
theorem seq_at {i n : Nat} (h : i < n) : seqIndex? (i : Int) n = some i := by
  unfold seqIndex?
  simp
  omega
theorem strs_at {ls : List (Str × Tok)} {row : List Str} (h : ls.map (·.1) = row) {i : Nat} (hi : i < row.length) : ∃ p tp, (strValues ls).toArray[((i : Nat) : Int).toNat]? = some (.str p tp) ∧ row.getD i (Str.ofString "") = p := by
  subst h
  rw [List.length_map] at hi
  refine ⟨(ls[i]).1, (ls[i]).2, ?_, ?_⟩
  · simp [strValues, hi]
  · simp [List.getD_eq_getElem?_getD, hi]
theorem item_listV {prog : Program} {w : World} {A : Around} {E : Value → Shared → Prop} {s : Shared} {value slice : PySem.Expr} {l : Addr} {items : Array Value} {k : Int} {u : Tok} {x : Value} {Q : Value → Shared → Prop} (hl : s.heap.IsList l items)
    (h0 : 0 ≤ k) (hfit : k < 2 ^ 63) (hx : items[k.toNat]? = some x) (h : Q x s)
    (hs : subscripted slice false (.ref l) (.int k u) = operate [.ref l, .int k u] (getItem (.ref l) (.int k u)) := by with_unfolding_all rfl) :
    wpAny (model prog w) A (subscriptTail value slice (.ref l) (.int k u)) Q E s := tail_any hl.typeIs slot_list_getitem.lookup (wpAny_getItem_list hl h0 hfit hx h) hs
theorem len_pair {prog : Program} {w : World} {A : Around} {E : Value → Shared → Prop} {s : Shared} {t : Addr} {a b : Value} {Q : Value → Shared → Prop} (ht : IsTup s.heap t #[a, b]) (h : Q (.int 2 (s.toks + 1)) { s with toks := s.toks + 1 + 1 }) :
    wpAny (model prog w) A (call (.builtin "len") [.ref t]) Q E s := len_tuple ht (by show (2 : Int) < 2 ^ 63; decide) h

end Mine
end
section
open PySem PySem.W PyProof.Rows PySem.Calls Builtin Builtin.ObjectAttr
namespace Mine
set_option maxRecDepth 100000
set_option maxHeartbeats 8000000
local macro_rules | `(tactic| walk_at "getAttr ref") => `(tactic| (k_here; k_dflt (refine' hk_bound ?k1 ?k2 ?k3 ?k4 ?k5 ?kh ?k6 ?k7 ?k8 ?k9 ?k10 ?k11 ?k12 ?_; (case k4 => k_inst); (case k1 => k_asm); (case k2 => k_asm); (case k3 => k_asm); (case k5 => k_is); (case kh => k_is); (case k6 => k_is); (case k7 => k_is); (case k8 => k_is); (case k9 => k_is); (case k10 => k_is); (case k11 => decide +kernel); (case k12 => k_get); k_whole); intro q' h' F' N' l1; (try k_lt l1); (try k_sweep)))
local macro_rules | `(tactic| walk_at "getAttr ref") => `(tactic| (k_here; k_dflt (refine' hk_own ?k1 ?k2 ?k3 ?k4 ?k5 ?k6 ?k7 ?k8 ?k9 ?_; (case k1 => k_asm); (case k2 => k_asm); (case k3 => k_inst); (case k4 => k_is); (case k5 => k_is); (case k6 => k_is); (case k7 => k_is); (case k8 => k_get); (case k9 => k_handed); k_whole)))
local macro_rules | `(tactic| walk_at "getMethod ref") => `(tactic| (k_here; k_dflt (refine' hk_method ?k1 ?k2 ?k3 ?k4 ?k5 ?_; (case k1 => k_asm); (case k2 => k_asm); (case k3 => k_inst); (case k4 => k_is); (case k5 => k_is); k_whole)))
local macro_rules | `(tactic| ktr_enter) => `(tactic| (refine' code_def ?k1 ?k2 ?k3 ?k4 ?k5 ?kA ?kF ?kK ?k6 ?k7 ?k8 ?k9 ?kB ?_ ?c2 ?c3 ?c4 ?c5; (case kA => exact rfl); (case kF => exact rfl); (case kK => first | assumption | exact rfl); (case k1 => k_asm); (case k2 => k_asm); (case k3 => k_asm); (case k4 => k_asm); (case k5 => k_asm); (case k6 => k_is); (case k7 => k_is); (case k8 => ktr_room); (case k9 => first | exact BindsTo.of_eq rfl | exact binds_K (by k_in) rfl (by k_is) rfl rfl rfl); (case c5 => decide); (case kB => exact locs rfl); (case c2 => exact rfl); (case c3 => exact rfl); (case c4 => exact rfl); k_whole; intro g' L' h' FG' F' N' B' X' T'; (try dsimp only); (try k_lift B'); (try k_fold)))
local macro_rules | `(tactic| ktr_call $c:term 0) => `(tactic| (refine wpAny_call ?_; k_dflt (refine' ct_use $c ?k1 ?k2 ?k3 ?k4 ?k5 ?kK ?kd ?ku ?kp ?_; (case k1 => k_asm); (case k2 => k_asm); (case k3 => k_asm); (case k4 => k_asm); (case k5 => k_asm); (case kK => first | assumption | exact rfl); (case kd => ktr_room); (case ku => ktr_units))))
local macro_rules | `(tactic| ktr_call $c:term 1) => `(tactic| (refine' call_meth ?N ?q ?_; (case N => k_asm); (case q => k_mem); k_dflt (refine' ct_use $c ?k1 ?k2 ?k3 ?k4 ?k5 ?kK ?kd ?ku ?kp ?_; (case k1 => k_asm); (case k2 => k_asm); (case k3 => k_asm); (case k4 => k_asm); (case k5 => k_asm); (case kK => first | assumption | exact rfl); (case kd => ktr_room); (case ku => ktr_units))))
local macro_rules | `(tactic| k_mem) => `(tactic| first | assumption | exact List.mem_cons_self .. | (refine' List.mem_cons_of_mem _ ?_; k_mem))
local macro_rules | `(tactic| kst_same) => `(tactic| (intro z h1 h2 h3; (simp only [List.forall_mem_cons, List.not_mem_nil, false_implies, implies_true, and_true, ne_eq] at h2); (simp only [List.contains_cons, List.contains_nil, Bool.or_false, Bool.or_eq_false_iff, beq_eq_false_iff_ne, ne_eq] at h3); (simp [kstB, h1, h2, h3]; done)))
local macro_rules | `(tactic| kby_size) => `(tactic| (rw [PySem.sizeLine_eq]; omega))
local macro_rules | `(tactic| walk_at "call builtin:str.lstrip") => `(tactic| (k_here; (refine KXw.lstrip (by assumption) (by kby_size) ?_); intro _ _))
local macro_rules | `(tactic| walk_at "call builtin:str.strip") => `(tactic| (k_here; (refine KXw.strip (by assumption) (by kby_size) ?_); intro _ _))
local macro_rules | `(tactic| walk_at "call builtin:str.strip") => `(tactic| (k_here; (refine KXw.stripChars (by assumption) (by kby_size) ?_); intro _ _))
local macro_rules | `(tactic| walk_at "call builtin:str.upper") => `(tactic| (k_here; (refine KXw.upper (by assumption) (by decide +kernel) ?_); intro _ _))
local macro_rules | `(tactic| walk_at "call builtin:str.partition") => `(tactic| (k_here; (refine KXpa.partition (by k_asm) (by k_asm) (by decide) (by assumption) (by assumption) (by assumption) (by kby_size) ?_); intro D' _ _ _ _ _ F' N' l1; (try k_lt l1)))
local macro_rules | `(tactic| walk_at "call builtin:str.split") => `(tactic| (k_here; (refine KSpl.split1 (by k_asm) (by k_asm) (by decide) ?_ (by kby_size)); intro D' _ _ _ _ _ F' N' l1; (try k_lt l1)))
theorem in_getW {K : Frag} {h : Heap} {a : Addr} {o : Obj} (X : K.In h) (e : List.lookup a K = some o) : h.get? a = some o := X a o e
theorem fieldsWAt (w : World) {h : Heap} (X : (Mine.hd.heap_39 w.params).In h) : ∀ (i : Nat) (nm : Str), namesW[i]? = some nm → ∃ a lb t1 t2, (#[.ref 245, .ref 246, .ref 247, .ref 248, .ref 249] : Array Value)[i]? = some (.ref a) ∧ h.get? a = some { cls := .type "tuple", data := .seq #[.str lb t1, .str nm t2] } := by
  refine fillit _ ?_
  k_fill
  intro i nm hi
  rcases i with _ | _ | _ | _ | _ | _ | _ | _ | i
  all_goals first | (cases hi; done) | (cases Option.some.inj hi; exact ⟨_, _, _, _, rfl, in_getW X (by k_is)⟩)
theorem t_gaW (w : World) (x l dx : Addr) (k1 v1 k2 v2 k3 t : Tok) (vs : List Value) (n : Nat) (row : List Str) (hr : OkRow row) (name : Str) (i : Nat) (hi : namesW[i]? = some name) : Ct w 125 6 (fun news => MsgIn w.params news x 253 "GP" "WPL" l dx k1 v1 k2 v2 k3 ∧ (l, listOf vs.toArray n) ∈ news ∧ DatAll news vs (row.map Dat.str)) [.ref x, .str name t] (fun new _ v => new = [] ∧ ∃ k, v = .str (row.getD i (Str.ofString "")) k) := by
  refine fillit _ ?_
  k_fill
  show Ct _ _ _ _ _ _
  intro mean mg mb dp un gd cn cs a ccd cl outer A₀ base h₀ L m news s Q E B F X N T hk hd hu hpre hret
  obtain ⟨⟨hx, hdx⟩, hl, hrow⟩ := hpre
  obtain ⟨ls, rfl, hls⟩ := dat_strs hrow
  unfold msgDict at hdx
  k_dflt ktr_enter
  rename_i g' L' h' FG' F' N' B' X' T'
  k_steps
  refine' enum_dict (T := 250) (items := #[.ref 245, .ref 246, .ref 247, .ref 248, .ref 249]) (names := namesW) ?F ?N ?hh ?c1 ?c2 ?c3 ?c4 ?c5 ?c6 ?c7 ?c8 ?c9 ?d1 ?d2 ?d3 ?d4 ?d5 ?d6
  case F => k_asm
  case N => k_asm
  case hh => exact rfl
  case c1 => with_unfolding_all rfl
  case c2 => decide
  case c3 => rfl
  case c4 => decide
  case c5 => rfl
  case c6 => rfl
  case c7 => decide
  case c8 => decide
  case c9 => decide
  case d1 => decide +kernel
  case d2 => rfl
  case d3 => decide
  case d4 =>
    intro j v hj
    have hjn : j < namesW.length := by
      have := (Array.getElem?_eq_some_iff.mp hj).1
      exact this
    obtain ⟨fa, fl, ft, ftn, hfi, hfa⟩ := fieldsWAt w (show (Mine.hd.heap_39 w.params).In g' from by k_asm) _ _ (List.getElem?_eq_getElem hjn)
    rw [hj] at hfi
    cases Option.some.inj hfi
    exact ⟨fa, _, _, _, _, rfl, hfa, rfl, List.getElem?_eq_getElem hjn⟩
  case d5 =>
    repeat' ((fail_if_success (with_reducible show wpAny _ _ (PySem.call (Value.type "enumerate") _) _ _ _)); first | walk1 | (k_unfold; (try dsimp only)))
    try dsimp only
    have h250 : g'.get? 250 = some { cls := .type "tuple", data := .seq #[.ref 245, .ref 246, .ref 247, .ref 248, .ref 249] } := by
      refine (show (Mine.hd.heap_39 w.params).In g' from by k_asm) 250 _ ?_
      k_is
    rename Fr g' L' _ _ => F5
    have h250' := F5.keep _ _ h250
    refine call_enum_tup (items := #[.ref 245, .ref 246, .ref 247, .ref 248, .ref 249]) h250' ?_
    intro h9 he hi hT hs9 hk9
    exact ⟨_, _, h9, _, rfl, rfl, he, hi, hT, Nat.le_succ _, Nat.le_refl _, Nat.succ_ne_self _, Heap.lt_size h250', hk9⟩
  case d6 =>
    intro D o kvs h' tk' F6 N6 l6 hdo hpl
    obtain ⟨ti, hti⟩ := placed_at nodupW hpl hi
    repeat' ((fail_if_success (with_reducible show wpAny _ _ (PySem.getItem _ _) _ _ _)); first | walk1 | (k_unfold; (try dsimp only)))
    try dsimp only
    rename News g' L' _ _ => N8
    refine wpAny_getItem_of (strKind_is _ _ _ _) (kda_dict N8 (show (D, o) ∈ _ by k_mem) hdo).mapOf hti ?_
    obtain ⟨fa, fl, ft, ftn, hfi, hfa⟩ := fieldsWAt w (show (Mine.hd.heap_39 w.params).In g' from by k_asm) _ _ hi
    have hi9 : i < (#[.ref 245, .ref 246, .ref 247, .ref 248, .ref 249] : Array Value).size := (Array.getElem?_eq_some_iff.mp hfi).1
    have hi8 : i < 9 := Nat.lt_of_lt_of_le hi9 (by decide)
    have h250 : g'.get? 250 = some { cls := .type "tuple", data := .seq #[.ref 245, .ref 246, .ref 247, .ref 248, .ref 249] } := by
      refine (show (Mine.hd.heap_39 w.params).In g' from by k_asm) 250 _ ?_
      k_is
    clear hti hpl hdo
    repeat' ((fail_if_success (with_reducible show wpAny _ _ (subscriptTail (PySem.Expr.Name _ _) _ (Value.ref _) _) _ _ _)); first | walk1 | (k_unfold; (try dsimp only)))
    try dsimp only
    rename Fr g' L' _ _ => F9
    refine item_tuple (items := #[.ref 245, .ref 246, .ref 247, .ref 248, .ref 249]) (j := i) ⟨_, F9.keep _ _ h250, rfl, _, rfl⟩ ?a1 ?a2 ?a3 hfi ?_
    case a1 => omega
    case a2 => omega
    case a3 => exact seq_at hi9
    repeat' ((fail_if_success (with_reducible show wpAny _ _ (PySem.call (Value.builtin "len") _) _ _ _)); first | walk1 | (k_unfold; (try dsimp only)))
    try dsimp only
    rename News g' L' _ _ => N9
    have hrl : (strValues ls).length = row.length := by rw [strValues_len, ← hls, List.length_map]
    have hfew := hr.few
    refine kst_len (us := strValues ls) (k := row.length) N9 (by k_mem) hrl (by omega) ?_
    repeat' ((fail_if_success (with_reducible show wpAny _ _ (subscriptTail _ _ _ _) _ _ _)); (fail_if_success (with_reducible show wpAny _ _ (PySem.call (Value.builtin "len") _) _ _ _)); first | walk1 | (k_unfold; (try dsimp only)))
    try dsimp only
    · have hlt : i < row.length := by omega
      obtain ⟨p, tp, hp1, hp2⟩ := strs_at hls hlt
      rename News g' L' _ _ => N7
      refine item_listV (items := (strValues ls).toArray) (x := .str p tp) (News.isList N7 (by k_mem)) (by omega) (by omega) hp1 ?_
      repeat' ((fail_if_success (with_reducible show wpAny _ _ (PySem.call (Value.builtin "len") _) _ _ _)); first | walk1 | (k_unfold; (try dsimp only)))
      try dsimp only
      rename Fr g' L' _ _ => F7
      refine len_pair (a := .str fl ft) (b := .str name ftn) ⟨_, F7.keep _ _ hfa, rfl, _, rfl⟩ ?_
      k_steps
      exact hret _ _ [] _ (by assumption) (news_drop (by assumption) (by intro p hp; repeat (first | exact hp | refine List.mem_cons_of_mem _ ?_))) (by intro p hp; cases hp) ⟨rfl, _, by rw [hp2]⟩
    · rename Fr g' L' _ _ => F7
      refine len_pair (a := .str fl ft) (b := .str name ftn) ⟨_, F7.keep _ _ hfa, rfl, _, rfl⟩ ?_
      k_steps
      exact hret _ _ [] _ (by assumption) (news_drop (by assumption) (by intro p hp; repeat (first | exact hp | refine List.mem_cons_of_mem _ ?_))) (by intro p hp; cases hp) ⟨rfl, _, by rw [List.getD_eq_getElem?_getD, List.getElem?_eq_none (by omega)]; rfl⟩

theorem in_getD {K : Frag} {h : Heap} {a : Addr} {o : Obj} (X : K.In h) (e : List.lookup a K = some o) : h.get? a = some o := X a o e
theorem fieldsDAt (w : World) {h : Heap} (X : (Mine.hd.heap_39 w.params).In h) : ∀ (i : Nat) (nm : Str), namesD[i]? = some nm → ∃ a lb t1 t2, (#[.ref 263, .ref 264, .ref 265, .ref 266, .ref 267, .ref 268, .ref 269, .ref 270] : Array Value)[i]? = some (.ref a) ∧ h.get? a = some { cls := .type "tuple", data := .seq #[.str lb t1, .str nm t2] } := by
  refine fillit _ ?_
  k_fill
  intro i nm hi
  rcases i with _ | _ | _ | _ | _ | _ | _ | _ | i
  all_goals first | (cases hi; done) | (cases Option.some.inj hi; exact ⟨_, _, _, _, rfl, in_getD X (by k_is)⟩)
theorem t_gaD (w : World) (x l dx : Addr) (k1 v1 k2 v2 k3 t : Tok) (vs : List Value) (n : Nat) (row : List Str) (hr : OkRow row) (name : Str) (i : Nat) (hi : namesD[i]? = some name) : Ct w 125 6 (fun news => MsgIn w.params news x 274 "II" "DTM" l dx k1 v1 k2 v2 k3 ∧ (l, listOf vs.toArray n) ∈ news ∧ DatAll news vs (row.map Dat.str)) [.ref x, .str name t] (fun new _ v => new = [] ∧ ∃ k, v = .str (row.getD i (Str.ofString "")) k) := by
  refine fillit _ ?_
  k_fill
  show Ct _ _ _ _ _ _
  intro mean mg mb dp un gd cn cs a ccd cl outer A₀ base h₀ L m news s Q E B F X N T hk hd hu hpre hret
  obtain ⟨⟨hx, hdx⟩, hl, hrow⟩ := hpre
  obtain ⟨ls, rfl, hls⟩ := dat_strs hrow
  unfold msgDict at hdx
  k_dflt ktr_enter
  rename_i g' L' h' FG' F' N' B' X' T'
  k_steps
  refine' enum_dict (T := 271) (items := #[.ref 263, .ref 264, .ref 265, .ref 266, .ref 267, .ref 268, .ref 269, .ref 270]) (names := namesD) ?F ?N ?hh ?c1 ?c2 ?c3 ?c4 ?c5 ?c6 ?c7 ?c8 ?c9 ?d1 ?d2 ?d3 ?d4 ?d5 ?d6
  case F => k_asm
  case N => k_asm
  case hh => exact rfl
  case c1 => with_unfolding_all rfl
  case c2 => decide
  case c3 => rfl
  case c4 => decide
  case c5 => rfl
  case c6 => rfl
  case c7 => decide
  case c8 => decide
  case c9 => decide
  case d1 => decide +kernel
  case d2 => rfl
  case d3 => decide
  case d4 =>
    intro j v hj
    have hjn : j < namesD.length := by
      have := (Array.getElem?_eq_some_iff.mp hj).1
      exact this
    obtain ⟨fa, fl, ft, ftn, hfi, hfa⟩ := fieldsDAt w (show (Mine.hd.heap_39 w.params).In g' from by k_asm) _ _ (List.getElem?_eq_getElem hjn)
    rw [hj] at hfi
    cases Option.some.inj hfi
    exact ⟨fa, _, _, _, _, rfl, hfa, rfl, List.getElem?_eq_getElem hjn⟩
  case d5 =>
    repeat' ((fail_if_success (with_reducible show wpAny _ _ (PySem.call (Value.type "enumerate") _) _ _ _)); first | walk1 | (k_unfold; (try dsimp only)))
    try dsimp only
    have h250 : g'.get? 271 = some { cls := .type "tuple", data := .seq #[.ref 263, .ref 264, .ref 265, .ref 266, .ref 267, .ref 268, .ref 269, .ref 270] } := by
      refine (show (Mine.hd.heap_39 w.params).In g' from by k_asm) 271 _ ?_
      k_is
    rename Fr g' L' _ _ => F5
    have h250' := F5.keep _ _ h250
    refine call_enum_tup (items := #[.ref 263, .ref 264, .ref 265, .ref 266, .ref 267, .ref 268, .ref 269, .ref 270]) h250' ?_
    intro h9 he hi hT hs9 hk9
    exact ⟨_, _, h9, _, rfl, rfl, he, hi, hT, Nat.le_succ _, Nat.le_refl _, Nat.succ_ne_self _, Heap.lt_size h250', hk9⟩
  case d6 =>
    intro D o kvs h' tk' F6 N6 l6 hdo hpl
    obtain ⟨ti, hti⟩ := placed_at nodupD hpl hi
    repeat' ((fail_if_success (with_reducible show wpAny _ _ (PySem.getItem _ _) _ _ _)); first | walk1 | (k_unfold; (try dsimp only)))
    try dsimp only
    rename News g' L' _ _ => N8
    refine wpAny_getItem_of (strKind_is _ _ _ _) (kda_dict N8 (show (D, o) ∈ _ by k_mem) hdo).mapOf hti ?_
    obtain ⟨fa, fl, ft, ftn, hfi, hfa⟩ := fieldsDAt w (show (Mine.hd.heap_39 w.params).In g' from by k_asm) _ _ hi
    have hi9 : i < (#[.ref 263, .ref 264, .ref 265, .ref 266, .ref 267, .ref 268, .ref 269, .ref 270] : Array Value).size := (Array.getElem?_eq_some_iff.mp hfi).1
    have hi8 : i < 9 := Nat.lt_of_lt_of_le hi9 (by decide)
    have h250 : g'.get? 271 = some { cls := .type "tuple", data := .seq #[.ref 263, .ref 264, .ref 265, .ref 266, .ref 267, .ref 268, .ref 269, .ref 270] } := by
      refine (show (Mine.hd.heap_39 w.params).In g' from by k_asm) 271 _ ?_
      k_is
    clear hti hpl hdo
    repeat' ((fail_if_success (with_reducible show wpAny _ _ (subscriptTail (PySem.Expr.Name _ _) _ (Value.ref _) _) _ _ _)); first | walk1 | (k_unfold; (try dsimp only)))
    try dsimp only
    rename Fr g' L' _ _ => F9
    refine item_tuple (items := #[.ref 263, .ref 264, .ref 265, .ref 266, .ref 267, .ref 268, .ref 269, .ref 270]) (j := i) ⟨_, F9.keep _ _ h250, rfl, _, rfl⟩ ?a1 ?a2 ?a3 hfi ?_
    case a1 => omega
    case a2 => omega
    case a3 => exact seq_at hi9
    repeat' ((fail_if_success (with_reducible show wpAny _ _ (PySem.call (Value.builtin "len") _) _ _ _)); first | walk1 | (k_unfold; (try dsimp only)))
    try dsimp only
    rename News g' L' _ _ => N9
    have hrl : (strValues ls).length = row.length := by rw [strValues_len, ← hls, List.length_map]
    have hfew := hr.few
    refine kst_len (us := strValues ls) (k := row.length) N9 (by k_mem) hrl (by omega) ?_
    repeat' ((fail_if_success (with_reducible show wpAny _ _ (subscriptTail _ _ _ _) _ _ _)); (fail_if_success (with_reducible show wpAny _ _ (PySem.call (Value.builtin "len") _) _ _ _)); first | walk1 | (k_unfold; (try dsimp only)))
    try dsimp only
    · have hlt : i < row.length := by omega
      obtain ⟨p, tp, hp1, hp2⟩ := strs_at hls hlt
      rename News g' L' _ _ => N7
      refine item_listV (items := (strValues ls).toArray) (x := .str p tp) (News.isList N7 (by k_mem)) (by omega) (by omega) hp1 ?_
      repeat' ((fail_if_success (with_reducible show wpAny _ _ (PySem.call (Value.builtin "len") _) _ _ _)); first | walk1 | (k_unfold; (try dsimp only)))
      try dsimp only
      rename Fr g' L' _ _ => F7
      refine len_pair (a := .str fl ft) (b := .str name ftn) ⟨_, F7.keep _ _ hfa, rfl, _, rfl⟩ ?_
      k_steps
      exact hret _ _ [] _ (by assumption) (news_drop (by assumption) (by intro p hp; repeat (first | exact hp | refine List.mem_cons_of_mem _ ?_))) (by intro p hp; cases hp) ⟨rfl, _, by rw [hp2]⟩
    · rename Fr g' L' _ _ => F7
      refine len_pair (a := .str fl ft) (b := .str name ftn) ⟨_, F7.keep _ _ hfa, rfl, _, rfl⟩ ?_
      k_steps
      exact hret _ _ [] _ (by assumption) (news_drop (by assumption) (by intro p hp; repeat (first | exact hp | refine List.mem_cons_of_mem _ ?_))) (by intro p hp; cases hp) ⟨rfl, _, by rw [List.getD_eq_getElem?_getD, List.getElem?_eq_none (by omega)]; rfl⟩

end Mine
end
section
open PySem PySem.W PyProof.Rows PySem.Calls Builtin Builtin.ObjectAttr
namespace Mine
set_option maxRecDepth 100000
set_option maxHeartbeats 8000000
local macro_rules | `(tactic| walk_at "getAttr ref") => `(tactic| (k_here; k_dflt (refine' hk_bound ?k1 ?k2 ?k3 ?k4 ?k5 ?kh ?k6 ?k7 ?k8 ?k9 ?k10 ?k11 ?k12 ?_; (case k4 => k_inst); (case k1 => k_asm); (case k2 => k_asm); (case k3 => k_asm); (case k5 => k_is); (case kh => k_is); (case k6 => k_is); (case k7 => k_is); (case k8 => k_is); (case k9 => k_is); (case k10 => k_is); (case k11 => decide +kernel); (case k12 => k_get); k_whole); intro q' h' F' N' l1; (try k_lt l1); (try k_sweep)))
local macro_rules | `(tactic| walk_at "getAttr ref") => `(tactic| (k_here; k_dflt (refine' hk_own ?k1 ?k2 ?k3 ?k4 ?k5 ?k6 ?k7 ?k8 ?k9 ?_; (case k1 => k_asm); (case k2 => k_asm); (case k3 => k_inst); (case k4 => k_is); (case k5 => k_is); (case k6 => k_is); (case k7 => k_is); (case k8 => k_get); (case k9 => k_handed); k_whole)))
local macro_rules | `(tactic| walk_at "getMethod ref") => `(tactic| (k_here; k_dflt (refine' hk_method ?k1 ?k2 ?k3 ?k4 ?k5 ?_; (case k1 => k_asm); (case k2 => k_asm); (case k3 => k_inst); (case k4 => k_is); (case k5 => k_is); k_whole)))
local macro_rules | `(tactic| ktr_enter) => `(tactic| (refine' code_def ?k1 ?k2 ?k3 ?k4 ?k5 ?kA ?kF ?kK ?k6 ?k7 ?k8 ?k9 ?kB ?_ ?c2 ?c3 ?c4 ?c5; (case kA => exact rfl); (case kF => exact rfl); (case kK => first | assumption | exact rfl); (case k1 => k_asm); (case k2 => k_asm); (case k3 => k_asm); (case k4 => k_asm); (case k5 => k_asm); (case k6 => k_is); (case k7 => k_is); (case k8 => ktr_room); (case k9 => first | exact BindsTo.of_eq rfl | exact binds_K (by k_in) rfl (by k_is) rfl rfl rfl); (case c5 => decide); (case kB => exact locs rfl); (case c2 => exact rfl); (case c3 => exact rfl); (case c4 => exact rfl); k_whole; intro g' L' h' FG' F' N' B' X' T'; (try dsimp only); (try k_lift B'); (try k_fold)))
local macro_rules | `(tactic| ktr_call $c:term 0) => `(tactic| (refine wpAny_call ?_; k_dflt (refine' ct_use $c ?k1 ?k2 ?k3 ?k4 ?k5 ?kK ?kd ?ku ?kp ?_; (case k1 => k_asm); (case k2 => k_asm); (case k3 => k_asm); (case k4 => k_asm); (case k5 => k_asm); (case kK => first | assumption | exact rfl); (case kd => ktr_room); (case ku => ktr_units))))
local macro_rules | `(tactic| ktr_call $c:term 1) => `(tactic| (refine' call_meth ?N ?q ?_; (case N => k_asm); (case q => k_mem); k_dflt (refine' ct_use $c ?k1 ?k2 ?k3 ?k4 ?k5 ?kK ?kd ?ku ?kp ?_; (case k1 => k_asm); (case k2 => k_asm); (case k3 => k_asm); (case k4 => k_asm); (case k5 => k_asm); (case kK => first | assumption | exact rfl); (case kd => ktr_room); (case ku => ktr_units))))
local macro_rules | `(tactic| k_mem) => `(tactic| first | assumption | exact List.mem_cons_self .. | (refine' List.mem_cons_of_mem _ ?_; k_mem))
local macro_rules | `(tactic| kst_same) => `(tactic| (intro z h1 h2 h3; (simp only [List.forall_mem_cons, List.not_mem_nil, false_implies, implies_true, and_true, ne_eq] at h2); (simp only [List.contains_cons, List.contains_nil, Bool.or_false, Bool.or_eq_false_iff, beq_eq_false_iff_ne, ne_eq] at h3); (simp [kstB, h1, h2, h3]; done)))
local macro_rules | `(tactic| kby_size) => `(tactic| (rw [PySem.sizeLine_eq]; omega))
local macro_rules | `(tactic| walk_at "call builtin:str.lstrip") => `(tactic| (k_here; (refine KXw.lstrip (by assumption) (by kby_size) ?_); intro _ _))
local macro_rules | `(tactic| walk_at "call builtin:str.strip") => `(tactic| (k_here; (refine KXw.strip (by assumption) (by kby_size) ?_); intro _ _))
local macro_rules | `(tactic| walk_at "call builtin:str.strip") => `(tactic| (k_here; (refine KXw.stripChars (by assumption) (by kby_size) ?_); intro _ _))
local macro_rules | `(tactic| walk_at "call builtin:str.upper") => `(tactic| (k_here; (refine KXw.upper (by assumption) (by decide +kernel) ?_); intro _ _))
local macro_rules | `(tactic| walk_at "call builtin:str.partition") => `(tactic| (k_here; (refine KXpa.partition (by k_asm) (by k_asm) (by decide) (by assumption) (by assumption) (by assumption) (by kby_size) ?_); intro D' _ _ _ _ _ F' N' l1; (try k_lt l1)))
local macro_rules | `(tactic| walk_at "call builtin:str.split") => `(tactic| (k_here; (refine KSpl.split1 (by k_asm) (by k_asm) (by decide) ?_ (by kby_size)); intro D' _ _ _ _ _ F' N' l1; (try k_lt l1)))
local macro_rules | `(tactic| walk_at "subscriptTail Name Slice str ref") => `(tactic| (k_here; (with_reducible show wpAny _ _ (subscriptTail _ (Expr.Slice none (some _) none _) _ _) _ _ _); (refine' sw_ns (s := ⟨_, _, _, _, _⟩) ?k1 ?k2 ?k3 ?k4 ?_; (case k1 => k_asm); (case k2 => k_asm); (case k3 => assumption); (case k4 => kby_size)); intro _ _ _ _ _))
local macro_rules | `(tactic| walk_at "subscriptTail Name Slice str ref") => `(tactic| (k_here; (with_reducible show wpAny _ _ (subscriptTail _ (Expr.Slice (some _) none none _) _ _) _ _ _); (refine' sw_sn (s := ⟨_, _, _, _, _⟩) ?k1 ?k2 ?k3 ?k4 ?_; (case k1 => k_asm); (case k2 => k_asm); (case k3 => assumption); (case k4 => kby_size)); intro _ _ _ _ _))
local macro_rules | `(tactic| walk_at "subscriptTail Name Slice str ref") => `(tactic| (k_here; (with_reducible show wpAny _ _ (subscriptTail _ (Expr.Slice (some _) (some _) none _) _ _) _ _ _); (refine' sw_ss (s := ⟨_, _, _, _, _⟩) ?k1 ?k2 ?k3 ?k4 ?_; (case k1 => k_asm); (case k2 => k_asm); (case k3 => assumption); (case k4 => kby_size)); intro _ _ _ _ _))
local macro_rules | `(tactic| walk_at "call builtin:str.replace") => `(tactic| (k_here; refine call_replace_none (by decide +kernel) ?_))
local macro_rules | `(tactic| walk_at "truthy str") => `(tactic| (k_here; (refine KXt.truthy (by assumption) (by kby_size) ?_); intro _))
local macro_rules | `(tactic| walk_at "call type:int") => `(tactic| (k_here; refine call_int16 (by assumption) ?_))
local macro_rules | `(tactic| walk_at "getMethod ref") => `(tactic| (k_here; (with_reducible show wpAny _ _ (getMethod (Value.ref _) (Str.ofString "get") _) _ _ _); refine kdg_method (knd := PySem.strKind _ _) (by k_asm) (by k_mem) (by k_asm) ?_))
local macro_rules | `(tactic| walk_at "call builtin:dict.get") => `(tactic| (k_here; refine kdg_get1 (knd := PySem.strKind _ _) (by k_asm) (by k_mem) (by k_asm) (by k_asm) (strKind_is _ _ _ _) (some _) (by rfl) ?_; (try dsimp only [Option.getD])))
local macro_rules | `(tactic| walk_at "compareOp NotEq int int") => `(tactic| (k_here; refine ne_self ?_))
local macro_rules | `(tactic| walk_at "truthy ref") => `(tactic| (k_here; refine truthy_class (by k_asm) (by k_asm) (by k_is) rfl ?_))
local macro_rules | `(tactic| k_all) => `(tactic| first | exact off_lt (by assumption) | exact off_alt (by assumption) | exact off_alt (And.right (by assumption)))
local macro_rules | `(tactic| walk_at "call type:list") => `(tactic| (k_here; (with_reducible show wpAny _ _ (call (Value.type _) [Value.ref _]) _ _ _); k_dflt (refine' kup_listOf ?F ?N ?b ?e ?_ ?z; (case F => k_asm); (case N => k_asm); (case b => k_mem); (case e => exact rfl); (case z => assumption)); intro D' c' h' F' N' l1; (try k_lt l1); (try k_sweep)))
theorem t_newW (w : World) (D : Addr) (vs : List Value) (n : Nat) (t1 t2 : Tok) : Ct w 253 4 (fun news => (D, listOf vs.toArray n) ∈ news ∧ vs.length ≤ 100) [.str (Str.ofString "GP") t1, .str (Str.ofString "WPL") t2, .ref D] (fun new news v => ∃ x l dx q1 q2 q3 q4 q5 c, v = .ref x ∧ new = [(l, listOf vs.toArray c), (x, instObj 253 dx), (dx, msgDict w.params q1 q2 q3 q4 q5 "GP" "WPL" l)]) := by
  refine fillit _ ?_
  k_fill
  show Ct _ _ _ _ _ _
  intro mean mg mb dp un gd cn cs a ccd cl outer A₀ base h₀ L m news s Q E B F X N T hk hd hu ⟨hpre, hlen⟩ hret
  refine' make_K F N (X.keeps F.keep) ?h1 ?h2 ?h3 ?_
  case h1 => k_is
  case h2 => k_is
  case h3 => exact rfl
  intro x dx h1 F1 N1 l1 l2
  replace N1 : News h₀ L h1 ((x, instObj 253 dx) :: (dx, dictOf [] 0) :: news) := N1
  have l3 := allLt_of l1
  replace l2 := ltN l2
  have hz : vs.toArray.toList.length ≤ sizeLine := by rw [PySem.sizeLine_eq]; simp; omega
  k_dflt ktr_enter
  k_steps
  have l4 : AllLt x news := allLt_mono l2 l3
  refine hret _ _ [_, _, _] _ (by assumption) (by assumption) ?_ ⟨x, _, dx, _, _, _, _, _, _, rfl, rfl⟩
  intro p hp
  simp only [List.mem_cons, List.not_mem_nil, or_false] at hp
  rcases hp with rfl | rfl | rfl
  · exact And.right (And.right (by assumption))
  · exact l4
  · exact l3
theorem t_newSW (w : World) (D : Addr) {ls : List (Str × Tok)} {R : List Str} (_hls : ls.map (·.1) = R) (n : Nat) (t1 t2 : Tok) : Ct w 253 4 (fun news => (D, listOf (strValues ls).toArray n) ∈ news ∧ (strValues ls).length ≤ 100) [.str (Str.ofString "GP") t1, .str (Str.ofString "WPL") t2, .ref D] (fun new news v => ∃ x l dx q1 q2 q3 q4 q5 c, v = .ref x ∧ new = [(l, listOf (strValues ls).toArray c), (x, instObj 253 dx), (dx, msgDict w.params q1 q2 q3 q4 q5 "GP" "WPL" l)]) := t_newW w D (strValues ls) n t1 t2
theorem t_word4W (w : World) (t u : Tok) : Ct w 91 2 (fun _ => True) [.str (Str.ofString "GPWP") t, .int 4 u] (fun new _ v => new = [] ∧ v = .bool true) := by
  refine fillit _ ?_
  k_fill
  show Ct _ _ _ _ _ _
  intro mean mg mb dp un gd cn cs a ccd cl outer A₀ base h₀ L m news s Q E B F X N T hk hd hu hpre hret
  k_dflt ktr_enter
  k_steps
  exact hret _ _ [] _ (by assumption) (by assumption) (by intro p hp; cases hp) ⟨rfl, rfl⟩
theorem t_word5W (w : World) (t u : Tok) : Ct w 91 2 (fun _ => True) [.str (Str.ofString "GPWPL") t, .int 5 u] (fun new _ v => new = [] ∧ v = .bool true) := by
  refine fillit _ ?_
  k_fill
  show Ct _ _ _ _ _ _
  intro mean mg mb dp un gd cn cs a ccd cl outer A₀ base h₀ L m news s Q E B F X N T hk hd hu hpre hret
  k_dflt ktr_enter
  k_steps
  exact hret _ _ [] _ (by assumption) (by assumption) (by intro p hp; cases hp) ⟨rfl, rfl⟩
theorem t_parseW (w : World) (D : Addr) (o : Obj) (hdo : o.IsDictOf (PySem.strKind PG w) [(Str.ofString "WPL", .ref 253), (Str.ofString "DTM", .ref 274)]) (lo : (D == sysModules) = false) (row : List Str) (hr : OkRow row) (t : Tok) : Ct w 117 6 (fun news => (D, o) ∈ news) [.str (lineT (bodyT "GPWPL," row)) t, .ref D] (fun new news v => ∃ x l dx q1 q2 q3 q4 q5 c ls, v = .ref x ∧ new = [(l, listOf (strValues ls).toArray c), (x, instObj 253 dx), (dx, msgDict w.params q1 q2 q3 q4 q5 "GP" "WPL" l)] ∧ ls.map (·.1) = cutT (Txt.join "," row)) := by
  refine fillit _ ?_
  k_fill
  show Ct _ _ _ _ _ _
  intro mean mg mb dp un gd cn cs a ccd cl outer A₀ base h₀ L m news s Q E B F X N T hk hd hu hpre hret
  have hh : ((Str.ofString "GPWPL,").cps.toList.all fun c => decide (c < 128 ∧ c ≠ 42)) = true := by decide +kernel
  have hpl := body_plain hr hh
  have hck := ck_is (x := bodyT "GPWPL," row) fun c hc => (hpl c hc).1
  have hbl := bodyT_len (head := "GPWPL,") hr (by decide +kernel)
  have hjl := hr.join_len
  have hcps := body_cps "GPWPL," row
  have hpa := line_part hr "GPWPL," hh
  have ls1 := line_lstrip (bodyT "GPWPL," row)
  have hat := all_of fun c hc => (hpl c hc).1
  generalize hB : bodyT (Str.ofString "GPWPL,") row = B at *
  generalize hJ : Txt.join (Str.ofString ",") row = J at *
  have hll : (lineT B).length ≤ 100 := by
    show (lineT B).cps.toList.length ≤ 100
    rw [line_cps, PySem.Str.cps_append]
    have e1 : B.cps.toList.length ≤ 89 := hbl
    have e2 : (Str.ofString "$").cps.toList.length = 1 := by decide +kernel
    simp only [Array.toList_append, List.length_append, List.length_cons]
    have e3 : (hex2 (ck B)).cps.toList.length = 2 := rfl
    omega
  have hdl : (Str.ofString "$" ++ B).length ≤ 90 := by
    rw [PySem.Str.length_append]
    have e2 : (Str.ofString "$").length = 1 := by decide +kernel
    omega
  have hxl : (hex2 (ck B)).length = 2 := rfl
  have p1 : (Txt.partition (lineT B) (Str.ofString "*")).1 = Str.ofString "$" ++ B := by rw [hpa]
  have p2 : (Txt.partition (lineT B) (Str.ofString "*")).2.1 = Str.ofString "*" := by rw [hpa]
  have p3 : (Txt.partition (lineT B) (Str.ofString "*")).2.2 = hex2 (ck B) := by rw [hpa]
  have s1 : Txt.slice (Str.ofString "$" ++ B) none (some 1) = Str.ofString "$" := sl_to (dollar_cps B) (by decide) (by decide +kernel)
  have s2 : Txt.slice (Str.ofString "$" ++ B) (some 1) none = B := sl_from (dollar_cps B) (by decide) rfl
  have s3 : Txt.slice B none (some 1) = Str.ofString "G" := sl_to hcps (by decide +kernel) (by decide +kernel)
  have s4 : Txt.slice B none (some 4) = Str.ofString "GPWP" := sl_to hcps (by decide +kernel) (by decide +kernel)
  have s5 : Txt.slice B (some 4) (some 6) = Str.ofString "L," := sl_of hcps (by decide +kernel) (by decide +kernel)
  have s6 : Txt.slice B none (some 5) = Str.ofString "GPWPL" := sl_to hcps (by decide +kernel) (by decide +kernel)
  have s7 : Txt.slice B (some 5) (some 6) = Str.ofString "," := sl_of hcps (by decide +kernel) (by decide +kernel)
  have s8 : Txt.slice (hex2 (ck B)) none (some 2) = hex2 (ck B) := sl_all rfl
  have s9 : Txt.slice (hex2 (ck B)) (some 2) none = Str.ofString "" := sl_from (cs := (hex2 (ck B)).cps.toList) (J := []) (by simp) rfl (by decide +kernel)
  have s10 := strip_hex _ hck.1
  have s11 := strip_none
  have s12 : Txt.slice B none (some 6) = Str.ofString "GPWPL," := sl_to hcps (by decide +kernel) (by decide +kernel)
  have s13 : Txt.upper (Str.ofString "GPWPL,") = Str.ofString "GPWPL," := by decide +kernel
  have s14 : Txt.slice B (some 6) none = J := sl_from hcps (by decide +kernel) rfl
  have s15 : Txt.slice (Str.ofString "GPWPL,") (some 5) none = Str.ofString "," := by decide +kernel
  have s16 : Txt.slice (Str.ofString "GPWPL,") none (some 2) = Str.ofString "GP" := by decide +kernel
  have s17 : Txt.slice (Str.ofString "GPWPL,") (some 2) (some 5) = Str.ofString "WPL" := by decide +kernel
  have s18 : (((hex2 (ck B)).length : Int) != 0) = true := rfl
  have s19 : (((Str.ofString "*").length : Int) != 0) = true := by decide +kernel
  have s20 : (((Str.ofString "").length : Int) != 0) = false := by decide +kernel
  have hckl := hck.1
  clear hcps hpa hpl
  k_dflt ktr_enter
  repeat' ((fail_if_success (with_reducible show wpAny _ _ (PySem.call (Value.ref _) _) _ _ _)); first | walk1 | (k_unfold; (try dsimp only)))
  try dsimp only
  ktr_call (t_word4W w _ _) 0
  · trivial
  intro h9 tk9 nw9 v9 F9 N9 _ ⟨e1, e2⟩
  subst e1 e2
  simp only [List.nil_append] at N9
  repeat' ((fail_if_success (with_reducible show wpAny _ _ (PySem.call (Value.ref _) _) _ _ _)); first | walk1 | (k_unfold; (try dsimp only)))
  try dsimp only
  ktr_call (t_word5W w _ _) 0
  · trivial
  intro h8 tk8 nw8 v8 F8 N8 _ ⟨e1, e2⟩
  subst e1 e2
  simp only [List.nil_append] at N8
  repeat' ((fail_if_success (with_reducible show wpAny _ _ (PySem.call (Value.ref _) _) _ _ _)); first | walk1 | (k_unfold; (try dsimp only)))
  try dsimp only
  ktr_call (t_ck w B _ hat) 0
  · trivial
  intro h7 tk7 nw7 v7 F7 N7 _ ⟨e1, kk7, e2⟩
  subst e1 e2
  simp only [List.nil_append] at N7
  rw [hck.2]
  repeat' ((fail_if_success (with_reducible show wpAny _ _ (PySem.call (Value.ref _) _) _ _ _)); first | walk1 | (k_unfold; (try dsimp only)))
  try dsimp only
  have hls := ‹List.map _ _ = Txt.split J (Str.ofString ",")›
  have hsp := split_le J (Str.ofString ",")
  ktr_call (t_newSW w _ hls 0 _ _) 0
  · refine ⟨by k_mem, ?_⟩
    rw [strValues_len, ← List.length_map (f := (·.1)), hls]
    omega
  intro h6 tk6 nw6 v6 F6 N6 l6 ⟨x, l, dx, q1, q2, q3, q4, q5, c, e1, e2⟩
  subst e1 e2
  k_steps
  refine hret _ _ [_, _, _] _ (by assumption) (news_drop (by assumption) ?sub) ?lt ⟨x, l, dx, q1, q2, q3, q4, q5, c, _, rfl, rfl, hls⟩
  case sub =>
    intro p hp
    simp only [List.cons_append, List.nil_append, List.mem_cons, List.not_mem_nil, false_or] at hp ⊢
    rcases hp with rfl | rfl | rfl | hp
    · exact .inl rfl
    · exact .inr (.inl rfl)
    · exact .inr (.inr (.inl rfl))
    · simp [hp]
  case lt =>
    intro p hp
    have := l6 p hp
    simp only [AllLt] at this
    simp [this]

theorem t_newD (w : World) (D : Addr) (vs : List Value) (n : Nat) (t1 t2 : Tok) : Ct w 274 4 (fun news => (D, listOf vs.toArray n) ∈ news ∧ vs.length ≤ 100) [.str (Str.ofString "II") t1, .str (Str.ofString "DTM") t2, .ref D] (fun new news v => ∃ x l dx q1 q2 q3 q4 q5 c, v = .ref x ∧ new = [(l, listOf vs.toArray c), (x, instObj 274 dx), (dx, msgDict w.params q1 q2 q3 q4 q5 "II" "DTM" l)]) := by
  refine fillit _ ?_
  k_fill
  show Ct _ _ _ _ _ _
  intro mean mg mb dp un gd cn cs a ccd cl outer A₀ base h₀ L m news s Q E B F X N T hk hd hu ⟨hpre, hlen⟩ hret
  refine' make_K F N (X.keeps F.keep) ?h1 ?h2 ?h3 ?_
  case h1 => k_is
  case h2 => k_is
  case h3 => exact rfl
  intro x dx h1 F1 N1 l1 l2
  replace N1 : News h₀ L h1 ((x, instObj 274 dx) :: (dx, dictOf [] 0) :: news) := N1
  have l3 := allLt_of l1
  replace l2 := ltN l2
  have hz : vs.toArray.toList.length ≤ sizeLine := by rw [PySem.sizeLine_eq]; simp; omega
  k_dflt ktr_enter
  k_steps
  have l4 : AllLt x news := allLt_mono l2 l3
  refine hret _ _ [_, _, _] _ (by assumption) (by assumption) ?_ ⟨x, _, dx, _, _, _, _, _, _, rfl, rfl⟩
  intro p hp
  simp only [List.mem_cons, List.not_mem_nil, or_false] at hp
  rcases hp with rfl | rfl | rfl
  · exact And.right (And.right (by assumption))
  · exact l4
  · exact l3
theorem t_newSD (w : World) (D : Addr) {ls : List (Str × Tok)} {R : List Str} (_hls : ls.map (·.1) = R) (n : Nat) (t1 t2 : Tok) : Ct w 274 4 (fun news => (D, listOf (strValues ls).toArray n) ∈ news ∧ (strValues ls).length ≤ 100) [.str (Str.ofString "II") t1, .str (Str.ofString "DTM") t2, .ref D] (fun new news v => ∃ x l dx q1 q2 q3 q4 q5 c, v = .ref x ∧ new = [(l, listOf (strValues ls).toArray c), (x, instObj 274 dx), (dx, msgDict w.params q1 q2 q3 q4 q5 "II" "DTM" l)]) := t_newD w D (strValues ls) n t1 t2
theorem t_word4D (w : World) (t u : Tok) : Ct w 91 2 (fun _ => True) [.str (Str.ofString "IIDT") t, .int 4 u] (fun new _ v => new = [] ∧ v = .bool true) := by
  refine fillit _ ?_
  k_fill
  show Ct _ _ _ _ _ _
  intro mean mg mb dp un gd cn cs a ccd cl outer A₀ base h₀ L m news s Q E B F X N T hk hd hu hpre hret
  k_dflt ktr_enter
  k_steps
  exact hret _ _ [] _ (by assumption) (by assumption) (by intro p hp; cases hp) ⟨rfl, rfl⟩
theorem t_word5D (w : World) (t u : Tok) : Ct w 91 2 (fun _ => True) [.str (Str.ofString "IIDTM") t, .int 5 u] (fun new _ v => new = [] ∧ v = .bool true) := by
  refine fillit _ ?_
  k_fill
  show Ct _ _ _ _ _ _
  intro mean mg mb dp un gd cn cs a ccd cl outer A₀ base h₀ L m news s Q E B F X N T hk hd hu hpre hret
  k_dflt ktr_enter
  k_steps
  exact hret _ _ [] _ (by assumption) (by assumption) (by intro p hp; cases hp) ⟨rfl, rfl⟩
theorem t_parseD (w : World) (D : Addr) (o : Obj) (hdo : o.IsDictOf (PySem.strKind PG w) [(Str.ofString "WPL", .ref 253), (Str.ofString "DTM", .ref 274)]) (lo : (D == sysModules) = false) (row : List Str) (hr : OkRow row) (t : Tok) : Ct w 117 6 (fun news => (D, o) ∈ news) [.str (lineT (bodyT "IIDTM," row)) t, .ref D] (fun new news v => ∃ x l dx q1 q2 q3 q4 q5 c ls, v = .ref x ∧ new = [(l, listOf (strValues ls).toArray c), (x, instObj 274 dx), (dx, msgDict w.params q1 q2 q3 q4 q5 "II" "DTM" l)] ∧ ls.map (·.1) = cutT (Txt.join "," row)) := by
  refine fillit _ ?_
  k_fill
  show Ct _ _ _ _ _ _
  intro mean mg mb dp un gd cn cs a ccd cl outer A₀ base h₀ L m news s Q E B F X N T hk hd hu hpre hret
  have hh : ((Str.ofString "IIDTM,").cps.toList.all fun c => decide (c < 128 ∧ c ≠ 42)) = true := by decide +kernel
  have hpl := body_plain hr hh
  have hck := ck_is (x := bodyT "IIDTM," row) fun c hc => (hpl c hc).1
  have hbl := bodyT_len (head := "IIDTM,") hr (by decide +kernel)
  have hjl := hr.join_len
  have hcps := body_cps "IIDTM," row
  have hpa := line_part hr "IIDTM," hh
  have ls1 := line_lstrip (bodyT "IIDTM," row)
  have hat := all_of fun c hc => (hpl c hc).1
  generalize hB : bodyT (Str.ofString "IIDTM,") row = B at *
  generalize hJ : Txt.join (Str.ofString ",") row = J at *
  have hll : (lineT B).length ≤ 100 := by
    show (lineT B).cps.toList.length ≤ 100
    rw [line_cps, PySem.Str.cps_append]
    have e1 : B.cps.toList.length ≤ 89 := hbl
    have e2 : (Str.ofString "$").cps.toList.length = 1 := by decide +kernel
    simp only [Array.toList_append, List.length_append, List.length_cons]
    have e3 : (hex2 (ck B)).cps.toList.length = 2 := rfl
    omega
  have hdl : (Str.ofString "$" ++ B).length ≤ 90 := by
    rw [PySem.Str.length_append]
    have e2 : (Str.ofString "$").length = 1 := by decide +kernel
    omega
  have hxl : (hex2 (ck B)).length = 2 := rfl
  have p1 : (Txt.partition (lineT B) (Str.ofString "*")).1 = Str.ofString "$" ++ B := by rw [hpa]
  have p2 : (Txt.partition (lineT B) (Str.ofString "*")).2.1 = Str.ofString "*" := by rw [hpa]
  have p3 : (Txt.partition (lineT B) (Str.ofString "*")).2.2 = hex2 (ck B) := by rw [hpa]
  have s1 : Txt.slice (Str.ofString "$" ++ B) none (some 1) = Str.ofString "$" := sl_to (dollar_cps B) (by decide) (by decide +kernel)
  have s2 : Txt.slice (Str.ofString "$" ++ B) (some 1) none = B := sl_from (dollar_cps B) (by decide) rfl
  have s3 : Txt.slice B none (some 1) = Str.ofString "I" := sl_to hcps (by decide +kernel) (by decide +kernel)
  have s4 : Txt.slice B none (some 4) = Str.ofString "IIDT" := sl_to hcps (by decide +kernel) (by decide +kernel)
  have s5 : Txt.slice B (some 4) (some 6) = Str.ofString "M," := sl_of hcps (by decide +kernel) (by decide +kernel)
  have s6 : Txt.slice B none (some 5) = Str.ofString "IIDTM" := sl_to hcps (by decide +kernel) (by decide +kernel)
  have s7 : Txt.slice B (some 5) (some 6) = Str.ofString "," := sl_of hcps (by decide +kernel) (by decide +kernel)
  have s8 : Txt.slice (hex2 (ck B)) none (some 2) = hex2 (ck B) := sl_all rfl
  have s9 : Txt.slice (hex2 (ck B)) (some 2) none = Str.ofString "" := sl_from (cs := (hex2 (ck B)).cps.toList) (J := []) (by simp) rfl (by decide +kernel)
  have s10 := strip_hex _ hck.1
  have s11 := strip_none
  have s12 : Txt.slice B none (some 6) = Str.ofString "IIDTM," := sl_to hcps (by decide +kernel) (by decide +kernel)
  have s13 : Txt.upper (Str.ofString "IIDTM,") = Str.ofString "IIDTM," := by decide +kernel
  have s14 : Txt.slice B (some 6) none = J := sl_from hcps (by decide +kernel) rfl
  have s15 : Txt.slice (Str.ofString "IIDTM,") (some 5) none = Str.ofString "," := by decide +kernel
  have s16 : Txt.slice (Str.ofString "IIDTM,") none (some 2) = Str.ofString "II" := by decide +kernel
  have s17 : Txt.slice (Str.ofString "IIDTM,") (some 2) (some 5) = Str.ofString "DTM" := by decide +kernel
  have s18 : (((hex2 (ck B)).length : Int) != 0) = true := rfl
  have s19 : (((Str.ofString "*").length : Int) != 0) = true := by decide +kernel
  have s20 : (((Str.ofString "").length : Int) != 0) = false := by decide +kernel
  have hckl := hck.1
  clear hcps hpa hpl
  k_dflt ktr_enter
  repeat' ((fail_if_success (with_reducible show wpAny _ _ (PySem.call (Value.ref _) _) _ _ _)); first | walk1 | (k_unfold; (try dsimp only)))
  try dsimp only
  ktr_call (t_word4D w _ _) 0
  · trivial
  intro h9 tk9 nw9 v9 F9 N9 _ ⟨e1, e2⟩
  subst e1 e2
  simp only [List.nil_append] at N9
  repeat' ((fail_if_success (with_reducible show wpAny _ _ (PySem.call (Value.ref _) _) _ _ _)); first | walk1 | (k_unfold; (try dsimp only)))
  try dsimp only
  ktr_call (t_word5D w _ _) 0
  · trivial
  intro h8 tk8 nw8 v8 F8 N8 _ ⟨e1, e2⟩
  subst e1 e2
  simp only [List.nil_append] at N8
  repeat' ((fail_if_success (with_reducible show wpAny _ _ (PySem.call (Value.ref _) _) _ _ _)); first | walk1 | (k_unfold; (try dsimp only)))
  try dsimp only
  ktr_call (t_ck w B _ hat) 0
  · trivial
  intro h7 tk7 nw7 v7 F7 N7 _ ⟨e1, kk7, e2⟩
  subst e1 e2
  simp only [List.nil_append] at N7
  rw [hck.2]
  repeat' ((fail_if_success (with_reducible show wpAny _ _ (PySem.call (Value.ref _) _) _ _ _)); first | walk1 | (k_unfold; (try dsimp only)))
  try dsimp only
  have hls := ‹List.map _ _ = Txt.split J (Str.ofString ",")›
  have hsp := split_le J (Str.ofString ",")
  ktr_call (t_newSD w _ hls 0 _ _) 0
  · refine ⟨by k_mem, ?_⟩
    rw [strValues_len, ← List.length_map (f := (·.1)), hls]
    omega
  intro h6 tk6 nw6 v6 F6 N6 l6 ⟨x, l, dx, q1, q2, q3, q4, q5, c, e1, e2⟩
  subst e1 e2
  k_steps
  refine hret _ _ [_, _, _] _ (by assumption) (news_drop (by assumption) ?sub) ?lt ⟨x, l, dx, q1, q2, q3, q4, q5, c, _, rfl, rfl, hls⟩
  case sub =>
    intro p hp
    simp only [List.cons_append, List.nil_append, List.mem_cons, List.not_mem_nil, false_or] at hp ⊢
    rcases hp with rfl | rfl | rfl | hp
    · exact .inl rfl
    · exact .inr (.inl rfl)
    · exact .inr (.inr (.inl rfl))
    · simp [hp]
  case lt =>
    intro p hp
    have := l6 p hp
    simp only [AllLt] at this
    simp [this]

end Mine
end
section
open PySem PySem.W PyProof.Rows PySem.Calls Builtin Builtin.ObjectAttr
namespace Mine
set_option maxRecDepth 100000
set_option maxHeartbeats 8000000
local macro_rules | `(tactic| walk_at "getAttr ref") => `(tactic| (k_here; k_dflt (refine' hk_bound ?k1 ?k2 ?k3 ?k4 ?k5 ?kh ?k6 ?k7 ?k8 ?k9 ?k10 ?k11 ?k12 ?_; (case k4 => k_inst); (case k1 => k_asm); (case k2 => k_asm); (case k3 => k_asm); (case k5 => k_is); (case kh => k_is); (case k6 => k_is); (case k7 => k_is); (case k8 => k_is); (case k9 => k_is); (case k10 => k_is); (case k11 => decide +kernel); (case k12 => k_get); k_whole); intro q' h' F' N' l1; (try k_lt l1); (try k_sweep)))
local macro_rules | `(tactic| walk_at "getAttr ref") => `(tactic| (k_here; k_dflt (refine' hk_own ?k1 ?k2 ?k3 ?k4 ?k5 ?k6 ?k7 ?k8 ?k9 ?_; (case k1 => k_asm); (case k2 => k_asm); (case k3 => k_inst); (case k4 => k_is); (case k5 => k_is); (case k6 => k_is); (case k7 => k_is); (case k8 => k_get); (case k9 => k_handed); k_whole)))
local macro_rules | `(tactic| walk_at "getMethod ref") => `(tactic| (k_here; k_dflt (refine' hk_method ?k1 ?k2 ?k3 ?k4 ?k5 ?_; (case k1 => k_asm); (case k2 => k_asm); (case k3 => k_inst); (case k4 => k_is); (case k5 => k_is); k_whole)))
local macro_rules | `(tactic| ktr_enter) => `(tactic| (refine' code_def ?k1 ?k2 ?k3 ?k4 ?k5 ?kA ?kF ?kK ?k6 ?k7 ?k8 ?k9 ?kB ?_ ?c2 ?c3 ?c4 ?c5; (case kA => exact rfl); (case kF => exact rfl); (case kK => first | assumption | exact rfl); (case k1 => k_asm); (case k2 => k_asm); (case k3 => k_asm); (case k4 => k_asm); (case k5 => k_asm); (case k6 => k_is); (case k7 => k_is); (case k8 => ktr_room); (case k9 => first | exact BindsTo.of_eq rfl | exact binds_K (by k_in) rfl (by k_is) rfl rfl rfl); (case c5 => decide); (case kB => exact locs rfl); (case c2 => exact rfl); (case c3 => exact rfl); (case c4 => exact rfl); k_whole; intro g' L' h' FG' F' N' B' X' T'; (try dsimp only); (try k_lift B'); (try k_fold)))
local macro_rules | `(tactic| ktr_call $c:term 0) => `(tactic| (refine wpAny_call ?_; k_dflt (refine' ct_use $c ?k1 ?k2 ?k3 ?k4 ?k5 ?kK ?kd ?ku ?kp ?_; (case k1 => k_asm); (case k2 => k_asm); (case k3 => k_asm); (case k4 => k_asm); (case k5 => k_asm); (case kK => first | assumption | exact rfl); (case kd => ktr_room); (case ku => ktr_units))))
local macro_rules | `(tactic| ktr_call $c:term 1) => `(tactic| (refine' call_meth ?N ?q ?_; (case N => k_asm); (case q => k_mem); k_dflt (refine' ct_use $c ?k1 ?k2 ?k3 ?k4 ?k5 ?kK ?kd ?ku ?kp ?_; (case k1 => k_asm); (case k2 => k_asm); (case k3 => k_asm); (case k4 => k_asm); (case k5 => k_asm); (case kK => first | assumption | exact rfl); (case kd => ktr_room); (case ku => ktr_units))))
local macro_rules | `(tactic| k_mem) => `(tactic| first | assumption | exact List.mem_cons_self .. | (refine' List.mem_cons_of_mem _ ?_; k_mem))
local macro_rules | `(tactic| kst_same) => `(tactic| (intro z h1 h2 h3; (simp only [List.forall_mem_cons, List.not_mem_nil, false_implies, implies_true, and_true, ne_eq] at h2); (simp only [List.contains_cons, List.contains_nil, Bool.or_false, Bool.or_eq_false_iff, beq_eq_false_iff_ne, ne_eq] at h3); (simp [kstB, h1, h2, h3]; done)))
local macro_rules | `(tactic| kby_size) => `(tactic| (rw [PySem.sizeLine_eq]; omega))
local macro_rules | `(tactic| walk_at "call builtin:str.lstrip") => `(tactic| (k_here; (refine KXw.lstrip (by assumption) (by kby_size) ?_); intro _ _))
local macro_rules | `(tactic| walk_at "call builtin:str.strip") => `(tactic| (k_here; (refine KXw.strip (by assumption) (by kby_size) ?_); intro _ _))
local macro_rules | `(tactic| walk_at "call builtin:str.strip") => `(tactic| (k_here; (refine KXw.stripChars (by assumption) (by kby_size) ?_); intro _ _))
local macro_rules | `(tactic| walk_at "call builtin:str.upper") => `(tactic| (k_here; (refine KXw.upper (by assumption) (by decide +kernel) ?_); intro _ _))
local macro_rules | `(tactic| walk_at "call builtin:str.partition") => `(tactic| (k_here; (refine KXpa.partition (by k_asm) (by k_asm) (by decide) (by assumption) (by assumption) (by assumption) (by kby_size) ?_); intro D' _ _ _ _ _ F' N' l1; (try k_lt l1)))
local macro_rules | `(tactic| walk_at "call builtin:str.split") => `(tactic| (k_here; (refine KSpl.split1 (by k_asm) (by k_asm) (by decide) ?_ (by kby_size)); intro D' _ _ _ _ _ F' N' l1; (try k_lt l1)))
theorem t_identW (w : World) (x l dx : Addr) (k1 v1 k2 v2 k3 : Tok) : Ct w 180 2 (fun news => MsgIn w.params news x 253 "GP" "WPL" l dx k1 v1 k2 v2 k3) [.ref x] (fun new _ v => new = [] ∧ ∃ k, v = .str "GPWPL," k) := by
  refine fillit _ ?_
  k_fill
  show Ct _ _ _ _ _ _
  intro mean mg mb dp un gd cn cs a ccd cl outer A₀ base h₀ L m news s Q E B F X N T hk hd hu hpre hret
  obtain ⟨hx, hdx⟩ := hpre
  unfold msgDict at hdx
  k_dflt ktr_enter
  k_steps
  exact hret _ _ [] _ (by assumption) (by assumption) (by intro p hp; cases hp) ⟨rfl, _, by rw [show Str.empty ++ Str.ofString "GP" ++ Str.ofString "WPL" ++ Str.ofString "," = Str.ofString "GPWPL," from by decide +kernel]⟩

theorem t_bareW (w : World) (x l dx : Addr) (k1 v1 k2 v2 k3 : Tok) (vs : List Value) (n : Nat) (row : List Str) (hr : OkRow row) : Ct w 145 6 (fun news => MsgIn w.params news x 253 "GP" "WPL" l dx k1 v1 k2 v2 k3 ∧ (l, listOf vs.toArray n) ∈ news ∧ DatAll news vs (row.map Dat.str)) [.ref x, .bool false, .bool false, .bool false] (fun new _ v => new = [] ∧ ∃ k, v = .str (bodyT "GPWPL," row) k) := by
  refine fillit _ ?_
  k_fill
  show Ct _ _ _ _ _ _
  intro mean mg mb dp un gd cn cs a ccd cl outer A₀ base h₀ L m news s Q E B F X N T hk hd hu hpre hret
  obtain ⟨⟨hx, hdx⟩, hl, hrow⟩ := hpre
  obtain ⟨ls, rfl, hls⟩ := dat_strs hrow
  unfold msgDict at hdx
  k_dflt ktr_enter
  repeat' ((fail_if_success (with_reducible show wpAny _ _ (PySem.call (Value.ref _) _) _ _ _)); first | walk1 | (k_unfold; (try dsimp only)))
  try dsimp only
  ktr_call (t_identW w x l dx k1 v1 k2 v2 k3) 1
  · exact ⟨by k_mem, by k_mem⟩
  intro h9 tk9 nw9 v9 F9 N9 _ ⟨e1, kk9, e2⟩
  subst e1 e2
  simp only [List.nil_append] at N9
  repeat' ((fail_if_success (with_reducible show wpAny _ _ (PySem.call (Value.builtin "str.join") _) _ _ _)); first | walk1 | (k_unfold; (try dsimp only)))
  try dsimp only
  refine SC.join (News.isList (by k_asm) (by k_mem)) hls hr.joinOk ?_
  intro jt jk
  have hjl := hr.join_len
  k_steps
  exact hret _ _ [] _ (by assumption) (news_drop (by assumption) (by intro p hp; exact List.mem_cons_of_mem _ hp)) (by intro p hp; cases hp) ⟨rfl, _, rfl⟩

theorem t_fullW (w : World) (x l dx : Addr) (k1 v1 k2 v2 k3 : Tok) (vs : List Value) (n : Nat) (row : List Str) (hr : OkRow row) : Ct w 145 6 (fun news => MsgIn w.params news x 253 "GP" "WPL" l dx k1 v1 k2 v2 k3 ∧ (l, listOf vs.toArray n) ∈ news ∧ DatAll news vs (row.map Dat.str)) [.ref x, .bool true, .bool true, .bool false] (fun new _ v => new = [] ∧ ∃ k, v = .str (lineT (bodyT "GPWPL," row)) k) := by
  refine fillit _ ?_
  k_fill
  show Ct _ _ _ _ _ _
  intro mean mg mb dp un gd cn cs a ccd cl outer A₀ base h₀ L m news s Q E B F X N T hk hd hu hpre hret
  obtain ⟨⟨hx, hdx⟩, hl, hrow⟩ := hpre
  obtain ⟨ls, rfl, hls⟩ := dat_strs hrow
  unfold msgDict at hdx
  have hpl := body_plain (head := "GPWPL,") hr (by decide +kernel)
  have hck := ck_is (x := bodyT "GPWPL," row) fun c hc => (hpl c hc).1
  have hbl := bodyT_len (head := "GPWPL,") hr (by decide +kernel)
  k_dflt ktr_enter
  repeat' ((fail_if_success (with_reducible show wpAny _ _ (PySem.call (Value.ref _) _) _ _ _)); first | walk1 | (k_unfold; (try dsimp only)))
  try dsimp only
  ktr_call (t_identW w x l dx k1 v1 k2 v2 k3) 1
  · exact ⟨by k_mem, by k_mem⟩
  intro h9 tk9 nw9 v9 F9 N9 _ ⟨e1, kk9, e2⟩
  subst e1 e2
  simp only [List.nil_append] at N9
  repeat' ((fail_if_success (with_reducible show wpAny _ _ (PySem.call (Value.builtin "str.join") _) _ _ _)); first | walk1 | (k_unfold; (try dsimp only)))
  try dsimp only
  refine SC.join (News.isList (by k_asm) (by k_mem)) hls hr.joinOk ?_
  intro jt jk
  have hjl := hr.join_len
  repeat' ((fail_if_success (with_reducible show wpAny _ _ (PySem.call (Value.ref _) _) _ _ _)); first | walk1 | (k_unfold; (try dsimp only)))
  try dsimp only
  ktr_call (t_ck w (bodyT "GPWPL," row) _ (all_of fun c hc => (hpl c hc).1)) 0
  · trivial
  intro h8 tk8 nw8 v8 F8 N8 _ ⟨e1, kk8, e2⟩
  subst e1 e2
  simp only [List.nil_append] at N8
  rw [hck.2]
  refine pct hck.1 ?_
  intro pt pk
  change (bodyT "GPWPL," row).length ≤ 89 at hbl
  have hsl : (starT (ck (bodyT "GPWPL," row))).length = 3 := rfl
  k_steps
  exact hret _ _ [] _ (by assumption) (news_drop (by assumption) (by intro p hp; exact List.mem_cons_of_mem _ hp)) (by intro p hp; cases hp) ⟨rfl, _, rfl⟩

theorem t_identD (w : World) (x l dx : Addr) (k1 v1 k2 v2 k3 : Tok) : Ct w 180 2 (fun news => MsgIn w.params news x 274 "II" "DTM" l dx k1 v1 k2 v2 k3) [.ref x] (fun new _ v => new = [] ∧ ∃ k, v = .str "IIDTM," k) := by
  refine fillit _ ?_
  k_fill
  show Ct _ _ _ _ _ _
  intro mean mg mb dp un gd cn cs a ccd cl outer A₀ base h₀ L m news s Q E B F X N T hk hd hu hpre hret
  obtain ⟨hx, hdx⟩ := hpre
  unfold msgDict at hdx
  k_dflt ktr_enter
  k_steps
  exact hret _ _ [] _ (by assumption) (by assumption) (by intro p hp; cases hp) ⟨rfl, _, by rw [show Str.empty ++ Str.ofString "II" ++ Str.ofString "DTM" ++ Str.ofString "," = Str.ofString "IIDTM," from by decide +kernel]⟩

theorem t_bareD (w : World) (x l dx : Addr) (k1 v1 k2 v2 k3 : Tok) (vs : List Value) (n : Nat) (row : List Str) (hr : OkRow row) : Ct w 145 6 (fun news => MsgIn w.params news x 274 "II" "DTM" l dx k1 v1 k2 v2 k3 ∧ (l, listOf vs.toArray n) ∈ news ∧ DatAll news vs (row.map Dat.str)) [.ref x, .bool false, .bool false, .bool false] (fun new _ v => new = [] ∧ ∃ k, v = .str (bodyT "IIDTM," row) k) := by
  refine fillit _ ?_
  k_fill
  show Ct _ _ _ _ _ _
  intro mean mg mb dp un gd cn cs a ccd cl outer A₀ base h₀ L m news s Q E B F X N T hk hd hu hpre hret
  obtain ⟨⟨hx, hdx⟩, hl, hrow⟩ := hpre
  obtain ⟨ls, rfl, hls⟩ := dat_strs hrow
  unfold msgDict at hdx
  k_dflt ktr_enter
  repeat' ((fail_if_success (with_reducible show wpAny _ _ (PySem.call (Value.ref _) _) _ _ _)); first | walk1 | (k_unfold; (try dsimp only)))
  try dsimp only
  ktr_call (t_identD w x l dx k1 v1 k2 v2 k3) 1
  · exact ⟨by k_mem, by k_mem⟩
  intro h9 tk9 nw9 v9 F9 N9 _ ⟨e1, kk9, e2⟩
  subst e1 e2
  simp only [List.nil_append] at N9
  repeat' ((fail_if_success (with_reducible show wpAny _ _ (PySem.call (Value.builtin "str.join") _) _ _ _)); first | walk1 | (k_unfold; (try dsimp only)))
  try dsimp only
  refine SC.join (News.isList (by k_asm) (by k_mem)) hls hr.joinOk ?_
  intro jt jk
  have hjl := hr.join_len
  k_steps
  exact hret _ _ [] _ (by assumption) (news_drop (by assumption) (by intro p hp; exact List.mem_cons_of_mem _ hp)) (by intro p hp; cases hp) ⟨rfl, _, rfl⟩

theorem t_fullD (w : World) (x l dx : Addr) (k1 v1 k2 v2 k3 : Tok) (vs : List Value) (n : Nat) (row : List Str) (hr : OkRow row) : Ct w 145 6 (fun news => MsgIn w.params news x 274 "II" "DTM" l dx k1 v1 k2 v2 k3 ∧ (l, listOf vs.toArray n) ∈ news ∧ DatAll news vs (row.map Dat.str)) [.ref x, .bool true, .bool true, .bool false] (fun new _ v => new = [] ∧ ∃ k, v = .str (lineT (bodyT "IIDTM," row)) k) := by
  refine fillit _ ?_
  k_fill
  show Ct _ _ _ _ _ _
  intro mean mg mb dp un gd cn cs a ccd cl outer A₀ base h₀ L m news s Q E B F X N T hk hd hu hpre hret
  obtain ⟨⟨hx, hdx⟩, hl, hrow⟩ := hpre
  obtain ⟨ls, rfl, hls⟩ := dat_strs hrow
  unfold msgDict at hdx
  have hpl := body_plain (head := "IIDTM,") hr (by decide +kernel)
  have hck := ck_is (x := bodyT "IIDTM," row) fun c hc => (hpl c hc).1
  have hbl := bodyT_len (head := "IIDTM,") hr (by decide +kernel)
  k_dflt ktr_enter
  repeat' ((fail_if_success (with_reducible show wpAny _ _ (PySem.call (Value.ref _) _) _ _ _)); first | walk1 | (k_unfold; (try dsimp only)))
  try dsimp only
  ktr_call (t_identD w x l dx k1 v1 k2 v2 k3) 1
  · exact ⟨by k_mem, by k_mem⟩
  intro h9 tk9 nw9 v9 F9 N9 _ ⟨e1, kk9, e2⟩
  subst e1 e2
  simp only [List.nil_append] at N9
  repeat' ((fail_if_success (with_reducible show wpAny _ _ (PySem.call (Value.builtin "str.join") _) _ _ _)); first | walk1 | (k_unfold; (try dsimp only)))
  try dsimp only
  refine SC.join (News.isList (by k_asm) (by k_mem)) hls hr.joinOk ?_
  intro jt jk
  have hjl := hr.join_len
  repeat' ((fail_if_success (with_reducible show wpAny _ _ (PySem.call (Value.ref _) _) _ _ _)); first | walk1 | (k_unfold; (try dsimp only)))
  try dsimp only
  ktr_call (t_ck w (bodyT "IIDTM," row) _ (all_of fun c hc => (hpl c hc).1)) 0
  · trivial
  intro h8 tk8 nw8 v8 F8 N8 _ ⟨e1, kk8, e2⟩
  subst e1 e2
  simp only [List.nil_append] at N8
  rw [hck.2]
  refine pct hck.1 ?_
  intro pt pk
  change (bodyT "IIDTM," row).length ≤ 89 at hbl
  have hsl : (starT (ck (bodyT "IIDTM," row))).length = 3 := rfl
  k_steps
  exact hret _ _ [] _ (by assumption) (news_drop (by assumption) (by intro p hp; exact List.mem_cons_of_mem _ hp)) (by intro p hp; cases hp) ⟨rfl, _, rfl⟩

end Mine
end
section
open PySem PySem.W PyProof.Rows PySem.Calls Builtin Builtin.ObjectAttr
namespace Mine
set_option maxRecDepth 100000
set_option maxHeartbeats 8000000
local macro_rules | `(tactic| walk_at "getAttr ref") => `(tactic| (k_here; k_dflt (refine' hk_bound ?k1 ?k2 ?k3 ?k4 ?k5 ?kh ?k6 ?k7 ?k8 ?k9 ?k10 ?k11 ?k12 ?_; (case k4 => k_inst); (case k1 => k_asm); (case k2 => k_asm); (case k3 => k_asm); (case k5 => k_is); (case kh => k_is); (case k6 => k_is); (case k7 => k_is); (case k8 => k_is); (case k9 => k_is); (case k10 => k_is); (case k11 => decide +kernel); (case k12 => k_get); k_whole); intro q' h' F' N' l1; (try k_lt l1); (try k_sweep)))
local macro_rules | `(tactic| walk_at "getAttr ref") => `(tactic| (k_here; k_dflt (refine' hk_own ?k1 ?k2 ?k3 ?k4 ?k5 ?k6 ?k7 ?k8 ?k9 ?_; (case k1 => k_asm); (case k2 => k_asm); (case k3 => k_inst); (case k4 => k_is); (case k5 => k_is); (case k6 => k_is); (case k7 => k_is); (case k8 => k_get); (case k9 => k_handed); k_whole)))
local macro_rules | `(tactic| walk_at "getMethod ref") => `(tactic| (k_here; k_dflt (refine' hk_method ?k1 ?k2 ?k3 ?k4 ?k5 ?_; (case k1 => k_asm); (case k2 => k_asm); (case k3 => k_inst); (case k4 => k_is); (case k5 => k_is); k_whole)))
local macro_rules | `(tactic| ktr_enter) => `(tactic| (refine' code_def ?k1 ?k2 ?k3 ?k4 ?k5 ?kA ?kF ?kK ?k6 ?k7 ?k8 ?k9 ?kB ?_ ?c2 ?c3 ?c4 ?c5; (case kA => exact rfl); (case kF => exact rfl); (case kK => first | assumption | exact rfl); (case k1 => k_asm); (case k2 => k_asm); (case k3 => k_asm); (case k4 => k_asm); (case k5 => k_asm); (case k6 => k_is); (case k7 => k_is); (case k8 => ktr_room); (case k9 => first | exact BindsTo.of_eq rfl | exact binds_K (by k_in) rfl (by k_is) rfl rfl rfl); (case c5 => decide); (case kB => exact locs rfl); (case c2 => exact rfl); (case c3 => exact rfl); (case c4 => exact rfl); k_whole; intro g' L' h' FG' F' N' B' X' T'; (try dsimp only); (try k_lift B'); (try k_fold)))
local macro_rules | `(tactic| ktr_call $c:term 0) => `(tactic| (refine wpAny_call ?_; k_dflt (refine' ct_use $c ?k1 ?k2 ?k3 ?k4 ?k5 ?kK ?kd ?ku ?kp ?_; (case k1 => k_asm); (case k2 => k_asm); (case k3 => k_asm); (case k4 => k_asm); (case k5 => k_asm); (case kK => first | assumption | exact rfl); (case kd => ktr_room); (case ku => ktr_units))))
local macro_rules | `(tactic| ktr_call $c:term 1) => `(tactic| (refine' call_meth ?N ?q ?_; (case N => k_asm); (case q => k_mem); k_dflt (refine' ct_use $c ?k1 ?k2 ?k3 ?k4 ?k5 ?kK ?kd ?ku ?kp ?_; (case k1 => k_asm); (case k2 => k_asm); (case k3 => k_asm); (case k4 => k_asm); (case k5 => k_asm); (case kK => first | assumption | exact rfl); (case kd => ktr_room); (case ku => ktr_units))))
local macro_rules | `(tactic| k_mem) => `(tactic| first | assumption | exact List.mem_cons_self .. | (refine' List.mem_cons_of_mem _ ?_; k_mem))
local macro_rules | `(tactic| kst_same) => `(tactic| (intro z h1 h2 h3; (simp only [List.forall_mem_cons, List.not_mem_nil, false_implies, implies_true, and_true, ne_eq] at h2); (simp only [List.contains_cons, List.contains_nil, Bool.or_false, Bool.or_eq_false_iff, beq_eq_false_iff_ne, ne_eq] at h3); (simp [kstB, h1, h2, h3]; done)))
local macro_rules | `(tactic| kby_size) => `(tactic| (rw [PySem.sizeLine_eq]; omega))
local macro_rules | `(tactic| walk_at "call builtin:str.lstrip") => `(tactic| (k_here; (refine KXw.lstrip (by assumption) (by kby_size) ?_); intro _ _))
local macro_rules | `(tactic| walk_at "call builtin:str.strip") => `(tactic| (k_here; (refine KXw.strip (by assumption) (by kby_size) ?_); intro _ _))
local macro_rules | `(tactic| walk_at "call builtin:str.strip") => `(tactic| (k_here; (refine KXw.stripChars (by assumption) (by kby_size) ?_); intro _ _))
local macro_rules | `(tactic| walk_at "call builtin:str.upper") => `(tactic| (k_here; (refine KXw.upper (by assumption) (by decide +kernel) ?_); intro _ _))
local macro_rules | `(tactic| walk_at "call builtin:str.partition") => `(tactic| (k_here; (refine KXpa.partition (by k_asm) (by k_asm) (by decide) (by assumption) (by assumption) (by assumption) (by kby_size) ?_); intro D' _ _ _ _ _ F' N' l1; (try k_lt l1)))
local macro_rules | `(tactic| walk_at "call builtin:str.split") => `(tactic| (k_here; (refine KSpl.split1 (by k_asm) (by k_asm) (by decide) ?_ (by kby_size)); intro D' _ _ _ _ _ F' N' l1; (try k_lt l1)))
/-- a message, its class, its row of parts -/
def HasMsg (P : Params) (news : Led) (x C : Addr) (tk ty : Str) (row : List Str) : Prop :=
  ∃ l dx k1 v1 k2 v2 k3 ls n, (x, instObj C dx) ∈ news ∧ (dx, msgDict P k1 v1 k2 v2 k3 tk ty l) ∈ news ∧ (l, listOf (strValues ls).toArray n) ∈ news ∧ ls.map (·.1) = row
theorem HasMsg.mono {P : Params} {news news' : Led} {x C : Addr} {tk ty : Str} {row : List Str} (h : HasMsg P news x C tk ty row) (hs : ∀ p ∈ news, p ∈ news') : HasMsg P news' x C tk ty row := by
  obtain ⟨l, dx, k1, v1, k2, v2, k3, ls, n, h1, h2, h3, h4⟩ := h
  exact ⟨l, dx, k1, v1, k2, v2, k3, ls, n, hs _ h1, hs _ h2, hs _ h3, h4⟩
theorem idx_names {names : List Str} {name : Str} (h : name ∈ names) : names[names.idxOf name]? = some name := by
  have := List.idxOf_lt_length_iff.mpr h
  rw [List.getElem?_eq_getElem this, List.getElem_idxOf]

end Mine
end
section
open PySem PySem.W PyProof.Rows PySem.Calls Builtin Builtin.ObjectAttr
namespace Mine
set_option maxRecDepth 100000
set_option maxHeartbeats 8000000
local macro_rules | `(tactic| walk_at "getAttr ref") => `(tactic| (k_here; k_dflt (refine' hk_bound ?k1 ?k2 ?k3 ?k4 ?k5 ?kh ?k6 ?k7 ?k8 ?k9 ?k10 ?k11 ?k12 ?_; (case k4 => k_inst); (case k1 => k_asm); (case k2 => k_asm); (case k3 => k_asm); (case k5 => k_is); (case kh => k_is); (case k6 => k_is); (case k7 => k_is); (case k8 => k_is); (case k9 => k_is); (case k10 => k_is); (case k11 => decide +kernel); (case k12 => k_get); k_whole); intro q' h' F' N' l1; (try k_lt l1); (try k_sweep)))
local macro_rules | `(tactic| walk_at "getAttr ref") => `(tactic| (k_here; k_dflt (refine' hk_own ?k1 ?k2 ?k3 ?k4 ?k5 ?k6 ?k7 ?k8 ?k9 ?_; (case k1 => k_asm); (case k2 => k_asm); (case k3 => k_inst); (case k4 => k_is); (case k5 => k_is); (case k6 => k_is); (case k7 => k_is); (case k8 => k_get); (case k9 => k_handed); k_whole)))
local macro_rules | `(tactic| walk_at "getMethod ref") => `(tactic| (k_here; k_dflt (refine' hk_method ?k1 ?k2 ?k3 ?k4 ?k5 ?_; (case k1 => k_asm); (case k2 => k_asm); (case k3 => k_inst); (case k4 => k_is); (case k5 => k_is); k_whole)))
local macro_rules | `(tactic| ktr_enter) => `(tactic| (refine' code_def ?k1 ?k2 ?k3 ?k4 ?k5 ?kA ?kF ?kK ?k6 ?k7 ?k8 ?k9 ?kB ?_ ?c2 ?c3 ?c4 ?c5; (case kA => exact rfl); (case kF => exact rfl); (case kK => first | assumption | exact rfl); (case k1 => k_asm); (case k2 => k_asm); (case k3 => k_asm); (case k4 => k_asm); (case k5 => k_asm); (case k6 => k_is); (case k7 => k_is); (case k8 => ktr_room); (case k9 => first | exact BindsTo.of_eq rfl | exact binds_K (by k_in) rfl (by k_is) rfl rfl rfl); (case c5 => decide); (case kB => exact locs rfl); (case c2 => exact rfl); (case c3 => exact rfl); (case c4 => exact rfl); k_whole; intro g' L' h' FG' F' N' B' X' T'; (try dsimp only); (try k_lift B'); (try k_fold)))
local macro_rules | `(tactic| ktr_call $c:term 0) => `(tactic| (refine wpAny_call ?_; k_dflt (refine' ct_use $c ?k1 ?k2 ?k3 ?k4 ?k5 ?kK ?kd ?ku ?kp ?_; (case k1 => k_asm); (case k2 => k_asm); (case k3 => k_asm); (case k4 => k_asm); (case k5 => k_asm); (case kK => first | assumption | exact rfl); (case kd => ktr_room); (case ku => ktr_units))))
local macro_rules | `(tactic| ktr_call $c:term 1) => `(tactic| (refine' call_meth ?N ?q ?_; (case N => k_asm); (case q => k_mem); k_dflt (refine' ct_use $c ?k1 ?k2 ?k3 ?k4 ?k5 ?kK ?kd ?ku ?kp ?_; (case k1 => k_asm); (case k2 => k_asm); (case k3 => k_asm); (case k4 => k_asm); (case k5 => k_asm); (case kK => first | assumption | exact rfl); (case kd => ktr_room); (case ku => ktr_units))))
local macro_rules | `(tactic| k_mem) => `(tactic| first | assumption | exact List.mem_cons_self .. | (refine' List.mem_cons_of_mem _ ?_; k_mem))
local macro_rules | `(tactic| kst_same) => `(tactic| (intro z h1 h2 h3; (simp only [List.forall_mem_cons, List.not_mem_nil, false_implies, implies_true, and_true, ne_eq] at h2); (simp only [List.contains_cons, List.contains_nil, Bool.or_false, Bool.or_eq_false_iff, beq_eq_false_iff_ne, ne_eq] at h3); (simp [kstB, h1, h2, h3]; done)))
local macro_rules | `(tactic| kby_size) => `(tactic| (rw [PySem.sizeLine_eq]; omega))
local macro_rules | `(tactic| walk_at "call builtin:str.lstrip") => `(tactic| (k_here; (refine KXw.lstrip (by assumption) (by kby_size) ?_); intro _ _))
local macro_rules | `(tactic| walk_at "call builtin:str.strip") => `(tactic| (k_here; (refine KXw.strip (by assumption) (by kby_size) ?_); intro _ _))
local macro_rules | `(tactic| walk_at "call builtin:str.strip") => `(tactic| (k_here; (refine KXw.stripChars (by assumption) (by kby_size) ?_); intro _ _))
local macro_rules | `(tactic| walk_at "call builtin:str.upper") => `(tactic| (k_here; (refine KXw.upper (by assumption) (by decide +kernel) ?_); intro _ _))
local macro_rules | `(tactic| walk_at "call builtin:str.partition") => `(tactic| (k_here; (refine KXpa.partition (by k_asm) (by k_asm) (by decide) (by assumption) (by assumption) (by assumption) (by kby_size) ?_); intro D' _ _ _ _ _ F' N' l1; (try k_lt l1)))
local macro_rules | `(tactic| walk_at "call builtin:str.split") => `(tactic| (k_here; (refine KSpl.split1 (by k_asm) (by k_asm) (by decide) ?_ (by kby_size)); intro D' _ _ _ _ _ F' N' l1; (try k_lt l1)))
theorem h_gaW (w : World) (x : Addr) (row : List Str) (hr : OkRow row) (name : Str) (t : Tok) (hm : name ∈ namesW) : Ct w 125 6 (fun news => HasMsg w.params news x 253 "GP" "WPL" row) [.ref x, .str name t] (fun new _ v => new = [] ∧ ∃ k, v = .str (row.getD (namesW.idxOf name) (Str.ofString "")) k) := by
  intro mean mg mb dp un gd cn cs a ccd cl outer A₀ base h₀ L m news s Q E B F X N T hk hd hu hpre hret
  obtain ⟨l, dx, k1, v1, k2, v2, k3, ls, n, h1, h2, h3, h4⟩ := hpre
  exact t_gaW w x l dx k1 v1 k2 v2 k3 t (strValues ls) n row hr name _ (idx_names hm) _ _ _ _ _ _ _ _ _ _ _ _ _ _ _ _ _ _ _ _ _ B F X N T hk hd hu ⟨⟨h1, h2⟩, h3, h4 ▸ strs_dat ls⟩ hret
theorem h_bareW (w : World) (x : Addr) (row : List Str) (hr : OkRow row) : Ct w 145 6 (fun news => HasMsg w.params news x 253 "GP" "WPL" row) [.ref x, .bool false, .bool false, .bool false] (fun new _ v => new = [] ∧ ∃ k, v = .str (bodyT "GPWPL," row) k) := by
  intro mean mg mb dp un gd cn cs a ccd cl outer A₀ base h₀ L m news s Q E B F X N T hk hd hu hpre hret
  obtain ⟨l, dx, k1, v1, k2, v2, k3, ls, n, h1, h2, h3, h4⟩ := hpre
  exact t_bareW w x l dx k1 v1 k2 v2 k3 (strValues ls) n row hr _ _ _ _ _ _ _ _ _ _ _ _ _ _ _ _ _ _ _ _ _ B F X N T hk hd hu ⟨⟨h1, h2⟩, h3, h4 ▸ strs_dat ls⟩ hret
theorem h_fullW (w : World) (x : Addr) (row : List Str) (hr : OkRow row) : Ct w 145 6 (fun news => HasMsg w.params news x 253 "GP" "WPL" row) [.ref x, .bool true, .bool true, .bool false] (fun new _ v => new = [] ∧ ∃ k, v = .str (lineT (bodyT "GPWPL," row)) k) := by
  intro mean mg mb dp un gd cn cs a ccd cl outer A₀ base h₀ L m news s Q E B F X N T hk hd hu hpre hret
  obtain ⟨l, dx, k1, v1, k2, v2, k3, ls, n, h1, h2, h3, h4⟩ := hpre
  exact t_fullW w x l dx k1 v1 k2 v2 k3 (strValues ls) n row hr _ _ _ _ _ _ _ _ _ _ _ _ _ _ _ _ _ _ _ _ _ B F X N T hk hd hu ⟨⟨h1, h2⟩, h3, h4 ▸ strs_dat ls⟩ hret

theorem h_gaD (w : World) (x : Addr) (row : List Str) (hr : OkRow row) (name : Str) (t : Tok) (hm : name ∈ namesD) : Ct w 125 6 (fun news => HasMsg w.params news x 274 "II" "DTM" row) [.ref x, .str name t] (fun new _ v => new = [] ∧ ∃ k, v = .str (row.getD (namesD.idxOf name) (Str.ofString "")) k) := by
  intro mean mg mb dp un gd cn cs a ccd cl outer A₀ base h₀ L m news s Q E B F X N T hk hd hu hpre hret
  obtain ⟨l, dx, k1, v1, k2, v2, k3, ls, n, h1, h2, h3, h4⟩ := hpre
  exact t_gaD w x l dx k1 v1 k2 v2 k3 t (strValues ls) n row hr name _ (idx_names hm) _ _ _ _ _ _ _ _ _ _ _ _ _ _ _ _ _ _ _ _ _ B F X N T hk hd hu ⟨⟨h1, h2⟩, h3, h4 ▸ strs_dat ls⟩ hret
theorem h_bareD (w : World) (x : Addr) (row : List Str) (hr : OkRow row) : Ct w 145 6 (fun news => HasMsg w.params news x 274 "II" "DTM" row) [.ref x, .bool false, .bool false, .bool false] (fun new _ v => new = [] ∧ ∃ k, v = .str (bodyT "IIDTM," row) k) := by
  intro mean mg mb dp un gd cn cs a ccd cl outer A₀ base h₀ L m news s Q E B F X N T hk hd hu hpre hret
  obtain ⟨l, dx, k1, v1, k2, v2, k3, ls, n, h1, h2, h3, h4⟩ := hpre
  exact t_bareD w x l dx k1 v1 k2 v2 k3 (strValues ls) n row hr _ _ _ _ _ _ _ _ _ _ _ _ _ _ _ _ _ _ _ _ _ B F X N T hk hd hu ⟨⟨h1, h2⟩, h3, h4 ▸ strs_dat ls⟩ hret
theorem h_fullD (w : World) (x : Addr) (row : List Str) (hr : OkRow row) : Ct w 145 6 (fun news => HasMsg w.params news x 274 "II" "DTM" row) [.ref x, .bool true, .bool true, .bool false] (fun new _ v => new = [] ∧ ∃ k, v = .str (lineT (bodyT "IIDTM," row)) k) := by
  intro mean mg mb dp un gd cn cs a ccd cl outer A₀ base h₀ L m news s Q E B F X N T hk hd hu hpre hret
  obtain ⟨l, dx, k1, v1, k2, v2, k3, ls, n, h1, h2, h3, h4⟩ := hpre
  exact t_fullD w x l dx k1 v1 k2 v2 k3 (strValues ls) n row hr _ _ _ _ _ _ _ _ _ _ _ _ _ _ _ _ _ _ _ _ _ B F X N T hk hd hu ⟨⟨h1, h2⟩, h3, h4 ▸ strs_dat ls⟩ hret

end Mine
end
section
open PySem PySem.W PyProof.Rows PySem.Calls Builtin Builtin.ObjectAttr
namespace Mine
set_option maxRecDepth 100000
set_option maxHeartbeats 8000000
local macro_rules | `(tactic| walk_at "getAttr ref") => `(tactic| (k_here; k_dflt (refine' hk_bound ?k1 ?k2 ?k3 ?k4 ?k5 ?kh ?k6 ?k7 ?k8 ?k9 ?k10 ?k11 ?k12 ?_; (case k4 => k_inst); (case k1 => k_asm); (case k2 => k_asm); (case k3 => k_asm); (case k5 => k_is); (case kh => k_is); (case k6 => k_is); (case k7 => k_is); (case k8 => k_is); (case k9 => k_is); (case k10 => k_is); (case k11 => decide +kernel); (case k12 => k_get); k_whole); intro q' h' F' N' l1; (try k_lt l1); (try k_sweep)))
local macro_rules | `(tactic| walk_at "getAttr ref") => `(tactic| (k_here; k_dflt (refine' hk_own ?k1 ?k2 ?k3 ?k4 ?k5 ?k6 ?k7 ?k8 ?k9 ?_; (case k1 => k_asm); (case k2 => k_asm); (case k3 => k_inst); (case k4 => k_is); (case k5 => k_is); (case k6 => k_is); (case k7 => k_is); (case k8 => k_get); (case k9 => k_handed); k_whole)))
local macro_rules | `(tactic| walk_at "getMethod ref") => `(tactic| (k_here; k_dflt (refine' hk_method ?k1 ?k2 ?k3 ?k4 ?k5 ?_; (case k1 => k_asm); (case k2 => k_asm); (case k3 => k_inst); (case k4 => k_is); (case k5 => k_is); k_whole)))
local macro_rules | `(tactic| ktr_enter) => `(tactic| (refine' code_def ?k1 ?k2 ?k3 ?k4 ?k5 ?kA ?kF ?kK ?k6 ?k7 ?k8 ?k9 ?kB ?_ ?c2 ?c3 ?c4 ?c5; (case kA => exact rfl); (case kF => exact rfl); (case kK => first | assumption | exact rfl); (case k1 => k_asm); (case k2 => k_asm); (case k3 => k_asm); (case k4 => k_asm); (case k5 => k_asm); (case k6 => k_is); (case k7 => k_is); (case k8 => ktr_room); (case k9 => first | exact BindsTo.of_eq rfl | exact binds_K (by k_in) rfl (by k_is) rfl rfl rfl); (case c5 => decide); (case kB => exact locs rfl); (case c2 => exact rfl); (case c3 => exact rfl); (case c4 => exact rfl); k_whole; intro g' L' h' FG' F' N' B' X' T'; (try dsimp only); (try k_lift B'); (try k_fold)))
local macro_rules | `(tactic| ktr_call $c:term 0) => `(tactic| (refine wpAny_call ?_; k_dflt (refine' ct_use $c ?k1 ?k2 ?k3 ?k4 ?k5 ?kK ?kd ?ku ?kp ?_; (case k1 => k_asm); (case k2 => k_asm); (case k3 => k_asm); (case k4 => k_asm); (case k5 => k_asm); (case kK => first | assumption | exact rfl); (case kd => ktr_room); (case ku => ktr_units))))
local macro_rules | `(tactic| ktr_call $c:term 1) => `(tactic| (refine' call_meth ?N ?q ?_; (case N => k_asm); (case q => k_mem); k_dflt (refine' ct_use $c ?k1 ?k2 ?k3 ?k4 ?k5 ?kK ?kd ?ku ?kp ?_; (case k1 => k_asm); (case k2 => k_asm); (case k3 => k_asm); (case k4 => k_asm); (case k5 => k_asm); (case kK => first | assumption | exact rfl); (case kd => ktr_room); (case ku => ktr_units))))
local macro_rules | `(tactic| k_mem) => `(tactic| first | assumption | exact List.mem_cons_self .. | (refine' List.mem_cons_of_mem _ ?_; k_mem))
local macro_rules | `(tactic| kst_same) => `(tactic| (intro z h1 h2 h3; (simp only [List.forall_mem_cons, List.not_mem_nil, false_implies, implies_true, and_true, ne_eq] at h2); (simp only [List.contains_cons, List.contains_nil, Bool.or_false, Bool.or_eq_false_iff, beq_eq_false_iff_ne, ne_eq] at h3); (simp [kstB, h1, h2, h3]; done)))
local macro_rules | `(tactic| kby_size) => `(tactic| (rw [PySem.sizeLine_eq]; omega))
local macro_rules | `(tactic| walk_at "call builtin:str.lstrip") => `(tactic| (k_here; (refine KXw.lstrip (by assumption) (by kby_size) ?_); intro _ _))
local macro_rules | `(tactic| walk_at "call builtin:str.strip") => `(tactic| (k_here; (refine KXw.strip (by assumption) (by kby_size) ?_); intro _ _))
local macro_rules | `(tactic| walk_at "call builtin:str.strip") => `(tactic| (k_here; (refine KXw.stripChars (by assumption) (by kby_size) ?_); intro _ _))
local macro_rules | `(tactic| walk_at "call builtin:str.upper") => `(tactic| (k_here; (refine KXw.upper (by assumption) (by decide +kernel) ?_); intro _ _))
local macro_rules | `(tactic| walk_at "call builtin:str.partition") => `(tactic| (k_here; (refine KXpa.partition (by k_asm) (by k_asm) (by decide) (by assumption) (by assumption) (by assumption) (by kby_size) ?_); intro D' _ _ _ _ _ F' N' l1; (try k_lt l1)))
local macro_rules | `(tactic| walk_at "call builtin:str.split") => `(tactic| (k_here; (refine KSpl.split1 (by k_asm) (by k_asm) (by decide) ?_ (by kby_size)); intro D' _ _ _ _ _ F' N' l1; (try k_lt l1)))
local macro_rules | `(tactic| walk_at "getAttr ref") => `(tactic| (k_here; k_dflt (refine' hk_miss (hk := 125) ?k1 ?k2 ?k3 ?k4 ?k5 ?k6 ?k7 ?k8 ?k9 ?k10 ?_; (case k1 => k_asm); (case k2 => k_asm); (case k3 => k_inst); (case k4 => k_is); (case k5 => k_is); (case k6 => k_is); (case k7 => k_is); (case k8 => k_is); (case k9 => decide); (case k10 => k_get))))
theorem t_names (w : World) (x1 x2 x3 : Addr) (r1 r2 r3 : List Str) (hr1 : OkRow r1) (hr2 : OkRow r2) (hr3 : OkRow r3) : Ct w 336 8 (fun news => HasMsg w.params news x1 253 "GP" "WPL" r1 ∧ HasMsg w.params news x2 274 "II" "DTM" r2 ∧ HasMsg w.params news x3 253 "GP" "WPL" r3) [.ref x1, .ref x2, .ref x3]
    (fun new _ v => DatIn new v (.list [.list ((List.range 5).map fun i => .str (r1.getD i "")), .list ((List.range 8).map fun i => .str (r2.getD i "")), .list ((List.range 5).map fun i => .str (r3.getD i ""))])) := by
  refine fillit _ ?_
  k_fill
  show Ct _ _ _ _ _ _
  intro mean mg mb dp un gd cn cs a ccd cl outer A₀ base h₀ L m news s Q E B F X N T hk hd hu hpre hret
  obtain ⟨m1, m2, m3⟩ := hpre
  have m1' := m1
  have m2' := m2
  have m3' := m3
  obtain ⟨l1, dx1, a1, b1, c1, d1, e1, ls1, n1, hx1, hdx1, hl1, hls1⟩ := m1'
  obtain ⟨l2, dx2, a2, b2, c2, d2, e2, ls2, n2, hx2, hdx2, hl2, hls2⟩ := m2'
  obtain ⟨l3, dx3, a3, b3, c3, d3, e3, ls3, n3, hx3, hdx3, hl3, hls3⟩ := m3'
  unfold msgDict at hdx1 hdx2 hdx3
  k_dflt ktr_enter
  repeat' ((fail_if_success (with_reducible show wpAny _ _ (PySem.call (Value.ref _) _) _ _ _)); first | walk1 | (k_unfold; (try dsimp only)))
  try dsimp only
  ktr_call (h_gaW w x1 r1 hr1 _ _ (by decide +kernel)) 0
  · exact HasMsg.mono m1 (by intro p hp; repeat (first | exact hp | refine List.mem_cons_of_mem _ ?_))
  intro h9 tk9 nw9 v9 F9 N9 _ ⟨e1, kk9, e2⟩
  subst e1 e2
  simp only [List.nil_append] at N9
  rw [show namesW.idxOf (Str.ofString "lat") = 0 from by decide +kernel]
  refine handed_on rfl ?_
  try dsimp only
  repeat' ((fail_if_success (with_reducible show wpAny _ _ (PySem.call (Value.ref _) _) _ _ _)); first | walk1 | (k_unfold; (try dsimp only)))
  try dsimp only
  ktr_call (h_gaW w x1 r1 hr1 _ _ (by decide +kernel)) 0
  · exact HasMsg.mono m1 (by intro p hp; repeat (first | exact hp | refine List.mem_cons_of_mem _ ?_))
  intro h9 tk9 nw9 v9 F9 N9 _ ⟨e1, kk9, e2⟩
  subst e1 e2
  simp only [List.nil_append] at N9
  rw [show namesW.idxOf (Str.ofString "lat_dir") = 1 from by decide +kernel]
  refine handed_on rfl ?_
  try dsimp only
  repeat' ((fail_if_success (with_reducible show wpAny _ _ (PySem.call (Value.ref _) _) _ _ _)); first | walk1 | (k_unfold; (try dsimp only)))
  try dsimp only
  ktr_call (h_gaW w x1 r1 hr1 _ _ (by decide +kernel)) 0
  · exact HasMsg.mono m1 (by intro p hp; repeat (first | exact hp | refine List.mem_cons_of_mem _ ?_))
  intro h9 tk9 nw9 v9 F9 N9 _ ⟨e1, kk9, e2⟩
  subst e1 e2
  simp only [List.nil_append] at N9
  rw [show namesW.idxOf (Str.ofString "lon") = 2 from by decide +kernel]
  refine handed_on rfl ?_
  try dsimp only
  repeat' ((fail_if_success (with_reducible show wpAny _ _ (PySem.call (Value.ref _) _) _ _ _)); first | walk1 | (k_unfold; (try dsimp only)))
  try dsimp only
  ktr_call (h_gaW w x1 r1 hr1 _ _ (by decide +kernel)) 0
  · exact HasMsg.mono m1 (by intro p hp; repeat (first | exact hp | refine List.mem_cons_of_mem _ ?_))
  intro h9 tk9 nw9 v9 F9 N9 _ ⟨e1, kk9, e2⟩
  subst e1 e2
  simp only [List.nil_append] at N9
  rw [show namesW.idxOf (Str.ofString "lon_dir") = 3 from by decide +kernel]
  refine handed_on rfl ?_
  try dsimp only
  repeat' ((fail_if_success (with_reducible show wpAny _ _ (PySem.call (Value.ref _) _) _ _ _)); first | walk1 | (k_unfold; (try dsimp only)))
  try dsimp only
  ktr_call (h_gaW w x1 r1 hr1 _ _ (by decide +kernel)) 0
  · exact HasMsg.mono m1 (by intro p hp; repeat (first | exact hp | refine List.mem_cons_of_mem _ ?_))
  intro h9 tk9 nw9 v9 F9 N9 _ ⟨e1, kk9, e2⟩
  subst e1 e2
  simp only [List.nil_append] at N9
  rw [show namesW.idxOf (Str.ofString "waypoint_id") = 4 from by decide +kernel]
  refine handed_on rfl ?_
  try dsimp only
  repeat' ((fail_if_success (with_reducible show wpAny _ _ (PySem.call (Value.ref _) _) _ _ _)); first | walk1 | (k_unfold; (try dsimp only)))
  try dsimp only
  ktr_call (h_gaD w x2 r2 hr2 _ _ (by decide +kernel)) 0
  · exact HasMsg.mono m2 (by intro p hp; repeat (first | exact hp | refine List.mem_cons_of_mem _ ?_))
  intro h9 tk9 nw9 v9 F9 N9 _ ⟨e1, kk9, e2⟩
  subst e1 e2
  simp only [List.nil_append] at N9
  rw [show namesD.idxOf (Str.ofString "datum") = 0 from by decide +kernel]
  refine handed_on rfl ?_
  try dsimp only
  repeat' ((fail_if_success (with_reducible show wpAny _ _ (PySem.call (Value.ref _) _) _ _ _)); first | walk1 | (k_unfold; (try dsimp only)))
  try dsimp only
  ktr_call (h_gaD w x2 r2 hr2 _ _ (by decide +kernel)) 0
  · exact HasMsg.mono m2 (by intro p hp; repeat (first | exact hp | refine List.mem_cons_of_mem _ ?_))
  intro h9 tk9 nw9 v9 F9 N9 _ ⟨e1, kk9, e2⟩
  subst e1 e2
  simp only [List.nil_append] at N9
  rw [show namesD.idxOf (Str.ofString "subd_datum") = 1 from by decide +kernel]
  refine handed_on rfl ?_
  try dsimp only
  repeat' ((fail_if_success (with_reducible show wpAny _ _ (PySem.call (Value.ref _) _) _ _ _)); first | walk1 | (k_unfold; (try dsimp only)))
  try dsimp only
  ktr_call (h_gaD w x2 r2 hr2 _ _ (by decide +kernel)) 0
  · exact HasMsg.mono m2 (by intro p hp; repeat (first | exact hp | refine List.mem_cons_of_mem _ ?_))
  intro h9 tk9 nw9 v9 F9 N9 _ ⟨e1, kk9, e2⟩
  subst e1 e2
  simp only [List.nil_append] at N9
  rw [show namesD.idxOf (Str.ofString "lat") = 2 from by decide +kernel]
  refine handed_on rfl ?_
  try dsimp only
  repeat' ((fail_if_success (with_reducible show wpAny _ _ (PySem.call (Value.ref _) _) _ _ _)); first | walk1 | (k_unfold; (try dsimp only)))
  try dsimp only
  ktr_call (h_gaD w x2 r2 hr2 _ _ (by decide +kernel)) 0
  · exact HasMsg.mono m2 (by intro p hp; repeat (first | exact hp | refine List.mem_cons_of_mem _ ?_))
  intro h9 tk9 nw9 v9 F9 N9 _ ⟨e1, kk9, e2⟩
  subst e1 e2
  simp only [List.nil_append] at N9
  rw [show namesD.idxOf (Str.ofString "lat_dir") = 3 from by decide +kernel]
  refine handed_on rfl ?_
  try dsimp only
  repeat' ((fail_if_success (with_reducible show wpAny _ _ (PySem.call (Value.ref _) _) _ _ _)); first | walk1 | (k_unfold; (try dsimp only)))
  try dsimp only
  ktr_call (h_gaD w x2 r2 hr2 _ _ (by decide +kernel)) 0
  · exact HasMsg.mono m2 (by intro p hp; repeat (first | exact hp | refine List.mem_cons_of_mem _ ?_))
  intro h9 tk9 nw9 v9 F9 N9 _ ⟨e1, kk9, e2⟩
  subst e1 e2
  simp only [List.nil_append] at N9
  rw [show namesD.idxOf (Str.ofString "lon") = 4 from by decide +kernel]
  refine handed_on rfl ?_
  try dsimp only
  repeat' ((fail_if_success (with_reducible show wpAny _ _ (PySem.call (Value.ref _) _) _ _ _)); first | walk1 | (k_unfold; (try dsimp only)))
  try dsimp only
  ktr_call (h_gaD w x2 r2 hr2 _ _ (by decide +kernel)) 0
  · exact HasMsg.mono m2 (by intro p hp; repeat (first | exact hp | refine List.mem_cons_of_mem _ ?_))
  intro h9 tk9 nw9 v9 F9 N9 _ ⟨e1, kk9, e2⟩
  subst e1 e2
  simp only [List.nil_append] at N9
  rw [show namesD.idxOf (Str.ofString "lon_dir") = 5 from by decide +kernel]
  refine handed_on rfl ?_
  try dsimp only
  repeat' ((fail_if_success (with_reducible show wpAny _ _ (PySem.call (Value.ref _) _) _ _ _)); first | walk1 | (k_unfold; (try dsimp only)))
  try dsimp only
  ktr_call (h_gaD w x2 r2 hr2 _ _ (by decide +kernel)) 0
  · exact HasMsg.mono m2 (by intro p hp; repeat (first | exact hp | refine List.mem_cons_of_mem _ ?_))
  intro h9 tk9 nw9 v9 F9 N9 _ ⟨e1, kk9, e2⟩
  subst e1 e2
  simp only [List.nil_append] at N9
  rw [show namesD.idxOf (Str.ofString "altitude") = 6 from by decide +kernel]
  refine handed_on rfl ?_
  try dsimp only
  repeat' ((fail_if_success (with_reducible show wpAny _ _ (PySem.call (Value.ref _) _) _ _ _)); first | walk1 | (k_unfold; (try dsimp only)))
  try dsimp only
  ktr_call (h_gaD w x2 r2 hr2 _ _ (by decide +kernel)) 0
  · exact HasMsg.mono m2 (by intro p hp; repeat (first | exact hp | refine List.mem_cons_of_mem _ ?_))
  intro h9 tk9 nw9 v9 F9 N9 _ ⟨e1, kk9, e2⟩
  subst e1 e2
  simp only [List.nil_append] at N9
  rw [show namesD.idxOf (Str.ofString "datum_code") = 7 from by decide +kernel]
  refine handed_on rfl ?_
  try dsimp only
  repeat' ((fail_if_success (with_reducible show wpAny _ _ (PySem.call (Value.ref _) _) _ _ _)); first | walk1 | (k_unfold; (try dsimp only)))
  try dsimp only
  ktr_call (h_gaW w x3 r3 hr3 _ _ (by decide +kernel)) 0
  · exact HasMsg.mono m3 (by intro p hp; repeat (first | exact hp | refine List.mem_cons_of_mem _ ?_))
  intro h9 tk9 nw9 v9 F9 N9 _ ⟨e1, kk9, e2⟩
  subst e1 e2
  simp only [List.nil_append] at N9
  rw [show namesW.idxOf (Str.ofString "lat") = 0 from by decide +kernel]
  refine handed_on rfl ?_
  try dsimp only
  repeat' ((fail_if_success (with_reducible show wpAny _ _ (PySem.call (Value.ref _) _) _ _ _)); first | walk1 | (k_unfold; (try dsimp only)))
  try dsimp only
  ktr_call (h_gaW w x3 r3 hr3 _ _ (by decide +kernel)) 0
  · exact HasMsg.mono m3 (by intro p hp; repeat (first | exact hp | refine List.mem_cons_of_mem _ ?_))
  intro h9 tk9 nw9 v9 F9 N9 _ ⟨e1, kk9, e2⟩
  subst e1 e2
  simp only [List.nil_append] at N9
  rw [show namesW.idxOf (Str.ofString "lat_dir") = 1 from by decide +kernel]
  refine handed_on rfl ?_
  try dsimp only
  repeat' ((fail_if_success (with_reducible show wpAny _ _ (PySem.call (Value.ref _) _) _ _ _)); first | walk1 | (k_unfold; (try dsimp only)))
  try dsimp only
  ktr_call (h_gaW w x3 r3 hr3 _ _ (by decide +kernel)) 0
  · exact HasMsg.mono m3 (by intro p hp; repeat (first | exact hp | refine List.mem_cons_of_mem _ ?_))
  intro h9 tk9 nw9 v9 F9 N9 _ ⟨e1, kk9, e2⟩
  subst e1 e2
  simp only [List.nil_append] at N9
  rw [show namesW.idxOf (Str.ofString "lon") = 2 from by decide +kernel]
  refine handed_on rfl ?_
  try dsimp only
  repeat' ((fail_if_success (with_reducible show wpAny _ _ (PySem.call (Value.ref _) _) _ _ _)); first | walk1 | (k_unfold; (try dsimp only)))
  try dsimp only
  ktr_call (h_gaW w x3 r3 hr3 _ _ (by decide +kernel)) 0
  · exact HasMsg.mono m3 (by intro p hp; repeat (first | exact hp | refine List.mem_cons_of_mem _ ?_))
  intro h9 tk9 nw9 v9 F9 N9 _ ⟨e1, kk9, e2⟩
  subst e1 e2
  simp only [List.nil_append] at N9
  rw [show namesW.idxOf (Str.ofString "lon_dir") = 3 from by decide +kernel]
  refine handed_on rfl ?_
  try dsimp only
  repeat' ((fail_if_success (with_reducible show wpAny _ _ (PySem.call (Value.ref _) _) _ _ _)); first | walk1 | (k_unfold; (try dsimp only)))
  try dsimp only
  ktr_call (h_gaW w x3 r3 hr3 _ _ (by decide +kernel)) 0
  · exact HasMsg.mono m3 (by intro p hp; repeat (first | exact hp | refine List.mem_cons_of_mem _ ?_))
  intro h9 tk9 nw9 v9 F9 N9 _ ⟨e1, kk9, e2⟩
  subst e1 e2
  simp only [List.nil_append] at N9
  rw [show namesW.idxOf (Str.ofString "waypoint_id") = 4 from by decide +kernel]
  refine handed_on rfl ?_
  try dsimp only
  k_steps
  try dsimp only
  rename (∀ p ∈ news, p.1 < _) => q1
  rename (_ < _ ∧ AllLt _ news) => q2
  rename (_ < _ ∧ _ < _ ∧ AllLt _ news) => q3
  rename (_ < _ ∧ _ < _ ∧ _ < _ ∧ AllLt _ news) => q4
  refine hret _ _ [_, _, _, _] _ (by assumption) (by assumption) ?lt ?post
  case lt =>
    intro p hp
    simp only [List.mem_cons, List.not_mem_nil, or_false] at hp
    rcases hp with rfl | rfl | rfl | rfl
    · exact q4.2.2.2
    · exact q3.2.2
    · exact q2.2
    · exact allLt_of q1
  case post =>
    refine .list (List.mem_cons_self ..) (.cons (.list (by k_mem) ?a) (.cons (.list (by k_mem) ?b) (.cons (.list (by k_mem) ?c) .nil)))
    case a => exact .cons (.str _ _) (.cons (.str _ _) (.cons (.str _ _) (.cons (.str _ _) (.cons (.str _ _) .nil))))
    case b => exact .cons (.str _ _) (.cons (.str _ _) (.cons (.str _ _) (.cons (.str _ _) (.cons (.str _ _) (.cons (.str _ _) (.cons (.str _ _) (.cons (.str _ _) .nil)))))))
    case c => exact .cons (.str _ _) (.cons (.str _ _) (.cons (.str _ _) (.cons (.str _ _) (.cons (.str _ _) .nil))))

end Mine
end
section
open PySem PySem.W PyProof.Rows PySem.Calls Builtin Builtin.ObjectAttr
namespace Mine
set_option maxRecDepth 100000
set_option maxHeartbeats 8000000
local macro_rules | `(tactic| walk_at "getAttr ref") => `(tactic| (k_here; k_dflt (refine' hk_bound ?k1 ?k2 ?k3 ?k4 ?k5 ?kh ?k6 ?k7 ?k8 ?k9 ?k10 ?k11 ?k12 ?_; (case k4 => k_inst); (case k1 => k_asm); (case k2 => k_asm); (case k3 => k_asm); (case k5 => k_is); (case kh => k_is); (case k6 => k_is); (case k7 => k_is); (case k8 => k_is); (case k9 => k_is); (case k10 => k_is); (case k11 => decide +kernel); (case k12 => k_get); k_whole); intro q' h' F' N' l1; (try k_lt l1); (try k_sweep)))
local macro_rules | `(tactic| walk_at "getAttr ref") => `(tactic| (k_here; k_dflt (refine' hk_own ?k1 ?k2 ?k3 ?k4 ?k5 ?k6 ?k7 ?k8 ?k9 ?_; (case k1 => k_asm); (case k2 => k_asm); (case k3 => k_inst); (case k4 => k_is); (case k5 => k_is); (case k6 => k_is); (case k7 => k_is); (case k8 => k_get); (case k9 => k_handed); k_whole)))
local macro_rules | `(tactic| walk_at "getMethod ref") => `(tactic| (k_here; k_dflt (refine' hk_method ?k1 ?k2 ?k3 ?k4 ?k5 ?_; (case k1 => k_asm); (case k2 => k_asm); (case k3 => k_inst); (case k4 => k_is); (case k5 => k_is); k_whole)))
local macro_rules | `(tactic| ktr_enter) => `(tactic| (refine' code_def ?k1 ?k2 ?k3 ?k4 ?k5 ?kA ?kF ?kK ?k6 ?k7 ?k8 ?k9 ?kB ?_ ?c2 ?c3 ?c4 ?c5; (case kA => exact rfl); (case kF => exact rfl); (case kK => first | assumption | exact rfl); (case k1 => k_asm); (case k2 => k_asm); (case k3 => k_asm); (case k4 => k_asm); (case k5 => k_asm); (case k6 => k_is); (case k7 => k_is); (case k8 => ktr_room); (case k9 => first | exact BindsTo.of_eq rfl | exact binds_K (by k_in) rfl (by k_is) rfl rfl rfl); (case c5 => decide); (case kB => exact locs rfl); (case c2 => exact rfl); (case c3 => exact rfl); (case c4 => exact rfl); k_whole; intro g' L' h' FG' F' N' B' X' T'; (try dsimp only); (try k_lift B'); (try k_fold)))
local macro_rules | `(tactic| ktr_call $c:term 0) => `(tactic| (refine wpAny_call ?_; k_dflt (refine' ct_use $c ?k1 ?k2 ?k3 ?k4 ?k5 ?kK ?kd ?ku ?kp ?_; (case k1 => k_asm); (case k2 => k_asm); (case k3 => k_asm); (case k4 => k_asm); (case k5 => k_asm); (case kK => first | assumption | exact rfl); (case kd => ktr_room); (case ku => ktr_units))))
local macro_rules | `(tactic| ktr_call $c:term 1) => `(tactic| (refine' call_meth ?N ?q ?_; (case N => k_asm); (case q => k_mem); k_dflt (refine' ct_use $c ?k1 ?k2 ?k3 ?k4 ?k5 ?kK ?kd ?ku ?kp ?_; (case k1 => k_asm); (case k2 => k_asm); (case k3 => k_asm); (case k4 => k_asm); (case k5 => k_asm); (case kK => first | assumption | exact rfl); (case kd => ktr_room); (case ku => ktr_units))))
local macro_rules | `(tactic| k_mem) => `(tactic| first | assumption | exact List.mem_cons_self .. | (refine' List.mem_cons_of_mem _ ?_; k_mem))
local macro_rules | `(tactic| kst_same) => `(tactic| (intro z h1 h2 h3; (simp only [List.forall_mem_cons, List.not_mem_nil, false_implies, implies_true, and_true, ne_eq] at h2); (simp only [List.contains_cons, List.contains_nil, Bool.or_false, Bool.or_eq_false_iff, beq_eq_false_iff_ne, ne_eq] at h3); (simp [kstB, h1, h2, h3]; done)))
local macro_rules | `(tactic| kby_size) => `(tactic| (rw [PySem.sizeLine_eq]; omega))
local macro_rules | `(tactic| walk_at "call builtin:str.lstrip") => `(tactic| (k_here; (refine KXw.lstrip (by assumption) (by kby_size) ?_); intro _ _))
local macro_rules | `(tactic| walk_at "call builtin:str.strip") => `(tactic| (k_here; (refine KXw.strip (by assumption) (by kby_size) ?_); intro _ _))
local macro_rules | `(tactic| walk_at "call builtin:str.strip") => `(tactic| (k_here; (refine KXw.stripChars (by assumption) (by kby_size) ?_); intro _ _))
local macro_rules | `(tactic| walk_at "call builtin:str.upper") => `(tactic| (k_here; (refine KXw.upper (by assumption) (by decide +kernel) ?_); intro _ _))
local macro_rules | `(tactic| walk_at "call builtin:str.partition") => `(tactic| (k_here; (refine KXpa.partition (by k_asm) (by k_asm) (by decide) (by assumption) (by assumption) (by assumption) (by kby_size) ?_); intro D' _ _ _ _ _ F' N' l1; (try k_lt l1)))
local macro_rules | `(tactic| walk_at "call builtin:str.split") => `(tactic| (k_here; (refine KSpl.split1 (by k_asm) (by k_asm) (by decide) ?_ (by kby_size)); intro D' _ _ _ _ _ F' N' l1; (try k_lt l1)))
theorem t_wpl (w : World) : Ct w 283 2 (fun _ => True) [] (fun new _ v => ∃ l ls n, new = [(l, listOf (strValues ls).toArray n)] ∧ ls.map (·.1) = namesW ∧ v = .ref l) := by
  refine fillit _ ?_
  k_fill
  show Ct _ _ _ _ _ _
  intro mean mg mb dp un gd cn cs a ccd cl outer A₀ base h₀ L m news s Q E B F X N T hk hd hu hpre hret
  k_dflt ktr_enter
  k_steps
  exact hret _ _ [_] _ (by assumption) (by assumption) (lt_one (by assumption)) ⟨_, [(Str.ofString "lat", _), (Str.ofString "lat_dir", _), (Str.ofString "lon", _), (Str.ofString "lon_dir", _), (Str.ofString "waypoint_id", _)], _, rfl, rfl, rfl⟩
theorem t_dtm (w : World) : Ct w 290 2 (fun _ => True) [] (fun new _ v => ∃ l ls n, new = [(l, listOf (strValues ls).toArray n)] ∧ ls.map (·.1) = namesD ∧ v = .ref l) := by
  refine fillit _ ?_
  k_fill
  show Ct _ _ _ _ _ _
  intro mean mg mb dp un gd cn cs a ccd cl outer A₀ base h₀ L m news s Q E B F X N T hk hd hu hpre hret
  k_dflt ktr_enter
  k_steps
  exact hret _ _ [_] _ (by assumption) (by assumption) (lt_one (by assumption)) ⟨_, [(Str.ofString "datum", _), (Str.ofString "subd_datum", _), (Str.ofString "lat", _), (Str.ofString "lat_dir", _), (Str.ofString "lon", _), (Str.ofString "lon_dir", _), (Str.ofString "altitude", _), (Str.ofString "datum_code", _)], _, rfl, rfl, rfl⟩
def headsT : List Str := ["GPWPL,", "IIDTM,", "GPWPL,"]
theorem t_heads (w : World) : Ct w 301 2 (fun _ => True) [] (fun new _ v => ∃ l ls n, new = [(l, listOf (strValues ls).toArray n)] ∧ ls.map (·.1) = headsT ∧ v = .ref l) := by
  refine fillit _ ?_
  k_fill
  show Ct _ _ _ _ _ _
  intro mean mg mb dp un gd cn cs a ccd cl outer A₀ base h₀ L m news s Q E B F X N T hk hd hu hpre hret
  k_dflt ktr_enter
  k_steps
  exact hret _ _ [_] _ (by assumption) (by assumption) (lt_one (by assumption)) ⟨_, [(Str.ofString "GPWPL,", _), (Str.ofString "IIDTM,", _), (Str.ofString "GPWPL,", _)], _, rfl, rfl, rfl⟩
/-- the values that the law sets, and what is told of each -/
def valsT : List Str := ["0", "x", "1200", "", "a,b", "7", "12.50", "S", " "]
/-- a value and its text -/
inductive ValOf : Value → Str → Prop
  | int (i : Int) (t : Tok) : 0 ≤ i → i < 10000 → ValOf (.int i t) (Str.ofString (toString i))
  | str (x : Str) (t : Tok) : ValOf (.str x t) x
inductive ValsOf : List Value → List Str → Prop
  | nil : ValsOf [] []
  | cons {v vs x xs} : ValOf v x → ValsOf vs xs → ValsOf (v :: vs) (x :: xs)
theorem t_values (w : World) : Ct w 308 2 (fun _ => True) [] (fun new _ v => ∃ l vs n, new = [(l, listOf vs.toArray n)] ∧ ValsOf vs valsT ∧ v = .ref l) := by
  refine fillit _ ?_
  k_fill
  show Ct _ _ _ _ _ _
  intro mean mg mb dp un gd cn cs a ccd cl outer A₀ base h₀ L m news s Q E B F X N T hk hd hu hpre hret
  k_dflt ktr_enter
  k_steps
  exact hret _ _ [_] _ (by assumption) (by assumption) (lt_one (by assumption)) ⟨_, [_, _, _, _, _, _, _, _, _], _, rfl, .cons (.int 0 _ (by decide) (by decide)) (.cons (.str _ _) (.cons (.int 1200 _ (by decide) (by decide)) (.cons (.str _ _) (.cons (.str _ _) (.cons (.int 7 _ (by decide) (by decide)) (.cons (.str _ _) (.cons (.str _ _) (.cons (.str _ _) .nil)))))))), rfl⟩

end Mine
end
section
open PySem PySem.W PyProof.Rows PySem.Calls Builtin Builtin.ObjectAttr
namespace Mine
set_option maxRecDepth 100000
set_option maxHeartbeats 8000000
local macro_rules | `(tactic| walk_at "getAttr ref") => `(tactic| (k_here; k_dflt (refine' hk_bound ?k1 ?k2 ?k3 ?k4 ?k5 ?kh ?k6 ?k7 ?k8 ?k9 ?k10 ?k11 ?k12 ?_; (case k4 => k_inst); (case k1 => k_asm); (case k2 => k_asm); (case k3 => k_asm); (case k5 => k_is); (case kh => k_is); (case k6 => k_is); (case k7 => k_is); (case k8 => k_is); (case k9 => k_is); (case k10 => k_is); (case k11 => decide +kernel); (case k12 => k_get); k_whole); intro q' h' F' N' l1; (try k_lt l1); (try k_sweep)))
local macro_rules | `(tactic| walk_at "getAttr ref") => `(tactic| (k_here; k_dflt (refine' hk_own ?k1 ?k2 ?k3 ?k4 ?k5 ?k6 ?k7 ?k8 ?k9 ?_; (case k1 => k_asm); (case k2 => k_asm); (case k3 => k_inst); (case k4 => k_is); (case k5 => k_is); (case k6 => k_is); (case k7 => k_is); (case k8 => k_get); (case k9 => k_handed); k_whole)))
local macro_rules | `(tactic| walk_at "getMethod ref") => `(tactic| (k_here; k_dflt (refine' hk_method ?k1 ?k2 ?k3 ?k4 ?k5 ?_; (case k1 => k_asm); (case k2 => k_asm); (case k3 => k_inst); (case k4 => k_is); (case k5 => k_is); k_whole)))
local macro_rules | `(tactic| ktr_enter) => `(tactic| (refine' code_def ?k1 ?k2 ?k3 ?k4 ?k5 ?kA ?kF ?kK ?k6 ?k7 ?k8 ?k9 ?kB ?_ ?c2 ?c3 ?c4 ?c5; (case kA => exact rfl); (case kF => exact rfl); (case kK => first | assumption | exact rfl); (case k1 => k_asm); (case k2 => k_asm); (case k3 => k_asm); (case k4 => k_asm); (case k5 => k_asm); (case k6 => k_is); (case k7 => k_is); (case k8 => ktr_room); (case k9 => first | exact BindsTo.of_eq rfl | exact binds_K (by k_in) rfl (by k_is) rfl rfl rfl); (case c5 => decide); (case kB => exact locs rfl); (case c2 => exact rfl); (case c3 => exact rfl); (case c4 => exact rfl); k_whole; intro g' L' h' FG' F' N' B' X' T'; (try dsimp only); (try k_lift B'); (try k_fold)))
local macro_rules | `(tactic| ktr_call $c:term 0) => `(tactic| (refine wpAny_call ?_; k_dflt (refine' ct_use $c ?k1 ?k2 ?k3 ?k4 ?k5 ?kK ?kd ?ku ?kp ?_; (case k1 => k_asm); (case k2 => k_asm); (case k3 => k_asm); (case k4 => k_asm); (case k5 => k_asm); (case kK => first | assumption | exact rfl); (case kd => ktr_room); (case ku => ktr_units))))
local macro_rules | `(tactic| ktr_call $c:term 1) => `(tactic| (refine' call_meth ?N ?q ?_; (case N => k_asm); (case q => k_mem); k_dflt (refine' ct_use $c ?k1 ?k2 ?k3 ?k4 ?k5 ?kK ?kd ?ku ?kp ?_; (case k1 => k_asm); (case k2 => k_asm); (case k3 => k_asm); (case k4 => k_asm); (case k5 => k_asm); (case kK => first | assumption | exact rfl); (case kd => ktr_room); (case ku => ktr_units))))
local macro_rules | `(tactic| k_mem) => `(tactic| first | assumption | exact List.mem_cons_self .. | (refine' List.mem_cons_of_mem _ ?_; k_mem))
local macro_rules | `(tactic| kst_same) => `(tactic| (intro z h1 h2 h3; (simp only [List.forall_mem_cons, List.not_mem_nil, false_implies, implies_true, and_true, ne_eq] at h2); (simp only [List.contains_cons, List.contains_nil, Bool.or_false, Bool.or_eq_false_iff, beq_eq_false_iff_ne, ne_eq] at h3); (simp [kstB, h1, h2, h3]; done)))
local macro_rules | `(tactic| kby_size) => `(tactic| (rw [PySem.sizeLine_eq]; omega))
local macro_rules | `(tactic| walk_at "call builtin:str.lstrip") => `(tactic| (k_here; (refine KXw.lstrip (by assumption) (by kby_size) ?_); intro _ _))
local macro_rules | `(tactic| walk_at "call builtin:str.strip") => `(tactic| (k_here; (refine KXw.strip (by assumption) (by kby_size) ?_); intro _ _))
local macro_rules | `(tactic| walk_at "call builtin:str.strip") => `(tactic| (k_here; (refine KXw.stripChars (by assumption) (by kby_size) ?_); intro _ _))
local macro_rules | `(tactic| walk_at "call builtin:str.upper") => `(tactic| (k_here; (refine KXw.upper (by assumption) (by decide +kernel) ?_); intro _ _))
local macro_rules | `(tactic| walk_at "call builtin:str.partition") => `(tactic| (k_here; (refine KXpa.partition (by k_asm) (by k_asm) (by decide) (by assumption) (by assumption) (by assumption) (by kby_size) ?_); intro D' _ _ _ _ _ F' N' l1; (try k_lt l1)))
local macro_rules | `(tactic| walk_at "call builtin:str.split") => `(tactic| (k_here; (refine KSpl.split1 (by k_asm) (by k_asm) (by decide) ?_ (by kby_size)); intro D' _ _ _ _ _ F' N' l1; (try k_lt l1)))
theorem news_take1 {h₀ h : Heap} {L : Addr} {a : Addr × Obj} {r news : Led} (N : News h₀ L h (a :: r)) (hs : ∀ p ∈ news, p ∈ r) : News h₀ L h ([a] ++ news) := by
  intro p hp
  rcases List.mem_cons.mp hp with rfl | hp
  · exact N _ (List.mem_cons_self ..)
  · exact N _ (.tail _ (hs _ hp))
theorem news_take2 {h₀ h : Heap} {L : Addr} {a b : Addr × Obj} {r news : Led} (N : News h₀ L h (a :: b :: r)) (hs : ∀ p ∈ news, p ∈ r) : News h₀ L h ([a, b] ++ news) := by
  intro p hp
  rcases List.mem_cons.mp hp with rfl | hp
  · exact N _ (List.mem_cons_self ..)
  · rcases List.mem_cons.mp hp with rfl | hp
    · exact N _ (.tail _ (List.mem_cons_self ..))
    · exact N _ (.tail _ (.tail _ (hs _ hp)))
/-- a contract of a call that may turn one list of the ledger -/
abbrev CtS (w : World) (f : Addr) (k : Nat) (pre : Led → Prop) (vs : List Value) (post : Led → Led → Value → Prop) : Prop :=
  ∀ (mean : ExcName → Option Value) (mg mb : Str → Option Value) (dp un : Nat) (gd : Option (List Code)) (cn : Str) (cs : Scope) (a : Addr) (ccd : Value) (A₀ : Around) (base h₀ : Heap) (L : Addr) (m : Str → Option Value) (news : Led) (s : Shared) (Q E : Value → Shared → Prop),
  CallP w mean mg mb dp un cs [] A₀ base h₀ L m news s k (Frag.In (Mine.hd.heap_39 w.params) base → Top VW LO mean mg mb base → pre news →
    (∀ h' tk' news' v, Fr h₀ L h' m → News h₀ L h' news' → post news news' v → Q v { s with heap := h', toks := tk' }) →
    codeAny (model PG w) (ktrTop dp un gd cn cs L a ccd [] []) (.call (.ref f) ⟨vs, []⟩) (fun r s' => match r with | .ok (.ret v) => Q v s' | .ok _ => False | .error e => E e s') s)
theorem cts_use {w : World} {f : Addr} {k : Nat} {pre : Led → Prop} {vs : List Value} {post : Led → Led → Value → Prop} (C : CtS w f k pre vs post)
    {mean : ExcName → Option Value} {mg mb : Str → Option Value} {dp un : Nat} {gd : Option (List Code)} {cn : Str} {cs : Scope} {a : Addr} {ccd : Value} {A₀ : Around} {base h₀ : Heap} {L : Addr} {m : Str → Option Value} {news : Led} {s : Shared} {Q E : Value → Shared → Prop}
    (B : Below A₀ base [] h₀) (F : Fr h₀ L s.heap m) (X : Frag.In (Mine.hd.heap_39 w.params) h₀) (N : News h₀ L s.heap news) (T : Top VW LO mean mg mb h₀) (hk : cs.kind = .function)
    (hd : dp + 4 * k < recursionLimit) (hu : un + 40 * k < cLine) (XB : Frag.In (Mine.hd.heap_39 w.params) base) (TB : Top VW LO mean mg mb base) (hp : pre news)
    (ret : ∀ h' tk' news' v, Fr h₀ L h' m → News h₀ L h' news' → post news news' v → Q v { s with heap := h', toks := tk' }) :
    codeAny (model PG w) (ktrTop dp un gd cn cs L a ccd [] []) (.call (.ref f) ⟨vs, []⟩) (fun r s' => match r with | .ok (.ret v) => Q v s' | .ok _ => False | .error e => E e s') s :=
  C _ _ _ _ _ _ _ _ _ _ _ _ _ _ _ _ _ _ _ B F X N T hk hd hu XB TB hp ret
theorem updF_upd {d : Addr} {o : Obj} {news : Led} {g : Obj → Led} (U : UpdF d o news g) (o' : Obj) : Upd d o o' news (g o') := by
  induction U with
  | head h => exact .head h
  | tail h _ ih => exact .tail h ih
theorem updF_mem {d : Addr} {o : Obj} {news : Led} {g : Obj → Led} (U : UpdF d o news g) : (d, o) ∈ news := by
  induction U with
  | head h => exact .head _
  | tail h _ ih => exact .tail _ ih
theorem set_out {prog : Program} {w : World} {A : Around} {E : Value → Shared → Prop} {s : Shared} {l : Addr} {items : Array Value} {n : Nat} {k : Int} {t : Tok} {v : Value} {Q : Unit → Shared → Prop} (hA : A.handled = none) (ho : s.heap.get? l = some (listOf items n)) (h0 : 0 ≤ k) (hout : (items.size : Int) ≤ k) (hfit : k < 2 ^ 63)
    (hE : ∀ h' tk e, Heap.NewExc s.heap h' e "IndexError" → E (.ref e) { s with heap := h', toks := tk }) : wpAny (model prog w) A (setItem (.ref l) (.int k t) v) Q E s := by
  have hl : s.heap.IsList l items := PySem.IsL.isList (n := n) ho
  unfold setItem
  try with_reducible refine wpAny_holding ?_
  first | refine wpAny_bind (wpAny_pure ?_) | skip
  refine wpAny_bind (wpAny_sequenceKey hl.typeIs (by decide) ?_)
  refine wpAny_bind (wpAny_callSpecial?_slot (name := Str.ofString "__setitem__") hl.typeIs slot_list_setitem (wpAny_call_entry slot_list_setitem hl.typeIs entry_list_setitem ?_ (args_list_setitem _ _ _)))
  show wpAny _ _ (Builtin.List.listSubscript? (.int k t) >>= _) _ _ s
  refine wpAny_bind (wpAny_listSubscript_int (fitsIndex_of h0 hfit) ?_)
  clear hfit
  obtain ⟨j, rfl⟩ := Int.eq_ofNat_of_zero_le h0
  have hx : items[j]? = none := Array.getElem?_eq_none (by omega)
  show wpAny _ _ ((seqItemAt l j >>= fun r => pure (r.map (j, ·))) >>= _) _ _ s
  refine wpAny_bind (wpAny_bind (wpAny_seqItemAt ho rfl (wpAny_pure ?_)))
  rw [hx]
  first
    | exact wpAny_bind (wpAny_rule (by exact_raiseError plainExc_IndexError hA hE))
    | exact wpAny_bind (wpAny_rule (wpAny_bind (by exact_raiseError plainExc_IndexError hA hE)))
    | exact wpAny_bind (wpAny_bind (wpAny_rule (by exact_raiseError plainExc_IndexError hA hE)))
    | exact wpAny_rule (by exact_raiseError plainExc_IndexError hA hE)
theorem set_strs {ls : List (Str × Tok)} {i : Nat} {tx : Str} {tok : Tok} (hi : i < ls.length) : ki_setL (strValues ls).toArray.toList ((i : Nat) : Int).toNat (.str tx tok) = some (strValues (ls.set i (tx, tok))) := by
  show ki_setL (strValues ls) i (.str tx tok) = _
  induction ls generalizing i with
  | nil => exact absurd hi (Nat.not_lt_zero _)
  | cons p r ih =>
    cases i with
    | zero => rfl
    | succ i =>
      show (match ki_setL (strValues r) i (.str tx tok) with | some q => some (_ :: q) | none => none) = _
      rw [ih (Nat.lt_of_succ_lt_succ hi)]
      rfl

end Mine
end
section
open PySem PySem.W PyProof.Rows PySem.Calls Builtin Builtin.ObjectAttr
namespace Mine
set_option maxRecDepth 100000
set_option maxHeartbeats 8000000
local macro_rules | `(tactic| walk_at "getAttr ref") => `(tactic| (k_here; k_dflt (refine' hk_bound ?k1 ?k2 ?k3 ?k4 ?k5 ?kh ?k6 ?k7 ?k8 ?k9 ?k10 ?k11 ?k12 ?_; (case k4 => k_inst); (case k1 => k_asm); (case k2 => k_asm); (case k3 => k_asm); (case k5 => k_is); (case kh => k_is); (case k6 => k_is); (case k7 => k_is); (case k8 => k_is); (case k9 => k_is); (case k10 => k_is); (case k11 => decide +kernel); (case k12 => k_get); k_whole); intro q' h' F' N' l1; (try k_lt l1); (try k_sweep)))
local macro_rules | `(tactic| walk_at "getAttr ref") => `(tactic| (k_here; k_dflt (refine' hk_own ?k1 ?k2 ?k3 ?k4 ?k5 ?k6 ?k7 ?k8 ?k9 ?_; (case k1 => k_asm); (case k2 => k_asm); (case k3 => k_inst); (case k4 => k_is); (case k5 => k_is); (case k6 => k_is); (case k7 => k_is); (case k8 => k_get); (case k9 => k_handed); k_whole)))
local macro_rules | `(tactic| walk_at "getMethod ref") => `(tactic| (k_here; k_dflt (refine' hk_method ?k1 ?k2 ?k3 ?k4 ?k5 ?_; (case k1 => k_asm); (case k2 => k_asm); (case k3 => k_inst); (case k4 => k_is); (case k5 => k_is); k_whole)))
local macro_rules | `(tactic| ktr_enter) => `(tactic| (refine' code_def ?k1 ?k2 ?k3 ?k4 ?k5 ?kA ?kF ?kK ?k6 ?k7 ?k8 ?k9 ?kB ?_ ?c2 ?c3 ?c4 ?c5; (case kA => exact rfl); (case kF => exact rfl); (case kK => first | assumption | exact rfl); (case k1 => k_asm); (case k2 => k_asm); (case k3 => k_asm); (case k4 => k_asm); (case k5 => k_asm); (case k6 => k_is); (case k7 => k_is); (case k8 => ktr_room); (case k9 => first | exact BindsTo.of_eq rfl | exact binds_K (by k_in) rfl (by k_is) rfl rfl rfl); (case c5 => decide); (case kB => exact locs rfl); (case c2 => exact rfl); (case c3 => exact rfl); (case c4 => exact rfl); k_whole; intro g' L' h' FG' F' N' B' X' T'; (try dsimp only); (try k_lift B'); (try k_fold)))
local macro_rules | `(tactic| ktr_call $c:term 0) => `(tactic| (refine wpAny_call ?_; k_dflt (refine' ct_use $c ?k1 ?k2 ?k3 ?k4 ?k5 ?kK ?kd ?ku ?kp ?_; (case k1 => k_asm); (case k2 => k_asm); (case k3 => k_asm); (case k4 => k_asm); (case k5 => k_asm); (case kK => first | assumption | exact rfl); (case kd => ktr_room); (case ku => ktr_units))))
local macro_rules | `(tactic| ktr_call $c:term 1) => `(tactic| (refine' call_meth ?N ?q ?_; (case N => k_asm); (case q => k_mem); k_dflt (refine' ct_use $c ?k1 ?k2 ?k3 ?k4 ?k5 ?kK ?kd ?ku ?kp ?_; (case k1 => k_asm); (case k2 => k_asm); (case k3 => k_asm); (case k4 => k_asm); (case k5 => k_asm); (case kK => first | assumption | exact rfl); (case kd => ktr_room); (case ku => ktr_units))))
local macro_rules | `(tactic| k_mem) => `(tactic| first | assumption | exact List.mem_cons_self .. | (refine' List.mem_cons_of_mem _ ?_; k_mem))
local macro_rules | `(tactic| kst_same) => `(tactic| (intro z h1 h2 h3; (simp only [List.forall_mem_cons, List.not_mem_nil, false_implies, implies_true, and_true, ne_eq] at h2); (simp only [List.contains_cons, List.contains_nil, Bool.or_false, Bool.or_eq_false_iff, beq_eq_false_iff_ne, ne_eq] at h3); (simp [kstB, h1, h2, h3]; done)))
local macro_rules | `(tactic| kby_size) => `(tactic| (rw [PySem.sizeLine_eq]; omega))
local macro_rules | `(tactic| walk_at "call builtin:str.lstrip") => `(tactic| (k_here; (refine KXw.lstrip (by assumption) (by kby_size) ?_); intro _ _))
local macro_rules | `(tactic| walk_at "call builtin:str.strip") => `(tactic| (k_here; (refine KXw.strip (by assumption) (by kby_size) ?_); intro _ _))
local macro_rules | `(tactic| walk_at "call builtin:str.strip") => `(tactic| (k_here; (refine KXw.stripChars (by assumption) (by kby_size) ?_); intro _ _))
local macro_rules | `(tactic| walk_at "call builtin:str.upper") => `(tactic| (k_here; (refine KXw.upper (by assumption) (by decide +kernel) ?_); intro _ _))
local macro_rules | `(tactic| walk_at "call builtin:str.partition") => `(tactic| (k_here; (refine KXpa.partition (by k_asm) (by k_asm) (by decide) (by assumption) (by assumption) (by assumption) (by kby_size) ?_); intro D' _ _ _ _ _ F' N' l1; (try k_lt l1)))
local macro_rules | `(tactic| walk_at "call builtin:str.split") => `(tactic| (k_here; (refine KSpl.split1 (by k_asm) (by k_asm) (by decide) ?_ (by kby_size)); intro D' _ _ _ _ _ F' N' l1; (try k_lt l1)))
local macro_rules | `(tactic| walk_at "callWith ref") => `(tactic| (k_here; k_dflt (refine' callWith_M ?k1 ?k2 ?k3 ?k4 ?_; (case k1 => k_asm); (case k2 => k_asm); (case k3 => k_mem); (case k4 => k_is); k_whole)))
theorem t_againW (w : World) (x : Addr) (row : List Str) (hr : OkRow row) : Ct w 358 9 (fun news => HasMsg w.params news x 253 "GP" "WPL" row) [.ref x] (fun new _ v => DatIn new v (.list [.str (lineT (bodyT "GPWPL," row)), .list ((cutT (Txt.join "," row)).map Dat.str)])) := by
  refine fillit _ ?_
  k_fill
  show Ct _ _ _ _ _ _
  intro mean mg mb dp un gd cn cs a ccd cl outer A₀ base h₀ L m news s Q E B F X N T hk hd hu hpre hret
  have m1 := hpre
  obtain ⟨l1, dx1, a1, b1, c1, d1, e1, ls1, n1, hx1, hdx1, hl1, hls1⟩ := hpre
  unfold msgDict at hdx1
  k_dflt ktr_enter
  repeat' ((fail_if_success (with_reducible show wpAny _ _ (PySem.call (Value.ref _) _) _ _ _)); first | walk1 | (k_unfold; (try dsimp only)))
  try dsimp only
  ktr_call (h_fullW w x row hr) 1
  · exact HasMsg.mono m1 (by intro p hp; repeat (first | exact hp | refine List.mem_cons_of_mem _ ?_))
  intro h9 tk9 nw9 v9 F9 N9 _ ⟨e1, kk9, e2⟩
  subst e1 e2
  simp only [List.nil_append] at N9
  k_steps
  try dsimp only
  rename Obj.IsDictOf _ _ _ => hdo
  rename (_ == sysModules) = false => hlo
  ktr_call (t_parseW w _ _ hdo hlo row hr _) 0
  · k_mem
  intro h8 tk8 nw8 v8 F8 N8 l8 ⟨y, l, dx, q1, q2, q3, q4, q5, c, ls, e1, e2, e3⟩
  subst e1 e2
  simp only [List.cons_append, List.nil_append] at N8
  unfold msgDict at N8
  k_steps
  rename (_ < _ ∧ _) => q9
  refine hret _ _ [_, _] _ (by assumption) (news_take2 (by assumption) (by intro p hp; repeat (first | exact hp | refine List.mem_cons_of_mem _ ?_))) ?lt (.list (List.mem_cons_self ..) (.cons (.str _ _) (.cons (.list (.tail _ (List.mem_cons_self ..)) (e3 ▸ strs_dat ls)) .nil)))
  case lt =>
    intro p hp
    simp only [List.mem_cons, List.not_mem_nil, or_false] at hp
    rcases hp with rfl | rfl
    · simp only [q9]
    · have := l8 _ (List.mem_cons_self ..)
      simp only [AllLt] at this
      simp only [this]

theorem t_againD (w : World) (x : Addr) (row : List Str) (hr : OkRow row) : Ct w 358 9 (fun news => HasMsg w.params news x 274 "II" "DTM" row) [.ref x] (fun new _ v => DatIn new v (.list [.str (lineT (bodyT "IIDTM," row)), .list ((cutT (Txt.join "," row)).map Dat.str)])) := by
  refine fillit _ ?_
  k_fill
  show Ct _ _ _ _ _ _
  intro mean mg mb dp un gd cn cs a ccd cl outer A₀ base h₀ L m news s Q E B F X N T hk hd hu hpre hret
  have m1 := hpre
  obtain ⟨l1, dx1, a1, b1, c1, d1, e1, ls1, n1, hx1, hdx1, hl1, hls1⟩ := hpre
  unfold msgDict at hdx1
  k_dflt ktr_enter
  repeat' ((fail_if_success (with_reducible show wpAny _ _ (PySem.call (Value.ref _) _) _ _ _)); first | walk1 | (k_unfold; (try dsimp only)))
  try dsimp only
  ktr_call (h_fullD w x row hr) 1
  · exact HasMsg.mono m1 (by intro p hp; repeat (first | exact hp | refine List.mem_cons_of_mem _ ?_))
  intro h9 tk9 nw9 v9 F9 N9 _ ⟨e1, kk9, e2⟩
  subst e1 e2
  simp only [List.nil_append] at N9
  k_steps
  try dsimp only
  rename Obj.IsDictOf _ _ _ => hdo
  rename (_ == sysModules) = false => hlo
  ktr_call (t_parseD w _ _ hdo hlo row hr _) 0
  · k_mem
  intro h8 tk8 nw8 v8 F8 N8 l8 ⟨y, l, dx, q1, q2, q3, q4, q5, c, ls, e1, e2, e3⟩
  subst e1 e2
  simp only [List.cons_append, List.nil_append] at N8
  unfold msgDict at N8
  k_steps
  rename (_ < _ ∧ _) => q9
  refine hret _ _ [_, _] _ (by assumption) (news_take2 (by assumption) (by intro p hp; repeat (first | exact hp | refine List.mem_cons_of_mem _ ?_))) ?lt (.list (List.mem_cons_self ..) (.cons (.str _ _) (.cons (.list (.tail _ (List.mem_cons_self ..)) (e3 ▸ strs_dat ls)) .nil)))
  case lt =>
    intro p hp
    simp only [List.mem_cons, List.not_mem_nil, or_false] at hp
    rcases hp with rfl | rfl
    · simp only [q9]
    · have := l8 _ (List.mem_cons_self ..)
      simp only [AllLt] at this
      simp only [this]

end Mine
end
section
open PySem PySem.W PyProof.Rows PySem.Calls Builtin Builtin.ObjectAttr
namespace Mine
set_option maxRecDepth 100000
set_option maxHeartbeats 8000000
local macro_rules | `(tactic| walk_at "getAttr ref") => `(tactic| (k_here; k_dflt (refine' hk_bound ?k1 ?k2 ?k3 ?k4 ?k5 ?kh ?k6 ?k7 ?k8 ?k9 ?k10 ?k11 ?k12 ?_; (case k4 => k_inst); (case k1 => k_asm); (case k2 => k_asm); (case k3 => k_asm); (case k5 => k_is); (case kh => k_is); (case k6 => k_is); (case k7 => k_is); (case k8 => k_is); (case k9 => k_is); (case k10 => k_is); (case k11 => decide +kernel); (case k12 => k_get); k_whole); intro q' h' F' N' l1; (try k_lt l1); (try k_sweep)))
local macro_rules | `(tactic| walk_at "getAttr ref") => `(tactic| (k_here; k_dflt (refine' hk_own ?k1 ?k2 ?k3 ?k4 ?k5 ?k6 ?k7 ?k8 ?k9 ?_; (case k1 => k_asm); (case k2 => k_asm); (case k3 => k_inst); (case k4 => k_is); (case k5 => k_is); (case k6 => k_is); (case k7 => k_is); (case k8 => k_get); (case k9 => k_handed); k_whole)))
local macro_rules | `(tactic| walk_at "getMethod ref") => `(tactic| (k_here; k_dflt (refine' hk_method ?k1 ?k2 ?k3 ?k4 ?k5 ?_; (case k1 => k_asm); (case k2 => k_asm); (case k3 => k_inst); (case k4 => k_is); (case k5 => k_is); k_whole)))
local macro_rules | `(tactic| ktr_enter) => `(tactic| (refine' code_def ?k1 ?k2 ?k3 ?k4 ?k5 ?kA ?kF ?kK ?k6 ?k7 ?k8 ?k9 ?kB ?_ ?c2 ?c3 ?c4 ?c5; (case kA => exact rfl); (case kF => exact rfl); (case kK => first | assumption | exact rfl); (case k1 => k_asm); (case k2 => k_asm); (case k3 => k_asm); (case k4 => k_asm); (case k5 => k_asm); (case k6 => k_is); (case k7 => k_is); (case k8 => ktr_room); (case k9 => first | exact BindsTo.of_eq rfl | exact binds_K (by k_in) rfl (by k_is) rfl rfl rfl); (case c5 => decide); (case kB => exact locs rfl); (case c2 => exact rfl); (case c3 => exact rfl); (case c4 => exact rfl); k_whole; intro g' L' h' FG' F' N' B' X' T'; (try dsimp only); (try k_lift B'); (try k_fold)))
local macro_rules | `(tactic| ktr_call $c:term 0) => `(tactic| (refine wpAny_call ?_; k_dflt (refine' ct_use $c ?k1 ?k2 ?k3 ?k4 ?k5 ?kK ?kd ?ku ?kp ?_; (case k1 => k_asm); (case k2 => k_asm); (case k3 => k_asm); (case k4 => k_asm); (case k5 => k_asm); (case kK => first | assumption | exact rfl); (case kd => ktr_room); (case ku => ktr_units))))
local macro_rules | `(tactic| ktr_call $c:term 1) => `(tactic| (refine' call_meth ?N ?q ?_; (case N => k_asm); (case q => k_mem); k_dflt (refine' ct_use $c ?k1 ?k2 ?k3 ?k4 ?k5 ?kK ?kd ?ku ?kp ?_; (case k1 => k_asm); (case k2 => k_asm); (case k3 => k_asm); (case k4 => k_asm); (case k5 => k_asm); (case kK => first | assumption | exact rfl); (case kd => ktr_room); (case ku => ktr_units))))
local macro_rules | `(tactic| k_mem) => `(tactic| first | assumption | exact List.mem_cons_self .. | (refine' List.mem_cons_of_mem _ ?_; k_mem))
local macro_rules | `(tactic| kst_same) => `(tactic| (intro z h1 h2 h3; (simp only [List.forall_mem_cons, List.not_mem_nil, false_implies, implies_true, and_true, ne_eq] at h2); (simp only [List.contains_cons, List.contains_nil, Bool.or_false, Bool.or_eq_false_iff, beq_eq_false_iff_ne, ne_eq] at h3); (simp [kstB, h1, h2, h3]; done)))
local macro_rules | `(tactic| kby_size) => `(tactic| (rw [PySem.sizeLine_eq]; omega))
local macro_rules | `(tactic| walk_at "call builtin:str.lstrip") => `(tactic| (k_here; (refine KXw.lstrip (by assumption) (by kby_size) ?_); intro _ _))
local macro_rules | `(tactic| walk_at "call builtin:str.strip") => `(tactic| (k_here; (refine KXw.strip (by assumption) (by kby_size) ?_); intro _ _))
local macro_rules | `(tactic| walk_at "call builtin:str.strip") => `(tactic| (k_here; (refine KXw.stripChars (by assumption) (by kby_size) ?_); intro _ _))
local macro_rules | `(tactic| walk_at "call builtin:str.upper") => `(tactic| (k_here; (refine KXw.upper (by assumption) (by decide +kernel) ?_); intro _ _))
local macro_rules | `(tactic| walk_at "call builtin:str.partition") => `(tactic| (k_here; (refine KXpa.partition (by k_asm) (by k_asm) (by decide) (by assumption) (by assumption) (by assumption) (by kby_size) ?_); intro D' _ _ _ _ _ F' N' l1; (try k_lt l1)))
local macro_rules | `(tactic| walk_at "call builtin:str.split") => `(tactic| (k_here; (refine KSpl.split1 (by k_asm) (by k_asm) (by decide) ?_ (by kby_size)); intro D' _ _ _ _ _ F' N' l1; (try k_lt l1)))
theorem valOf_handed {v : Value} {x : Str} (h : ValOf v x) : handedIn v = true := by cases h <;> rfl
theorem str_val {prog : Program} {w : World} {A : Around} {E : Value → Shared → Prop} {s : Shared} {vl : Value} {tx : Str} {Q : Value → Shared → Prop} (hv : ValOf vl tx) (h : ∀ t k, Q (.str tx t) { s with toks := k }) : wpAny (model prog w) A (call (.type "str") [vl]) Q E s := by
  cases hv with
  | int i t h0 h1 =>
    refine P.str_of_int ?_ (h _ _)
    by_cases hz : i.natAbs = 0
    · rw [hz]; decide
    · exact Nat.lt_of_lt_of_le ((Nat.log2_lt hz).mpr (show i.natAbs < 2 ^ 14 by omega)) (by decide)
  | str x t => exact P.str_of_str (h t s.toks)
theorem t_setW (w : World) (x l dx : Addr) (k1 v1 k2 v2 k3 t u : Tok) (ls : List (Str × Tok)) (n : Nat) (g : Obj → Led) (row : List Str) (hr : OkRow row) (hls : ls.map (·.1) = row) (name : Str) (i : Nat) (hi : namesW[i]? = some name) (vl : Value) (tx : Str) (hv : ValOf vl tx) :
    CtS w 329 9 (fun news => MsgIn w.params news x 253 "GP" "WPL" l dx k1 v1 k2 v2 k3 ∧ UpdF l (listOf (strValues ls).toArray n) news g) [.ref x, .str name t, vl]
    (fun news news' v => (i < row.length ∧ (∃ k, v = .str "set" k) ∧ ∃ k, news' = g (listOf (strValues (ls.set i (tx, k))).toArray n)) ∨ (row.length ≤ i ∧ (∃ k, v = .str "refused" k) ∧ news' = news)) := by
  refine fillit _ ?_
  k_fill
  show CtS _ _ _ _ _ _
  intro mean mg mb dp un gd cn cs a ccd A₀ base h₀ L m news s Q E B F X N T hk hd hu XB TB hpre hret
  obtain ⟨⟨hx, hdx⟩, U⟩ := hpre
  have hl := updF_mem U
  unfold msgDict at hdx
  k_dflt (refine' code_defS0 ?k1 ?k2 ?k3 ?k4 ?k5 ?kA ?k6 ?k7 ?k8 ?k9 ?kB ?_ ?kK ?c2 ?c3 ?c4 ?c5)
  case kA => exact rfl
  case k1 => k_asm
  case k2 => k_asm
  case k3 => k_asm
  case k4 => k_asm
  case k5 => k_asm
  case k6 => k_is
  case k7 => k_is
  case k8 => ktr_room
  case k9 => exact BindsTo.of_eq rfl
  case kB => exact locs rfl
  case kK => exact hk
  case c2 => exact rfl
  case c3 => exact rfl
  case c4 => exact rfl
  case c5 => decide
  intro g1 L1 h1 FG1 F1 N1 B1 X1 T1 D1
  try dsimp only
  try k_lift B1
  try k_fold
  k_steps
  try dsimp only
  refine' call_meth ?N ?q ?_
  case N => k_asm
  case q => k_mem
  k_dflt ktr_enter
  rename_i g' L' h' FG' F' N' B' X' T'
  k_steps
  refine' enum_dict (T := 250) (items := #[.ref 245, .ref 246, .ref 247, .ref 248, .ref 249]) (names := namesW) ?F ?N ?hh ?c1 ?c2 ?c3 ?c4 ?c5 ?c6 ?c7 ?c8 ?c9 ?d1 ?d2 ?d3 ?d4 ?d5 ?d6
  case F => k_asm
  case N => k_asm
  case hh => exact rfl
  case c1 => with_unfolding_all rfl
  case c2 => decide
  case c3 => rfl
  case c4 => decide
  case c5 => rfl
  case c6 => rfl
  case c7 => decide
  case c8 => decide
  case c9 => decide
  case d1 => decide +kernel
  case d2 => rfl
  case d3 => decide
  case d4 =>
    intro j v hj
    have hjn : j < namesW.length := by
      have := (Array.getElem?_eq_some_iff.mp hj).1
      exact this
    obtain ⟨fa, fl, ft, ftn, hfi, hfa⟩ := fieldsWAt w (show (Mine.hd.heap_39 w.params).In g' from by k_asm) _ _ (List.getElem?_eq_getElem hjn)
    rw [hj] at hfi
    cases Option.some.inj hfi
    exact ⟨fa, _, _, _, _, rfl, hfa, rfl, List.getElem?_eq_getElem hjn⟩
  case d5 =>
    k_steps
    have h250 : g'.get? 250 = some { cls := .type "tuple", data := .seq #[.ref 245, .ref 246, .ref 247, .ref 248, .ref 249] } := by
      refine (show (Mine.hd.heap_39 w.params).In g' from by k_asm) 250 _ ?_
      k_is
    rename Fr g' L' _ _ => F5
    have h250' := F5.keep _ _ h250
    refine call_enum_tup (items := #[.ref 245, .ref 246, .ref 247, .ref 248, .ref 249]) h250' ?_
    intro h9 he hi hT hs9 hk9
    exact ⟨_, _, h9, _, rfl, rfl, he, hi, hT, Nat.le_succ _, Nat.le_refl _, Nat.succ_ne_self _, Heap.lt_size h250', hk9⟩
  case d6 =>
    intro D o kvs h' tk' F6 N6 l6 hdo hpl
    obtain ⟨ti, hti⟩ := placed_at nodupW hpl hi
    k_steps
    rename News g' L' _ _ => N8
    refine wpAny_getItem_of (strKind_is _ _ _ _) (kda_dict N8 (show (D, o) ∈ _ by k_mem) hdo).mapOf hti ?_
    have hi9 : i < 9 := by
      obtain ⟨h9, _⟩ := List.getElem?_eq_some_iff.mp hi
      exact Nat.lt_of_lt_of_le h9 (by decide)
    clear hti hpl hdo
    rename (∀ p ∈ news, p.1 < _) => lq
    have nq := ltN (lq _ hl)
    have nD := ltN (l6 _ (.tail _ hl))
    have hll : ls.length = row.length := by rw [← hls, List.length_map]
    have hfew := hr.few
    have hv' := valOf_handed hv
    repeat' ((fail_if_success (with_reducible show wpAny _ _ (PySem.call (Value.type "str") _) _ _ _)); first | walk1 | (k_unfold; (try dsimp only)))
    try dsimp only
    refine str_val hv ?_
    intro t9v k9v
    k_steps
    try dsimp only
    rename News g' L' _ _ => N9
    rename Fr g' L' _ _ => F9
    by_cases hlt : i < row.length
    · refine' ki_set (its := (strValues ls).toArray) (n := n) F9 N9 ?b1 ?b2 ?b3 (.tail ?b4 (.tail ?b5 (updF_upd U _))) ?_
      case b1 => omega
      case b2 => omega
      case b3 => exact set_strs (by omega)
      case b4 => k_ne
      case b5 => k_ne
      intro h5 F5 N5
      k_steps
      try dsimp only
      exact hret _ _ _ _ (by assumption) (news_drop (by assumption) (by intro p hp; exact .tail _ (.tail _ hp))) (.inl ⟨hlt, ⟨_, rfl⟩, _, rfl⟩)
    · refine set_out (items := (strValues ls).toArray) (n := n) rfl (N9 _ (show (l, _) ∈ _ from .tail _ (.tail _ hl))).1 (by omega) (by rw [List.size_toArray, strValues_len]; omega) (by omega) ?_
      intro h5 tk5 e5 hne
      k_steps
      try dsimp only
      exact hret _ _ _ _ (by assumption) (news_drop (by assumption) (by intro p hp; exact .tail _ (.tail _ hp))) (.inr ⟨by omega, ⟨_, rfl⟩, rfl⟩)

theorem t_setD (w : World) (x l dx : Addr) (k1 v1 k2 v2 k3 t u : Tok) (ls : List (Str × Tok)) (n : Nat) (g : Obj → Led) (row : List Str) (hr : OkRow row) (hls : ls.map (·.1) = row) (name : Str) (i : Nat) (hi : namesD[i]? = some name) (vl : Value) (tx : Str) (hv : ValOf vl tx) :
    CtS w 329 9 (fun news => MsgIn w.params news x 274 "II" "DTM" l dx k1 v1 k2 v2 k3 ∧ UpdF l (listOf (strValues ls).toArray n) news g) [.ref x, .str name t, vl]
    (fun news news' v => (i < row.length ∧ (∃ k, v = .str "set" k) ∧ ∃ k, news' = g (listOf (strValues (ls.set i (tx, k))).toArray n)) ∨ (row.length ≤ i ∧ (∃ k, v = .str "refused" k) ∧ news' = news)) := by
  refine fillit _ ?_
  k_fill
  show CtS _ _ _ _ _ _
  intro mean mg mb dp un gd cn cs a ccd A₀ base h₀ L m news s Q E B F X N T hk hd hu XB TB hpre hret
  obtain ⟨⟨hx, hdx⟩, U⟩ := hpre
  have hl := updF_mem U
  unfold msgDict at hdx
  k_dflt (refine' code_defS0 ?k1 ?k2 ?k3 ?k4 ?k5 ?kA ?k6 ?k7 ?k8 ?k9 ?kB ?_ ?kK ?c2 ?c3 ?c4 ?c5)
  case kA => exact rfl
  case k1 => k_asm
  case k2 => k_asm
  case k3 => k_asm
  case k4 => k_asm
  case k5 => k_asm
  case k6 => k_is
  case k7 => k_is
  case k8 => ktr_room
  case k9 => exact BindsTo.of_eq rfl
  case kB => exact locs rfl
  case kK => exact hk
  case c2 => exact rfl
  case c3 => exact rfl
  case c4 => exact rfl
  case c5 => decide
  intro g1 L1 h1 FG1 F1 N1 B1 X1 T1 D1
  try dsimp only
  try k_lift B1
  try k_fold
  k_steps
  try dsimp only
  refine' call_meth ?N ?q ?_
  case N => k_asm
  case q => k_mem
  k_dflt ktr_enter
  rename_i g' L' h' FG' F' N' B' X' T'
  k_steps
  refine' enum_dict (T := 271) (items := #[.ref 263, .ref 264, .ref 265, .ref 266, .ref 267, .ref 268, .ref 269, .ref 270]) (names := namesD) ?F ?N ?hh ?c1 ?c2 ?c3 ?c4 ?c5 ?c6 ?c7 ?c8 ?c9 ?d1 ?d2 ?d3 ?d4 ?d5 ?d6
  case F => k_asm
  case N => k_asm
  case hh => exact rfl
  case c1 => with_unfolding_all rfl
  case c2 => decide
  case c3 => rfl
  case c4 => decide
  case c5 => rfl
  case c6 => rfl
  case c7 => decide
  case c8 => decide
  case c9 => decide
  case d1 => decide +kernel
  case d2 => rfl
  case d3 => decide
  case d4 =>
    intro j v hj
    have hjn : j < namesD.length := by
      have := (Array.getElem?_eq_some_iff.mp hj).1
      exact this
    obtain ⟨fa, fl, ft, ftn, hfi, hfa⟩ := fieldsDAt w (show (Mine.hd.heap_39 w.params).In g' from by k_asm) _ _ (List.getElem?_eq_getElem hjn)
    rw [hj] at hfi
    cases Option.some.inj hfi
    exact ⟨fa, _, _, _, _, rfl, hfa, rfl, List.getElem?_eq_getElem hjn⟩
  case d5 =>
    k_steps
    have h250 : g'.get? 271 = some { cls := .type "tuple", data := .seq #[.ref 263, .ref 264, .ref 265, .ref 266, .ref 267, .ref 268, .ref 269, .ref 270] } := by
      refine (show (Mine.hd.heap_39 w.params).In g' from by k_asm) 271 _ ?_
      k_is
    rename Fr g' L' _ _ => F5
    have h250' := F5.keep _ _ h250
    refine call_enum_tup (items := #[.ref 263, .ref 264, .ref 265, .ref 266, .ref 267, .ref 268, .ref 269, .ref 270]) h250' ?_
    intro h9 he hi hT hs9 hk9
    exact ⟨_, _, h9, _, rfl, rfl, he, hi, hT, Nat.le_succ _, Nat.le_refl _, Nat.succ_ne_self _, Heap.lt_size h250', hk9⟩
  case d6 =>
    intro D o kvs h' tk' F6 N6 l6 hdo hpl
    obtain ⟨ti, hti⟩ := placed_at nodupD hpl hi
    k_steps
    rename News g' L' _ _ => N8
    refine wpAny_getItem_of (strKind_is _ _ _ _) (kda_dict N8 (show (D, o) ∈ _ by k_mem) hdo).mapOf hti ?_
    have hi9 : i < 9 := by
      obtain ⟨h9, _⟩ := List.getElem?_eq_some_iff.mp hi
      exact Nat.lt_of_lt_of_le h9 (by decide)
    clear hti hpl hdo
    rename (∀ p ∈ news, p.1 < _) => lq
    have nq := ltN (lq _ hl)
    have nD := ltN (l6 _ (.tail _ hl))
    have hll : ls.length = row.length := by rw [← hls, List.length_map]
    have hfew := hr.few
    have hv' := valOf_handed hv
    repeat' ((fail_if_success (with_reducible show wpAny _ _ (PySem.call (Value.type "str") _) _ _ _)); first | walk1 | (k_unfold; (try dsimp only)))
    try dsimp only
    refine str_val hv ?_
    intro t9v k9v
    k_steps
    try dsimp only
    rename News g' L' _ _ => N9
    rename Fr g' L' _ _ => F9
    by_cases hlt : i < row.length
    · refine' ki_set (its := (strValues ls).toArray) (n := n) F9 N9 ?b1 ?b2 ?b3 (.tail ?b4 (.tail ?b5 (updF_upd U _))) ?_
      case b1 => omega
      case b2 => omega
      case b3 => exact set_strs (by omega)
      case b4 => k_ne
      case b5 => k_ne
      intro h5 F5 N5
      k_steps
      try dsimp only
      exact hret _ _ _ _ (by assumption) (news_drop (by assumption) (by intro p hp; exact .tail _ (.tail _ hp))) (.inl ⟨hlt, ⟨_, rfl⟩, _, rfl⟩)
    · refine set_out (items := (strValues ls).toArray) (n := n) rfl (N9 _ (show (l, _) ∈ _ from .tail _ (.tail _ hl))).1 (by omega) (by rw [List.size_toArray, strValues_len]; omega) (by omega) ?_
      intro h5 tk5 e5 hne
      k_steps
      try dsimp only
      exact hret _ _ _ _ (by assumption) (news_drop (by assumption) (by intro p hp; exact .tail _ (.tail _ hp))) (.inr ⟨by omega, ⟨_, rfl⟩, rfl⟩)

end Mine
end
section
open PySem PySem.W PyProof.Rows PySem.Calls Builtin Builtin.ObjectAttr
namespace Mine
set_option maxRecDepth 100000
set_option maxHeartbeats 8000000
local macro_rules | `(tactic| walk_at "getAttr ref") => `(tactic| (k_here; k_dflt (refine' hk_bound ?k1 ?k2 ?k3 ?k4 ?k5 ?kh ?k6 ?k7 ?k8 ?k9 ?k10 ?k11 ?k12 ?_; (case k4 => k_inst); (case k1 => k_asm); (case k2 => k_asm); (case k3 => k_asm); (case k5 => k_is); (case kh => k_is); (case k6 => k_is); (case k7 => k_is); (case k8 => k_is); (case k9 => k_is); (case k10 => k_is); (case k11 => decide +kernel); (case k12 => k_get); k_whole); intro q' h' F' N' l1; (try k_lt l1); (try k_sweep)))
local macro_rules | `(tactic| walk_at "getAttr ref") => `(tactic| (k_here; k_dflt (refine' hk_own ?k1 ?k2 ?k3 ?k4 ?k5 ?k6 ?k7 ?k8 ?k9 ?_; (case k1 => k_asm); (case k2 => k_asm); (case k3 => k_inst); (case k4 => k_is); (case k5 => k_is); (case k6 => k_is); (case k7 => k_is); (case k8 => k_get); (case k9 => k_handed); k_whole)))
local macro_rules | `(tactic| walk_at "getMethod ref") => `(tactic| (k_here; k_dflt (refine' hk_method ?k1 ?k2 ?k3 ?k4 ?k5 ?_; (case k1 => k_asm); (case k2 => k_asm); (case k3 => k_inst); (case k4 => k_is); (case k5 => k_is); k_whole)))
local macro_rules | `(tactic| ktr_enter) => `(tactic| (refine' code_def ?k1 ?k2 ?k3 ?k4 ?k5 ?kA ?kF ?kK ?k6 ?k7 ?k8 ?k9 ?kB ?_ ?c2 ?c3 ?c4 ?c5; (case kA => exact rfl); (case kF => exact rfl); (case kK => first | assumption | exact rfl); (case k1 => k_asm); (case k2 => k_asm); (case k3 => k_asm); (case k4 => k_asm); (case k5 => k_asm); (case k6 => k_is); (case k7 => k_is); (case k8 => ktr_room); (case k9 => first | exact BindsTo.of_eq rfl | exact binds_K (by k_in) rfl (by k_is) rfl rfl rfl); (case c5 => decide); (case kB => exact locs rfl); (case c2 => exact rfl); (case c3 => exact rfl); (case c4 => exact rfl); k_whole; intro g' L' h' FG' F' N' B' X' T'; (try dsimp only); (try k_lift B'); (try k_fold)))
local macro_rules | `(tactic| ktr_call $c:term 0) => `(tactic| (refine wpAny_call ?_; k_dflt (refine' ct_use $c ?k1 ?k2 ?k3 ?k4 ?k5 ?kK ?kd ?ku ?kp ?_; (case k1 => k_asm); (case k2 => k_asm); (case k3 => k_asm); (case k4 => k_asm); (case k5 => k_asm); (case kK => first | assumption | exact rfl); (case kd => ktr_room); (case ku => ktr_units))))
local macro_rules | `(tactic| ktr_call $c:term 1) => `(tactic| (refine' call_meth ?N ?q ?_; (case N => k_asm); (case q => k_mem); k_dflt (refine' ct_use $c ?k1 ?k2 ?k3 ?k4 ?k5 ?kK ?kd ?ku ?kp ?_; (case k1 => k_asm); (case k2 => k_asm); (case k3 => k_asm); (case k4 => k_asm); (case k5 => k_asm); (case kK => first | assumption | exact rfl); (case kd => ktr_room); (case ku => ktr_units))))
local macro_rules | `(tactic| k_mem) => `(tactic| first | assumption | exact List.mem_cons_self .. | (refine' List.mem_cons_of_mem _ ?_; k_mem))
local macro_rules | `(tactic| kst_same) => `(tactic| (intro z h1 h2 h3; (simp only [List.forall_mem_cons, List.not_mem_nil, false_implies, implies_true, and_true, ne_eq] at h2); (simp only [List.contains_cons, List.contains_nil, Bool.or_false, Bool.or_eq_false_iff, beq_eq_false_iff_ne, ne_eq] at h3); (simp [kstB, h1, h2, h3]; done)))
local macro_rules | `(tactic| kby_size) => `(tactic| (rw [PySem.sizeLine_eq]; omega))
local macro_rules | `(tactic| walk_at "call builtin:str.lstrip") => `(tactic| (k_here; (refine KXw.lstrip (by assumption) (by kby_size) ?_); intro _ _))
local macro_rules | `(tactic| walk_at "call builtin:str.strip") => `(tactic| (k_here; (refine KXw.strip (by assumption) (by kby_size) ?_); intro _ _))
local macro_rules | `(tactic| walk_at "call builtin:str.strip") => `(tactic| (k_here; (refine KXw.stripChars (by assumption) (by kby_size) ?_); intro _ _))
local macro_rules | `(tactic| walk_at "call builtin:str.upper") => `(tactic| (k_here; (refine KXw.upper (by assumption) (by decide +kernel) ?_); intro _ _))
local macro_rules | `(tactic| walk_at "call builtin:str.partition") => `(tactic| (k_here; (refine KXpa.partition (by k_asm) (by k_asm) (by decide) (by assumption) (by assumption) (by assumption) (by kby_size) ?_); intro D' _ _ _ _ _ F' N' l1; (try k_lt l1)))
local macro_rules | `(tactic| walk_at "call builtin:str.split") => `(tactic| (k_here; (refine KSpl.split1 (by k_asm) (by k_asm) (by decide) ?_ (by kby_size)); intro D' _ _ _ _ _ F' N' l1; (try k_lt l1)))
local macro_rules | `(tactic| walk_at "callWith ref") => `(tactic| (k_here; k_dflt (refine' callWith_M ?k1 ?k2 ?k3 ?k4 ?_; (case k1 => k_asm); (case k2 => k_asm); (case k3 => k_mem); (case k4 => k_is); k_whole)))
/-- a contract of a call that makes, and turns nothing (apart from the old) -/
abbrev CtO (w : World) (f : Addr) (k : Nat) (pre : Led → Prop) (vs : List Value) (post : Led → Led → Value → Prop) : Prop :=
  ∀ (mean : ExcName → Option Value) (mg mb : Str → Option Value) (dp un : Nat) (gd : Option (List Code)) (cn : Str) (cs : Scope) (a : Addr) (ccd : Value) (cl : List (Str × Addr)) (outer : List Env) (A₀ : Around) (base h₀ : Heap) (L : Addr) (m : Str → Option Value) (news : Led) (s : Shared) (Q E : Value → Shared → Prop),
  CallP w mean mg mb dp un cs outer A₀ base h₀ L m news s k (pre news →
    (∀ h' tk' new v, Fr h₀ L h' m → News h₀ L h' (new ++ news) → (∀ p ∈ new, ∀ q ∈ news, q.1 ≠ p.1) → post new news v → Q v { s with heap := h', toks := tk' }) →
    codeAny (model PG w) (ktrTop dp un gd cn cs L a ccd cl outer) (.call (.ref f) ⟨vs, []⟩) (fun r s' => match r with | .ok (.ret v) => Q v s' | .ok _ => False | .error e => E e s') s)
theorem cto_use {w : World} {f : Addr} {k : Nat} {pre : Led → Prop} {vs : List Value} {post : Led → Led → Value → Prop} (C : CtO w f k pre vs post)
    {mean : ExcName → Option Value} {mg mb : Str → Option Value} {dp un : Nat} {gd : Option (List Code)} {cn : Str} {cs : Scope} {a : Addr} {ccd : Value} {cl : List (Str × Addr)} {outer : List Env} {A₀ : Around} {base h₀ : Heap} {L : Addr} {m : Str → Option Value} {news : Led} {s : Shared} {Q E : Value → Shared → Prop}
    (B : Below A₀ base outer h₀) (F : Fr h₀ L s.heap m) (X : Frag.In (Mine.hd.heap_39 w.params) h₀) (N : News h₀ L s.heap news) (T : Top VW LO mean mg mb h₀) (hk : cs.kind = .function)
    (hd : dp + 4 * k < recursionLimit) (hu : un + 40 * k < cLine) (hp : pre news)
    (ret : ∀ h' tk' new v, Fr h₀ L h' m → News h₀ L h' (new ++ news) → (∀ p ∈ new, ∀ q ∈ news, q.1 ≠ p.1) → post new news v → Q v { s with heap := h', toks := tk' }) :
    codeAny (model PG w) (ktrTop dp un gd cn cs L a ccd cl outer) (.call (.ref f) ⟨vs, []⟩) (fun r s' => match r with | .ok (.ret v) => Q v s' | .ok _ => False | .error e => E e s') s :=
  C _ _ _ _ _ _ _ _ _ _ _ _ _ _ _ _ _ _ _ _ _ B F X N T hk hd hu hp ret
theorem off1_mem {D : Addr} : ∀ {news : Led}, LCg.Off1 D news → ∀ p ∈ news, p.1 ≠ D
  | [], _, _, h => nomatch h
  | _ :: _, x, p, h => by
    rcases List.mem_cons.mp h with rfl | h
    · exact x.1
    · exact off1_mem x.2 p h
theorem off_one {D : Addr} {o : Obj} {news : Led} (h : LCg.Off1 D news) : ∀ p ∈ [(D, o)], ∀ q ∈ news, q.1 ≠ p.1 := by
  intro p hp q hq
  rw [List.mem_singleton.mp hp]
  exact off1_mem h q hq
theorem t_barel (w : World) (M x1 x2 x3 : Addr) (n : Nat) (r1 r2 r3 : List Str) (hr1 : OkRow r1) (hr2 : OkRow r2) (hr3 : OkRow r3) : CtO w 341 8 (fun news => (M, listOf #[.ref x1, .ref x2, .ref x3] n) ∈ news ∧ HasMsg w.params news x1 253 "GP" "WPL" r1 ∧ HasMsg w.params news x2 274 "II" "DTM" r2 ∧ HasMsg w.params news x3 253 "GP" "WPL" r3) [.ref M]
    (fun new _ v => DatIn new v (.list [.str (bodyT "GPWPL," r1), .str (bodyT "IIDTM," r2), .str (bodyT "GPWPL," r3)])) := by
  refine fillit _ ?_
  k_fill
  show CtO _ _ _ _ _ _
  intro mean mg mb dp un gd cn cs a ccd cl outer A₀ base h₀ L m news s Q E B F X N T hk hd hu hpre hret
  obtain ⟨hM, m1, m2, m3⟩ := hpre
  have m1' := m1
  have m2' := m2
  have m3' := m3
  obtain ⟨l1, dx1, a1, b1, c1, d1, e1, ls1, n1, hx1, hdx1, hl1, hls1⟩ := m1'
  obtain ⟨l2, dx2, a2, b2, c2, d2, e2, ls2, n2, hx2, hdx2, hl2, hls2⟩ := m2'
  obtain ⟨l3, dx3, a3, b3, c3, d3, e3, ls3, n3, hx3, hdx3, hl3, hls3⟩ := m3'
  unfold msgDict at hdx1 hdx2 hdx3
  k_dflt ktr_enter
  repeat' ((fail_if_success (with_reducible show wpAny _ _ (PySem.call (Value.ref _) _) _ _ _)); first | walk1 | (k_unfold; (try dsimp only)))
  try dsimp only
  ktr_call (h_bareW w x1 r1 hr1) 1
  · exact HasMsg.mono m1 (by intro p hp; repeat (first | exact hp | refine List.mem_cons_of_mem _ ?_))
  intro h9 tk9 nw9 v9 F9 N9 _ ⟨e1, kk9, e2⟩
  subst e1 e2
  simp only [List.nil_append] at N9
  try dsimp only
  k_steps
  try dsimp only
  refine LCg.CompEnd.intro (by assumption) (by assumption) news ?sub ?off ?src ?_
  case sub => intro p hp; repeat (first | exact hp | refine List.mem_cons_of_mem _ ?_)
  case off => assumption
  case src => exact Or.inr ⟨_, hM, rfl, _, rfl⟩
  repeat' ((fail_if_success (with_reducible show wpAny _ _ (PySem.call (Value.ref _) _) _ _ _)); first | walk1 | (k_unfold; (try dsimp only)))
  try dsimp only
  ktr_call (h_bareD w x2 r2 hr2) 1
  · exact HasMsg.mono m2 (by intro p hp; repeat (first | exact hp | refine List.mem_cons_of_mem _ ?_))
  intro h9 tk9 nw9 v9 F9 N9 _ ⟨e1, kk9, e2⟩
  subst e1 e2
  simp only [List.nil_append] at N9
  try dsimp only
  k_steps
  try dsimp only
  refine LCg.CompEnd.intro (by assumption) (by assumption) news ?sub ?off ?src ?_
  case sub => intro p hp; repeat (first | exact hp | refine List.mem_cons_of_mem _ ?_)
  case off => assumption
  case src => exact Or.inr ⟨_, hM, rfl, _, rfl⟩
  repeat' ((fail_if_success (with_reducible show wpAny _ _ (PySem.call (Value.ref _) _) _ _ _)); first | walk1 | (k_unfold; (try dsimp only)))
  try dsimp only
  ktr_call (h_bareW w x3 r3 hr3) 1
  · exact HasMsg.mono m3 (by intro p hp; repeat (first | exact hp | refine List.mem_cons_of_mem _ ?_))
  intro h9 tk9 nw9 v9 F9 N9 _ ⟨e1, kk9, e2⟩
  subst e1 e2
  simp only [List.nil_append] at N9
  try dsimp only
  k_steps
  try dsimp only
  refine LCg.CompEnd.intro (by assumption) (by assumption) news ?sub ?off ?src ?_
  case sub => intro p hp; repeat (first | exact hp | refine List.mem_cons_of_mem _ ?_)
  case off => assumption
  case src => exact Or.inr ⟨_, hM, rfl, _, rfl⟩
  k_steps
  try dsimp only
  rename LCg.Off1 _ news => oD
  exact hret _ _ [_] _ (by assumption) (by assumption) (off_one oD) (.list (List.mem_cons_self ..) (.cons (.str _ _) (.cons (.str _ _) (.cons (.str _ _) .nil))))

end Mine
end
section
open PySem PySem.W PyProof.Rows PySem.Calls Builtin Builtin.ObjectAttr
namespace Mine
set_option maxRecDepth 100000
set_option maxHeartbeats 8000000
local macro_rules | `(tactic| walk_at "getAttr ref") => `(tactic| (k_here; k_dflt (refine' hk_bound ?k1 ?k2 ?k3 ?k4 ?k5 ?kh ?k6 ?k7 ?k8 ?k9 ?k10 ?k11 ?k12 ?_; (case k4 => k_inst); (case k1 => k_asm); (case k2 => k_asm); (case k3 => k_asm); (case k5 => k_is); (case kh => k_is); (case k6 => k_is); (case k7 => k_is); (case k8 => k_is); (case k9 => k_is); (case k10 => k_is); (case k11 => decide +kernel); (case k12 => k_get); k_whole); intro q' h' F' N' l1; (try k_lt l1); (try k_sweep)))
local macro_rules | `(tactic| walk_at "getAttr ref") => `(tactic| (k_here; k_dflt (refine' hk_own ?k1 ?k2 ?k3 ?k4 ?k5 ?k6 ?k7 ?k8 ?k9 ?_; (case k1 => k_asm); (case k2 => k_asm); (case k3 => k_inst); (case k4 => k_is); (case k5 => k_is); (case k6 => k_is); (case k7 => k_is); (case k8 => k_get); (case k9 => k_handed); k_whole)))
local macro_rules | `(tactic| walk_at "getMethod ref") => `(tactic| (k_here; k_dflt (refine' hk_method ?k1 ?k2 ?k3 ?k4 ?k5 ?_; (case k1 => k_asm); (case k2 => k_asm); (case k3 => k_inst); (case k4 => k_is); (case k5 => k_is); k_whole)))
local macro_rules | `(tactic| ktr_enter) => `(tactic| (refine' code_def ?k1 ?k2 ?k3 ?k4 ?k5 ?kA ?kF ?kK ?k6 ?k7 ?k8 ?k9 ?kB ?_ ?c2 ?c3 ?c4 ?c5; (case kA => exact rfl); (case kF => exact rfl); (case kK => first | assumption | exact rfl); (case k1 => k_asm); (case k2 => k_asm); (case k3 => k_asm); (case k4 => k_asm); (case k5 => k_asm); (case k6 => k_is); (case k7 => k_is); (case k8 => ktr_room); (case k9 => first | exact BindsTo.of_eq rfl | exact binds_K (by k_in) rfl (by k_is) rfl rfl rfl); (case c5 => decide); (case kB => exact locs rfl); (case c2 => exact rfl); (case c3 => exact rfl); (case c4 => exact rfl); k_whole; intro g' L' h' FG' F' N' B' X' T'; (try dsimp only); (try k_lift B'); (try k_fold)))
local macro_rules | `(tactic| ktr_call $c:term 0) => `(tactic| (refine wpAny_call ?_; k_dflt (refine' ct_use $c ?k1 ?k2 ?k3 ?k4 ?k5 ?kK ?kd ?ku ?kp ?_; (case k1 => k_asm); (case k2 => k_asm); (case k3 => k_asm); (case k4 => k_asm); (case k5 => k_asm); (case kK => first | assumption | exact rfl); (case kd => ktr_room); (case ku => ktr_units))))
local macro_rules | `(tactic| ktr_call $c:term 1) => `(tactic| (refine' call_meth ?N ?q ?_; (case N => k_asm); (case q => k_mem); k_dflt (refine' ct_use $c ?k1 ?k2 ?k3 ?k4 ?k5 ?kK ?kd ?ku ?kp ?_; (case k1 => k_asm); (case k2 => k_asm); (case k3 => k_asm); (case k4 => k_asm); (case k5 => k_asm); (case kK => first | assumption | exact rfl); (case kd => ktr_room); (case ku => ktr_units))))
local macro_rules | `(tactic| k_mem) => `(tactic| first | assumption | exact List.mem_cons_self .. | (refine' List.mem_cons_of_mem _ ?_; k_mem))
local macro_rules | `(tactic| kst_same) => `(tactic| (intro z h1 h2 h3; (simp only [List.forall_mem_cons, List.not_mem_nil, false_implies, implies_true, and_true, ne_eq] at h2); (simp only [List.contains_cons, List.contains_nil, Bool.or_false, Bool.or_eq_false_iff, beq_eq_false_iff_ne, ne_eq] at h3); (simp [kstB, h1, h2, h3]; done)))
local macro_rules | `(tactic| kby_size) => `(tactic| (rw [PySem.sizeLine_eq]; omega))
local macro_rules | `(tactic| walk_at "call builtin:str.lstrip") => `(tactic| (k_here; (refine KXw.lstrip (by assumption) (by kby_size) ?_); intro _ _))
local macro_rules | `(tactic| walk_at "call builtin:str.strip") => `(tactic| (k_here; (refine KXw.strip (by assumption) (by kby_size) ?_); intro _ _))
local macro_rules | `(tactic| walk_at "call builtin:str.strip") => `(tactic| (k_here; (refine KXw.stripChars (by assumption) (by kby_size) ?_); intro _ _))
local macro_rules | `(tactic| walk_at "call builtin:str.upper") => `(tactic| (k_here; (refine KXw.upper (by assumption) (by decide +kernel) ?_); intro _ _))
local macro_rules | `(tactic| walk_at "call builtin:str.partition") => `(tactic| (k_here; (refine KXpa.partition (by k_asm) (by k_asm) (by decide) (by assumption) (by assumption) (by assumption) (by kby_size) ?_); intro D' _ _ _ _ _ F' N' l1; (try k_lt l1)))
local macro_rules | `(tactic| walk_at "call builtin:str.split") => `(tactic| (k_here; (refine KSpl.split1 (by k_asm) (by k_asm) (by decide) ?_ (by kby_size)); intro D' _ _ _ _ _ F' N' l1; (try k_lt l1)))
section
variable {prog : Program} {w : World} {A : Around} {E : Value → Shared → Prop} {s : Shared} {env : Env} {h₀ : Heap} {L : Addr} {m : Str → Option Value}
/-- the entries of the iterator's own objects -/
theorem own_led {h : Heap} : ∀ (own : List Addr), (∀ b ∈ own, ∃ o, h.get? b = some o) → ∃ ow : Led, ow.map (·.1) = own ∧ ∀ p ∈ ow, h.get? p.1 = some p.2
  | [], _ => ⟨[], rfl, fun _ h => nomatch h⟩
  | b :: r, hb => by
    obtain ⟨o, ho⟩ := hb b (.head _)
    obtain ⟨ow, h1, h2⟩ := own_led r fun c hc => hb c (.tail _ hc)
    refine ⟨(b, o) :: ow, by rw [List.map_cons, h1], fun p hp => ?_⟩
    rcases List.mem_cons.mp hp with rfl | hp
    · exact ho
    · exact h2 p hp
/-- a list's comprehension over pairs that an iterator hands out -/
theorem pair_comp {elt iter : PySem.Expr} {x x₂ : Str} {px px₂ tp : Pos} {tk} {scope : Scope} {cl : List (Str × Addr)} {pos : Pos} {s₂ : Shared} {I : Addr} {fp wr own : List Addr} {n : Nat} {Pt : Nat → Array Value → Prop} {St : Nat → Heap → Prop} {Mid : Nat → Addr → Heap → Prop} {news : Led} {J : Nat → List Value → Led → Prop} {Q : Value → Shared → Prop}
    (hh : A.handled = none) (hcell : ∀ y ∈ scope.names, y.2 ≠ .cell) (hkind : scope.kind = .function) (hx : scope.names.lookup x = some .local) (hx₂ : scope.names.lookup x₂ = some .local) (hxx : x ≠ x₂)
    (W : WalksU prog w A I fp wr n Pt St Mid) (hsz : n ≤ sizeLine) (hst : St 0 s₂.heap) (F : Fr h₀ L s₂.heap m) (N : News h₀ L s₂.heap news)
    (hown : ∀ b ∈ own, b < s₂.heap.objs.size ∧ h₀.get? b = none ∧ b ≠ L ∧ ∀ p ∈ news, p.1 ≠ b) (hwr : ∀ b ∈ wr, b ∈ own) (hlive : ∀ i h, St i h → ∀ b ∈ own, ∃ o, h.get? b = some o)
    (hfp : ∀ b ∈ fp, b ∈ own ∨ (∃ o, h₀.get? b = some o) ∨ ∃ o, ∀ i ys nx, J i ys nx → (b, o) ∈ nx) (hJ : J 0 [] news) (hon : ∀ i ys nx, J i ys nx → ∀ p ∈ nx, p.1 ∉ own)
    (turn : ∀ i vals, i < n → Pt i vals → ∃ v1 v2, vals = #[v1, v2] ∧ ∀ ys nx C oC D ow h tk' m₂ (E' : Value → Shared → Prop), ow.map (·.1) = own → LCg.NsObj oC m₂ → m₂ x = some v1 → m₂ x₂ = some v2 → Fr h₀ L h m → News h₀ L h ((C, oC) :: (D, LCg.lst ys) :: (ow ++ nx)) →
      (∀ p ∈ nx, p.1 ≠ C ∧ p.1 ≠ D) → C ≠ D → J i ys nx →
      wpAny (model prog w) A (eval elt (compEnvC scope cl C env)) (fun y s' => ∃ h' tk'' nx', s' = { s₂ with heap := h', toks := tk'' } ∧ Fr h₀ L h' m ∧ News h₀ L h' ((C, oC) :: (D, LCg.lst ys) :: (ow ++ nx')) ∧ (∀ p ∈ nx', p.1 ≠ C ∧ p.1 ≠ D) ∧ J (i + 1) (ys ++ [y]) nx') E' { s₂ with heap := h, toks := tk' })
    (done : ∀ ys nx D h tk', J n ys nx → Fr h₀ L h m → News h₀ L h ((D, LCg.lst ys) :: nx) → (∀ p ∈ nx, p.1 ≠ D) → Q (.ref D) { s₂ with heap := h, toks := tk' }) :
    wpAny (model prog w) A (newList []) (fun acc s₃ => wpAny (model prog w) A (newFunctionEnv scope env.globals cl [] env.qual none .none (some env)) (fun cenv s₄ =>
      codeAny (model prog w) A (.compStart (.ListComp elt [⟨.Tuple [.Name x px, .Name x₂ px₂] tk tp, iter, [], 0⟩] scope pos) 0 (.ref I) acc { cenv with scope := relabel scope env }) (compPost (model prog w) A E none Q acc cenv.locals) s₄) E s₃) E s₂ := by
  refine wpAny_newObj_type (wpAny_newFunctionEnv hcell (by intro y hy; simp at hy) (fun h₂ hns₂ hsb₂ => ?_) hkind)
  dsimp only at hns₂ hsb₂ ⊢
  generalize hHg : s₂.heap.push { cls := .type "list", dict := none, data := .seq ([] : List Value).toArray } = H at hns₂ hsb₂ ⊢
  have hHs : H.objs.size = s₂.heap.objs.size + 1 := by rw [← hHg, Heap.size_push]
  have hDC : s₂.heap.objs.size ≠ H.objs.size := by rw [hHs]; exact Nat.ne_of_lt (Nat.lt_succ_self _)
  have offC : ∀ b, b < s₂.heap.objs.size → b ≠ H.objs.size := fun b e => Nat.ne_of_lt (by rw [hHs]; exact Nat.lt_succ_of_lt e)
  have up : ∀ b o, s₂.heap.get? b = some o → h₂.get? b = some o := fun b o e => hsb₂.extBut b o (offC b (Heap.lt_size e)) (Heap.get?_push_of_some _ (hHg ▸ Heap.get?_push_of_some _ e))
  have hacc : h₂.get? s₂.heap.objs.size = some (LCg.lst []) := hsb₂.extBut _ _ hDC (Heap.get?_push_of_some _ (hHg ▸ Heap.get?_push_size _ rfl))
  have fresh₀ : ∀ a, s₂.heap.objs.size ≤ a → h₀.get? a = none := fun a ha => by
    cases e : h₀.get? a with
    | none => rfl
    | some o' => exact absurd (Heap.lt_size (F.keep _ _ e)) (Nat.not_lt.mpr ha)
  have hD₀ := fresh₀ _ (Nat.le_refl s₂.heap.objs.size)
  have hC₀ : h₀.get? H.objs.size = none := fresh₀ _ (by rw [hHs]; exact Nat.le_succ _)
  have hLlt : L < s₂.heap.objs.size := F.ns.lt
  have hDL : s₂.heap.objs.size ≠ L := Ne.symm (Nat.ne_of_lt hLlt)
  have hCL : H.objs.size ≠ L := Ne.symm (offC L hLlt)
  have hoD : ∀ b ∈ own, b ≠ s₂.heap.objs.size := fun b hb => Nat.ne_of_lt (hown b hb).1
  have hoC : ∀ b ∈ own, b ≠ H.objs.size := fun b hb => offC b (hown b hb).1
  have hLw : L ∉ wr := fun q => (hown _ (hwr _ q)).2.2.1 rfl
  have hDw : s₂.heap.objs.size ∉ wr := fun q => hoD _ (hwr _ q) rfl
  have hCw : H.objs.size ∉ wr := fun q => hoC _ (hwr _ q) rfl
  have hzw : ∀ b o, h₀.get? b = some o → b ∉ wr := fun b o e q => by have := (hown _ (hwr _ q)).2.1; rw [e] at this; cases this
  have hst₂ : St 0 h₂ := W.frame _ _ _ hst fun b _ o e => up b o e
  have frOf : ∀ {h h' : Heap}, Fr h₀ L h m → (∀ b o, b ∉ wr → h.get? b = some o → h'.get? b = some o) → Fr h₀ L h' m := fun F' hk => ⟨F'.ns.at' fun o e => hk _ o hLw e, fun b o e => hk b o (hzw b o e) (F'.keep b o e), F'.above⟩
  have loop : ∀ s₃ : Shared, s₃ = { s₂ with heap := h₂, toks := s₂.toks + ([] : List (Str × Value)).length } →
      codeAny (model prog w) A (.compLoop (.ListComp elt [⟨.Tuple [.Name x px, .Name x₂ px₂] tk tp, iter, [], 0⟩] scope pos) 0 (.ref I) (.ref s₂.heap.objs.size) (compEnvC scope cl H.objs.size env))
        (compPost (model prog w) A E none Q (.ref s₂.heap.objs.size) H.objs.size) s₃ := by
    rintro s₃ rfl
    refine LCp.codeAny_compLoop_pair (fun k s' => ∃ h' tk' i ys nx m', s' = { s₂ with heap := h', toks := tk' } ∧ i ≤ n ∧ k = n + 1 - i ∧ ys.length = i ∧ St i h' ∧ Fr h₀ L h' m ∧ h'.Ns H.objs.size m' ∧ News h₀ L h' ((s₂.heap.objs.size, LCg.lst ys) :: nx) ∧
      (∀ p ∈ nx, p.1 ≠ H.objs.size ∧ p.1 ≠ s₂.heap.objs.size) ∧ J i ys nx) ?_ (n + 1)
      ⟨h₂, _, 0, [], news, _, rfl, Nat.zero_le _, rfl, rfl, hst₂, fr_ext F up, hns₂, fun p hp => ?_, fun p hp => ⟨offC _ (Heap.lt_size (N p hp).1), Nat.ne_of_lt (Heap.lt_size (N p hp).1)⟩, hJ⟩
    · rintro k s' ⟨h', tk', i, ys, nx, m', rfl, hile, rfl, hyl, hst', F', hn', N', off', hJ'⟩
      by_cases hlt : i < n
      · refine W.item i _ _ _ hlt hst' fun T' vals h₃ tk₃ hP hTup hMid hk₃ => ?_
        obtain ⟨v1, v2, rfl, body⟩ := turn i vals hlt hP
        have hTw := W.apart _ _ _ hMid
        refine W.go _ _ _ i T' _ _ _ hMid fun h₄ hst₄ hk₄ => ?_
        have hT₄ : IsTup h₄ T' #[v1, v2] := by
          obtain ⟨o, ho, r⟩ := hTup
          exact ⟨o, hk₄ _ _ hTw ho, r⟩
        refine assign_Tuple_tuple hh hT₄ rfl rfl fun h₅ he₅ => ?_
        have up₅ : ∀ b o, b ∉ wr → h'.get? b = some o → h₅.get? b = some o := fun b o hb q => by
          have q₄ := hk₄ b o hb (hk₃ b o hb q)
          exact he₅ b o (Nat.ne_of_lt (Heap.lt_size q₄)) q₄
        have hst₅ : St (i + 1) h₅ := W.frame _ _ _ hst₄ fun b _ o q => he₅ b o (Nat.ne_of_lt (Heap.lt_size q)) q
        have hn₅ : h₅.Ns H.objs.size m' := hn'.at' fun o q => up₅ _ o hCw q
        refine assignInOrder_cons (wpAny_assign_Name (wpAny_storeName_local (lookup_relabel_local hx) hn₅ (fun h₆ hn₆ hs₆ => ?_) (by simp [compEnvC, relabel, hkind])))
        refine assignInOrder_cons (wpAny_assign_Name (wpAny_storeName_local (lookup_relabel_local hx₂) hn₆ (fun h₇ hn₇ hs₇ => ?_) (by simp [compEnvC, relabel, hkind])))
        refine assignInOrder_nil ?_
        have up₇ : ∀ b o, b ≠ H.objs.size → h₅.get? b = some o → h₇.get? b = some o := fun b o hb q => hs₇.extBut b o hb (hs₆.extBut b o hb q)
        have hst₇ : St (i + 1) h₇ := W.frame _ _ _ hst₅ fun b hb o q => up₇ b o (by
          rcases hfp b hb with h | ⟨o, h⟩ | ⟨o, h⟩
          · exact hoC b h
          · rintro rfl; rw [hC₀] at h; cases h
          · exact (off' _ (h i ys nx hJ')).1) q
        obtain ⟨ow, how1, how2⟩ := own_led own (hlive _ _ hst₇)
        obtain ⟨oC, heC, hnC⟩ := LCg.ns_obj hn₇
        have F₇ : Fr h₀ L h₇ m := ((frOf F' up₅).change hs₆ hCL hC₀).change hs₇ hCL hC₀
        have hmo : ∀ p ∈ ow, p.1 ∈ own := fun p hp => how1 ▸ List.mem_map_of_mem hp
        have N₇ : News h₀ L h₇ ((H.objs.size, oC) :: (s₂.heap.objs.size, LCg.lst ys) :: (ow ++ nx)) := by
          intro p hp
          rcases List.mem_cons.mp hp with rfl | hp
          · exact ⟨heC, hCL, hC₀⟩
          rcases List.mem_cons.mp hp with rfl | hp
          · have z := N' _ (List.mem_cons_self ..)
            exact ⟨up₇ _ _ hDC (up₅ _ _ hDw z.1), z.2⟩
          rcases List.mem_append.mp hp with hp | hp
          · have z := hown _ (hmo p hp)
            exact ⟨how2 p hp, z.2.2.1, z.2.1⟩
          · have z := N' _ (.tail _ hp)
            exact ⟨up₇ _ _ (off' p hp).1 (up₅ _ _ (fun q => hon i ys nx hJ' p hp (hwr _ q)) z.1), z.2⟩
        refine wpAny_mono (body ys nx H.objs.size oC s₂.heap.objs.size ow h₇ _ _ _ how1 hnC (by simp [hxx]) (by simp) F₇ N₇ off' (Ne.symm hDC) hJ') (fun y s' h8 => ?_) fun _ _ e => e
        obtain ⟨h₈, tk₈, nx', rfl, F₈, N₈, off₈, J₈⟩ := h8
        have zC := (N₈ _ (List.mem_cons_self ..)).1
        have zD := (N₈ _ (.tail _ (List.mem_cons_self ..))).1
        have hst₈ : St (i + 1) h₈ := W.frame _ _ _ hst₇ fun b hb o q => by
          rcases hfp b hb with h | ⟨o', h⟩ | ⟨o', h⟩
          · rw [← how1] at h
            obtain ⟨p, hp, rfl⟩ := List.mem_map.mp h
            have e1 := how2 p hp
            rw [q] at e1
            rw [e1]
            exact (N₈ p (.tail _ (.tail _ (List.mem_append_left _ hp)))).1
          · have e1 := F₇.keep _ _ h
            rw [q] at e1
            rw [e1]
            exact F₈.keep _ _ h
          · have e1 := (N₇ (b, o') (.tail _ (.tail _ (List.mem_append_right _ (h i ys nx hJ'))))).1
            rw [q] at e1
            rw [e1]
            exact (N₈ (b, o') (.tail _ (.tail _ (List.mem_append_right _ (h _ _ _ J₈))))).1
        refine append_at (hsz := by show ys.toArray.size ≤ sizeLine; rw [List.size_toArray, hyl]; exact Nat.le_trans hile hsz) zD fun h₉ hs₉ hD₉ => ?_
        refine ⟨n + 1 - (i + 1), by omega, h₉, _, i + 1, ys ++ [y], nx', _, rfl, hlt, rfl, by rw [List.length_append, List.length_singleton, hyl], W.frame _ _ _ hst₈ fun b hb o q => hs₉.extBut b o ?_ q, F₈.change hs₉ hDL hD₀, (hnC.ns zC).sameBut hs₉ (Ne.symm hDC), fun p hp => ?_, off₈, J₈⟩
        · rcases hfp b hb with h | ⟨o', h⟩ | ⟨o', h⟩
          · exact hoD b h
          · rintro rfl; rw [hD₀] at h; cases h
          · exact (off₈ _ (h _ _ _ J₈)).2
        · rcases List.mem_cons.mp hp with rfl | hp
          · exact ⟨hD₉.trans (congrArg some (LCg.lst_snoc ys y)), hDL, hD₀⟩
          · have z := N₈ p (.tail _ (.tail _ (List.mem_append_right _ hp)))
            exact ⟨hs₉.extBut _ _ (off₈ p hp).2 z.1, z.2⟩
      · obtain rfl : i = n := Nat.le_antisymm hile (Nat.not_lt.mp hlt)
        refine W.done _ _ _ hst' fun h₃ tk₃ hk₃ => ?_
        refine ⟨_, hn'.at' fun o q => hk₃ _ o hCw q, fun h₄ hs₄ => ?_⟩
        refine done ys nx s₂.heap.objs.size h₄ tk₃ hJ' ((frOf F' hk₃).change hs₄ hCL hC₀) (fun p hp => ?_) fun p hp => (off' p hp).2
        have z := N' p hp
        refine ⟨hs₄.extBut _ _ ?_ (hk₃ _ _ ?_ z.1), z.2⟩
        · rcases List.mem_cons.mp hp with rfl | hp
          · exact hDC
          · exact (off' p hp).1
        · rcases List.mem_cons.mp hp with rfl | hp
          · exact hDw
          · exact fun q => hon _ ys nx hJ' p hp (hwr _ q)
    · rcases List.mem_cons.mp hp with rfl | hp
      · exact ⟨hacc, hDL, hD₀⟩
      · exact ⟨up _ _ (N p hp).1, (N p hp).2⟩
  exact codeAny_compStart_list (loop _ rfl) (W.self 0 _ _ _ hst₂ (loop _ rfl))
end

end Mine
end
section
open PySem PySem.W PyProof.Rows PySem.Calls Builtin Builtin.ObjectAttr
namespace Mine
set_option maxRecDepth 100000
set_option maxHeartbeats 8000000
local macro_rules | `(tactic| walk_at "getAttr ref") => `(tactic| (k_here; k_dflt (refine' hk_bound ?k1 ?k2 ?k3 ?k4 ?k5 ?kh ?k6 ?k7 ?k8 ?k9 ?k10 ?k11 ?k12 ?_; (case k4 => k_inst); (case k1 => k_asm); (case k2 => k_asm); (case k3 => k_asm); (case k5 => k_is); (case kh => k_is); (case k6 => k_is); (case k7 => k_is); (case k8 => k_is); (case k9 => k_is); (case k10 => k_is); (case k11 => decide +kernel); (case k12 => k_get); k_whole); intro q' h' F' N' l1; (try k_lt l1); (try k_sweep)))
local macro_rules | `(tactic| walk_at "getAttr ref") => `(tactic| (k_here; k_dflt (refine' hk_own ?k1 ?k2 ?k3 ?k4 ?k5 ?k6 ?k7 ?k8 ?k9 ?_; (case k1 => k_asm); (case k2 => k_asm); (case k3 => k_inst); (case k4 => k_is); (case k5 => k_is); (case k6 => k_is); (case k7 => k_is); (case k8 => k_get); (case k9 => k_handed); k_whole)))
local macro_rules | `(tactic| walk_at "getMethod ref") => `(tactic| (k_here; k_dflt (refine' hk_method ?k1 ?k2 ?k3 ?k4 ?k5 ?_; (case k1 => k_asm); (case k2 => k_asm); (case k3 => k_inst); (case k4 => k_is); (case k5 => k_is); k_whole)))
local macro_rules | `(tactic| ktr_enter) => `(tactic| (refine' code_def ?k1 ?k2 ?k3 ?k4 ?k5 ?kA ?kF ?kK ?k6 ?k7 ?k8 ?k9 ?kB ?_ ?c2 ?c3 ?c4 ?c5; (case kA => exact rfl); (case kF => exact rfl); (case kK => first | assumption | exact rfl); (case k1 => k_asm); (case k2 => k_asm); (case k3 => k_asm); (case k4 => k_asm); (case k5 => k_asm); (case k6 => k_is); (case k7 => k_is); (case k8 => ktr_room); (case k9 => first | exact BindsTo.of_eq rfl | exact binds_K (by k_in) rfl (by k_is) rfl rfl rfl); (case c5 => decide); (case kB => exact locs rfl); (case c2 => exact rfl); (case c3 => exact rfl); (case c4 => exact rfl); k_whole; intro g' L' h' FG' F' N' B' X' T'; (try dsimp only); (try k_lift B'); (try k_fold)))
local macro_rules | `(tactic| ktr_call $c:term 0) => `(tactic| (refine wpAny_call ?_; k_dflt (refine' ct_use $c ?k1 ?k2 ?k3 ?k4 ?k5 ?kK ?kd ?ku ?kp ?_; (case k1 => k_asm); (case k2 => k_asm); (case k3 => k_asm); (case k4 => k_asm); (case k5 => k_asm); (case kK => first | assumption | exact rfl); (case kd => ktr_room); (case ku => ktr_units))))
local macro_rules | `(tactic| ktr_call $c:term 1) => `(tactic| (refine' call_meth ?N ?q ?_; (case N => k_asm); (case q => k_mem); k_dflt (refine' ct_use $c ?k1 ?k2 ?k3 ?k4 ?k5 ?kK ?kd ?ku ?kp ?_; (case k1 => k_asm); (case k2 => k_asm); (case k3 => k_asm); (case k4 => k_asm); (case k5 => k_asm); (case kK => first | assumption | exact rfl); (case kd => ktr_room); (case ku => ktr_units))))
local macro_rules | `(tactic| k_mem) => `(tactic| first | assumption | exact List.mem_cons_self .. | (refine' List.mem_cons_of_mem _ ?_; k_mem))
local macro_rules | `(tactic| kst_same) => `(tactic| (intro z h1 h2 h3; (simp only [List.forall_mem_cons, List.not_mem_nil, false_implies, implies_true, and_true, ne_eq] at h2); (simp only [List.contains_cons, List.contains_nil, Bool.or_false, Bool.or_eq_false_iff, beq_eq_false_iff_ne, ne_eq] at h3); (simp [kstB, h1, h2, h3]; done)))
local macro_rules | `(tactic| kby_size) => `(tactic| (rw [PySem.sizeLine_eq]; omega))
local macro_rules | `(tactic| walk_at "call builtin:str.lstrip") => `(tactic| (k_here; (refine KXw.lstrip (by assumption) (by kby_size) ?_); intro _ _))
local macro_rules | `(tactic| walk_at "call builtin:str.strip") => `(tactic| (k_here; (refine KXw.strip (by assumption) (by kby_size) ?_); intro _ _))
local macro_rules | `(tactic| walk_at "call builtin:str.strip") => `(tactic| (k_here; (refine KXw.stripChars (by assumption) (by kby_size) ?_); intro _ _))
local macro_rules | `(tactic| walk_at "call builtin:str.upper") => `(tactic| (k_here; (refine KXw.upper (by assumption) (by decide +kernel) ?_); intro _ _))
local macro_rules | `(tactic| walk_at "call builtin:str.partition") => `(tactic| (k_here; (refine KXpa.partition (by k_asm) (by k_asm) (by decide) (by assumption) (by assumption) (by assumption) (by kby_size) ?_); intro D' _ _ _ _ _ F' N' l1; (try k_lt l1)))
local macro_rules | `(tactic| walk_at "call builtin:str.split") => `(tactic| (k_here; (refine KSpl.split1 (by k_asm) (by k_asm) (by decide) ?_ (by kby_size)); intro D' _ _ _ _ _ F' N' l1; (try k_lt l1)))
section
variable {prog : Program} {w : World} {A : Around} {E : Value → Shared → Prop} {s : Shared} {env : Env} {h₀ : Heap} {L : Addr} {m : Str → Option Value}
/-- what an iterator of pairs must bring for pair_comp -/
def PairSrc (prog : Program) (w : World) (A : Around) (h₀ : Heap) (L : Addr) (m : Str → Option Value) (env : Env) (elt : PySem.Expr) (x x₂ : Str) (scope : Scope) (cl : List (Str × Addr)) (Q : Value → Shared → Prop) (xv : Value) (s₂ : Shared) : Prop :=
  ∃ (I : Addr) (fp wr own : List Addr) (n : Nat) (Pt : Nat → Array Value → Prop) (St : Nat → Heap → Prop) (Mid : Nat → Addr → Heap → Prop) (news : Led) (J : Nat → List Value → Led → Prop), xv = .ref I ∧
    WalksU prog w A I fp wr n Pt St Mid ∧ n ≤ sizeLine ∧ St 0 s₂.heap ∧ Fr h₀ L s₂.heap m ∧ News h₀ L s₂.heap news ∧
    (∀ b ∈ own, b < s₂.heap.objs.size ∧ h₀.get? b = none ∧ b ≠ L ∧ ∀ p ∈ news, p.1 ≠ b) ∧ (∀ b ∈ wr, b ∈ own) ∧ (∀ i h, St i h → ∀ b ∈ own, ∃ o, h.get? b = some o) ∧
    (∀ b ∈ fp, b ∈ own ∨ (∃ o, h₀.get? b = some o) ∨ ∃ o, ∀ i ys nx, J i ys nx → (b, o) ∈ nx) ∧ J 0 [] news ∧ (∀ i ys nx, J i ys nx → ∀ p ∈ nx, p.1 ∉ own) ∧
    (∀ i vals, i < n → Pt i vals → ∃ v1 v2, vals = #[v1, v2] ∧ ∀ ys nx C oC D ow h tk' m₂ (E' : Value → Shared → Prop), ow.map (·.1) = own → LCg.NsObj oC m₂ → m₂ x = some v1 → m₂ x₂ = some v2 → Fr h₀ L h m → News h₀ L h ((C, oC) :: (D, LCg.lst ys) :: (ow ++ nx)) →
      (∀ p ∈ nx, p.1 ≠ C ∧ p.1 ≠ D) → C ≠ D → J i ys nx →
      wpAny (model prog w) A (eval elt (compEnvC scope cl C env)) (fun y s' => ∃ h' tk'' nx', s' = { s₂ with heap := h', toks := tk'' } ∧ Fr h₀ L h' m ∧ News h₀ L h' ((C, oC) :: (D, LCg.lst ys) :: (ow ++ nx')) ∧ (∀ p ∈ nx', p.1 ≠ C ∧ p.1 ≠ D) ∧ J (i + 1) (ys ++ [y]) nx') E' { s₂ with heap := h, toks := tk' }) ∧
    (∀ ys nx D h tk', J n ys nx → Fr h₀ L h m → News h₀ L h ((D, LCg.lst ys) :: nx) → (∀ p ∈ nx, p.1 ≠ D) → Q (.ref D) { s₂ with heap := h, toks := tk' })
theorem pair_listcomp {elt iter : PySem.Expr} {x x₂ : Str} {px px₂ tp : Pos} {tk} {scope : Scope} {cl : List (Str × Addr)} {pos : Pos} {Q : Value → Shared → Prop} (_F₀ : Fr h₀ L s.heap m) (hh : A.handled = none)
    (hclos : closureFor scope env = pure cl) (hcell : ∀ y ∈ scope.names, y.2 ≠ .cell) (hkind : scope.kind = .function)
    (hnames : ∀ y ∈ scope.names, y.2 = .local → scope.names.lookup y.1 = some .local) (hx : scope.names.lookup x = some .local) (hx₂ : scope.names.lookup x₂ = some .local) (hxx : x ≠ x₂)
    (h : wpAny (model prog w) A (eval iter env) (PairSrc prog w A h₀ L m env elt x x₂ scope cl Q) E s) (hs : ∀ x, foldedSetIterable iter env x = pure x := by intro _; rfl) :
    wpAny (model prog w) A (eval (.ListComp elt [⟨.Tuple [.Name x px, .Name x₂ px₂] tk tp, iter, [], 0⟩] scope pos) env) Q E s := by
  rw [eval_ListComp]
  refine wpAny_comprehension_free (use := none) rfl hs hclos hkind hnames (wpAny_mono h (fun xv s₁ h₁ => ?_) fun _ _ e => e)
  obtain ⟨I, fp, wr, own, n, Pt, St, Mid, news, J, rfl, W, hsz, hst, F, N, c1, c2, c3, c4, c5, c6, c7, c8⟩ := h₁
  exact W.self 0 _ _ _ hst (pair_comp hh hcell hkind hx hx₂ hxx W hsz hst F N c1 c2 c3 c4 c5 c6 c7 c8)
/-- «zip(l1, l2)» of two lists of the ledger, for pair_listcomp -/
theorem zip_src {elt : PySem.Expr} {x x₂ : Str} {scope : Scope} {cl : List (Str × Addr)} {Q : Value → Shared → Prop} {l1 l2 : Addr} {xs ys : List Value} {n1 n2 : Nat} {news : Led} (J : Nat → List Value → Led → Prop)
    (hh : A.handled = none) (F : Fr h₀ L s.heap m) (N : News h₀ L s.heap news) (h1 : (l1, listOf xs.toArray n1) ∈ news) (h2 : (l2, listOf ys.toArray n2) ∈ news) (hz : xs.length ≤ sizeLine) (hJ : J 0 [] news)
    (hJs : ∀ i ys' nx, J i ys' nx → (l1, listOf xs.toArray n1) ∈ nx ∧ (l2, listOf ys.toArray n2) ∈ nx ∧ ∀ p ∈ nx, ∀ b, @LE.le Nat _ s.heap.objs.size b → @LT.lt Nat _ b (s.heap.objs.size + 5) → p.1 ≠ b)
    (turn : ∀ i v1 v2, xs[i]? = some v1 → ys[i]? = some v2 → ∀ ys' nx C oC D ow h tk' m₂ (E' : Value → Shared → Prop), ow.map (·.1) = [s.heap.objs.size + 4, s.heap.objs.size + 2, s.heap.objs.size + 3, s.heap.objs.size, s.heap.objs.size + 1] → LCg.NsObj oC m₂ → m₂ x = some v1 → m₂ x₂ = some v2 → Fr h₀ L h m → News h₀ L h ((C, oC) :: (D, LCg.lst ys') :: (ow ++ nx)) →
      (∀ p ∈ nx, p.1 ≠ C ∧ p.1 ≠ D) → C ≠ D → J i ys' nx →
      wpAny (model prog w) A (eval elt (compEnvC scope cl C env)) (fun y s' => ∃ h' tk'' nx', s' = { s with heap := h', toks := tk'' } ∧ Fr h₀ L h' m ∧ News h₀ L h' ((C, oC) :: (D, LCg.lst ys') :: (ow ++ nx')) ∧ (∀ p ∈ nx', p.1 ≠ C ∧ p.1 ≠ D) ∧ J (i + 1) (ys' ++ [y]) nx') E' { s with heap := h, toks := tk' })
    (done : ∀ ys' nx D h tk', J (min xs.length ys.length) ys' nx → Fr h₀ L h m → News h₀ L h ((D, LCg.lst ys') :: nx) → (∀ p ∈ nx, p.1 ≠ D) → Q (.ref D) { s with heap := h, toks := tk' }) :
    wpAny (model prog w) A (call (.type "zip") [.ref l1, .ref l2]) (PairSrc prog w A h₀ L m env elt x x₂ scope cl Q) E s := by
  have a1 := N.isList h1
  have a2 := N.isList h2
  refine call_zip_2 a1 a2 ?_
  intro h' e1 e2 e3 e4 e5 e6 hk
  have lt1 : l1 < s.heap.objs.size := Heap.lt_size (N _ h1).1
  have lt2 : l2 < s.heap.objs.size := Heap.lt_size (N _ h2).1
  have own5 : ∀ b ∈ [s.heap.objs.size + 4, s.heap.objs.size + 2, s.heap.objs.size + 3, s.heap.objs.size, s.heap.objs.size + 1], @LE.le Nat _ s.heap.objs.size b ∧ @LT.lt Nat _ b (s.heap.objs.size + 5) := by
    intro b hb
    simp only [List.mem_cons, List.not_mem_nil, or_false] at hb
    rcases hb with rfl | rfl | rfl | rfl | rfl
    · exact ⟨by omega, by omega⟩
    · exact ⟨by omega, by omega⟩
    · exact ⟨by omega, by omega⟩
    · exact ⟨by omega, by omega⟩
    · exact ⟨by omega, by omega⟩
  refine ⟨s.heap.objs.size + 4, _, _, [s.heap.objs.size + 4, s.heap.objs.size + 2, s.heap.objs.size + 3, s.heap.objs.size, s.heap.objs.size + 1], _, _, _, _, news, J, rfl, (WalksT.zip2 (prog := prog) (w := w) hh _ _ _ _ _ l1 l2 (zipApart_new lt1 lt2) xs.toArray ys.toArray).toU, ?_, ⟨e1, e2, ⟨_, _, e3⟩, e4, e5, a1.at fun o q => hk _ o q, a2.at fun o q => hk _ o q⟩, fr_ext F hk, news_ext N hk, ?_, ?_, ?_, ?_, hJ, ?_, ?_, ?_⟩
  · rw [List.size_toArray, List.size_toArray]
    exact Nat.le_trans (Nat.min_le_left ..) hz
  · intro b hb
    obtain ⟨b1, b2⟩ := own5 b hb
    refine ⟨by show @LT.lt Nat _ b h'.objs.size; rw [e6]; exact b2, ?_, Ne.symm (Nat.ne_of_lt (Nat.lt_of_lt_of_le F.ns.lt b1)), fun p hp => Nat.ne_of_lt (Nat.lt_of_lt_of_le (Heap.lt_size (N p hp).1) b1)⟩
    cases q : h₀.get? b with
    | none => rfl
    | some o => exact absurd (Heap.lt_size (F.keep _ _ q)) (Nat.not_lt.mpr b1)
  · intro b hb
    simp only [List.mem_cons, List.not_mem_nil, or_false] at hb ⊢
    rcases hb with rfl | rfl | rfl | rfl <;> simp
  · rintro i h ⟨z1, z2, ⟨_, _, z3⟩, z4, z5, _, _⟩ b hb
    simp only [List.mem_cons, List.not_mem_nil, or_false] at hb
    rcases hb with rfl | rfl | rfl | rfl | rfl
    · exact ⟨_, z1⟩
    · exact ⟨_, z2⟩
    · exact ⟨_, z3⟩
    · exact let ⟨o, ho, _⟩ := z4; ⟨o, ho⟩
    · exact let ⟨o, ho, _⟩ := z5; ⟨o, ho⟩
  · intro b hb
    simp only [List.mem_cons, List.not_mem_nil, or_false] at hb ⊢
    rcases hb with rfl | rfl | rfl | rfl | rfl | rfl | rfl
    · simp
    · simp
    · simp
    · simp
    · simp
    · exact .inr (.inr ⟨_, fun i ys' nx hj => (hJs i ys' nx hj).1⟩)
    · exact .inr (.inr ⟨_, fun i ys' nx hj => (hJs i ys' nx hj).2.1⟩)
  · intro i ys' nx hj p hp hm
    obtain ⟨b1, b2⟩ := own5 _ hm
    exact (hJs i ys' nx hj).2.2 p hp _ b1 b2 rfl
  · rintro i vals hi ⟨v1, v2, q1, q2, rfl⟩
    refine ⟨v1, v2, rfl, fun ys' nx C oC D ow h tk' m₂ E' how => turn i v1 v2 ?_ ?_ ys' nx C oC D ow h tk' m₂ E' how⟩
    · simpa using q1
    · simpa using q2
  · rw [List.size_toArray, List.size_toArray]
    exact done
end

end Mine
end
section
open PySem PySem.W PyProof.Rows PySem.Calls Builtin Builtin.ObjectAttr
namespace Mine
set_option maxRecDepth 100000
set_option maxHeartbeats 8000000
local macro_rules | `(tactic| walk_at "getAttr ref") => `(tactic| (k_here; k_dflt (refine' hk_bound ?k1 ?k2 ?k3 ?k4 ?k5 ?kh ?k6 ?k7 ?k8 ?k9 ?k10 ?k11 ?k12 ?_; (case k4 => k_inst); (case k1 => k_asm); (case k2 => k_asm); (case k3 => k_asm); (case k5 => k_is); (case kh => k_is); (case k6 => k_is); (case k7 => k_is); (case k8 => k_is); (case k9 => k_is); (case k10 => k_is); (case k11 => decide +kernel); (case k12 => k_get); k_whole); intro q' h' F' N' l1; (try k_lt l1); (try k_sweep)))
local macro_rules | `(tactic| walk_at "getAttr ref") => `(tactic| (k_here; k_dflt (refine' hk_own ?k1 ?k2 ?k3 ?k4 ?k5 ?k6 ?k7 ?k8 ?k9 ?_; (case k1 => k_asm); (case k2 => k_asm); (case k3 => k_inst); (case k4 => k_is); (case k5 => k_is); (case k6 => k_is); (case k7 => k_is); (case k8 => k_get); (case k9 => k_handed); k_whole)))
local macro_rules | `(tactic| walk_at "getMethod ref") => `(tactic| (k_here; k_dflt (refine' hk_method ?k1 ?k2 ?k3 ?k4 ?k5 ?_; (case k1 => k_asm); (case k2 => k_asm); (case k3 => k_inst); (case k4 => k_is); (case k5 => k_is); k_whole)))
local macro_rules | `(tactic| ktr_enter) => `(tactic| (refine' code_def ?k1 ?k2 ?k3 ?k4 ?k5 ?kA ?kF ?kK ?k6 ?k7 ?k8 ?k9 ?kB ?_ ?c2 ?c3 ?c4 ?c5; (case kA => exact rfl); (case kF => exact rfl); (case kK => first | assumption | exact rfl); (case k1 => k_asm); (case k2 => k_asm); (case k3 => k_asm); (case k4 => k_asm); (case k5 => k_asm); (case k6 => k_is); (case k7 => k_is); (case k8 => ktr_room); (case k9 => first | exact BindsTo.of_eq rfl | exact binds_K (by k_in) rfl (by k_is) rfl rfl rfl); (case c5 => decide); (case kB => exact locs rfl); (case c2 => exact rfl); (case c3 => exact rfl); (case c4 => exact rfl); k_whole; intro g' L' h' FG' F' N' B' X' T'; (try dsimp only); (try k_lift B'); (try k_fold)))
local macro_rules | `(tactic| ktr_call $c:term 0) => `(tactic| (refine wpAny_call ?_; k_dflt (refine' ct_use $c ?k1 ?k2 ?k3 ?k4 ?k5 ?kK ?kd ?ku ?kp ?_; (case k1 => k_asm); (case k2 => k_asm); (case k3 => k_asm); (case k4 => k_asm); (case k5 => k_asm); (case kK => first | assumption | exact rfl); (case kd => ktr_room); (case ku => ktr_units))))
local macro_rules | `(tactic| ktr_call $c:term 1) => `(tactic| (refine' call_meth ?N ?q ?_; (case N => k_asm); (case q => k_mem); k_dflt (refine' ct_use $c ?k1 ?k2 ?k3 ?k4 ?k5 ?kK ?kd ?ku ?kp ?_; (case k1 => k_asm); (case k2 => k_asm); (case k3 => k_asm); (case k4 => k_asm); (case k5 => k_asm); (case kK => first | assumption | exact rfl); (case kd => ktr_room); (case ku => ktr_units))))
local macro_rules | `(tactic| k_mem) => `(tactic| first | assumption | exact List.mem_cons_self .. | (refine' List.mem_cons_of_mem _ ?_; k_mem))
local macro_rules | `(tactic| kst_same) => `(tactic| (intro z h1 h2 h3; (simp only [List.forall_mem_cons, List.not_mem_nil, false_implies, implies_true, and_true, ne_eq] at h2); (simp only [List.contains_cons, List.contains_nil, Bool.or_false, Bool.or_eq_false_iff, beq_eq_false_iff_ne, ne_eq] at h3); (simp [kstB, h1, h2, h3]; done)))
local macro_rules | `(tactic| kby_size) => `(tactic| (rw [PySem.sizeLine_eq]; omega))
local macro_rules | `(tactic| walk_at "call builtin:str.lstrip") => `(tactic| (k_here; (refine KXw.lstrip (by assumption) (by kby_size) ?_); intro _ _))
local macro_rules | `(tactic| walk_at "call builtin:str.strip") => `(tactic| (k_here; (refine KXw.strip (by assumption) (by kby_size) ?_); intro _ _))
local macro_rules | `(tactic| walk_at "call builtin:str.strip") => `(tactic| (k_here; (refine KXw.stripChars (by assumption) (by kby_size) ?_); intro _ _))
local macro_rules | `(tactic| walk_at "call builtin:str.upper") => `(tactic| (k_here; (refine KXw.upper (by assumption) (by decide +kernel) ?_); intro _ _))
local macro_rules | `(tactic| walk_at "call builtin:str.partition") => `(tactic| (k_here; (refine KXpa.partition (by k_asm) (by k_asm) (by decide) (by assumption) (by assumption) (by assumption) (by kby_size) ?_); intro D' _ _ _ _ _ F' N' l1; (try k_lt l1)))
local macro_rules | `(tactic| walk_at "call builtin:str.split") => `(tactic| (k_here; (refine KSpl.split1 (by k_asm) (by k_asm) (by decide) ?_ (by kby_size)); intro D' _ _ _ _ _ F' N' l1; (try k_lt l1)))
theorem dat_snoc {news : Led} {v : Value} {d : Dat} : ∀ {vs : List Value} {ds : List Dat}, DatAll news vs ds → DatIn news v d → DatAll news (vs ++ [v]) (ds ++ [d])
  | _, _, .nil, h => .cons h .nil
  | _, _, .cons a r, h => .cons a (dat_snoc r h)
theorem t_dueb (w : World) (R a1 a2 a3 : Addr) (n n1 n2 n3 : Nat) (ls1 ls2 ls3 : List (Str × Tok)) (r1 r2 r3 : List Str) (hr1 : OkRow r1) (hr2 : OkRow r2) (hr3 : OkRow r3) (hl1 : ls1.map (·.1) = r1) (hl2 : ls2.map (·.1) = r2) (hl3 : ls3.map (·.1) = r3) :
    CtO w 351 8 (fun news => (R, listOf [.ref a1, .ref a2, .ref a3].toArray n) ∈ news ∧ (a1, listOf (strValues ls1).toArray n1) ∈ news ∧ (a2, listOf (strValues ls2).toArray n2) ∈ news ∧ (a3, listOf (strValues ls3).toArray n3) ∈ news) [.ref R]
    (fun new _ v => DatIn new v (.list [.str (bodyT "GPWPL," r1), .str (bodyT "IIDTM," r2), .str (bodyT "GPWPL," r3)])) := by
  refine fillit _ ?_
  k_fill
  show CtO _ _ _ _ _ _
  intro mean mg mb dp un gd cn cs a ccd cl outer A₀ base h₀ L m news s Q E B F X N T hk hd hu hpre hret
  obtain ⟨hR, h1, h2, h3⟩ := hpre
  k_dflt ktr_enter
  repeat' ((fail_if_success (with_reducible show wpAny _ _ (PySem.eval (PySem.Expr.ListComp _ _ _ _) _) _ _ _)); first | walk1 | (k_unfold; (try dsimp only)))
  try dsimp only
  refine' pair_listcomp ?cF ?c0 ?c1 ?c2 ?c3 ?c4 ?c5 ?c6 ?c7 ?h
  case cF => k_asm
  case c0 => exact rfl
  case c1 => with_unfolding_all rfl
  case c2 => decide
  case c3 => rfl
  case c4 => decide
  case c5 => rfl
  case c6 => rfl
  case c7 => decide
  case h =>
    repeat' ((fail_if_success (with_reducible show wpAny _ _ (PySem.call (Value.type "zip") _) _ _ _)); (fail_if_success (with_reducible show wpAny _ _ (PySem.call (Value.ref _) _) _ _ _)); first | walk1 | (k_unfold; (try dsimp only)))
    try dsimp only
    ktr_call (t_heads w) 0
    · trivial
    intro h9 tk9 nw9 v9 F9 N9 l9 ⟨lh, lsh, nh, e1, e2, e3⟩
    subst e1 e3
    simp only [List.cons_append, List.nil_append] at N9
    try dsimp only
    repeat' ((fail_if_success (with_reducible show wpAny _ _ (PySem.call (Value.type "zip") _) _ _ _)); first | walk1 | (k_unfold; (try dsimp only)))
    try dsimp only
    replace e2 : lsh.map (·.1) = [Str.ofString "GPWPL,", Str.ofString "IIDTM,", Str.ofString "GPWPL,"] := e2
    obtain ⟨t1, lsa, rfl, e3⟩ := KSpl.cons_of e2
    obtain ⟨t2, lsb, rfl, e4⟩ := KSpl.cons_of e3
    obtain ⟨t3, lsc, rfl, e5⟩ := KSpl.cons_of e4
    obtain rfl := KSpl.nil_of e5
    clear e2 e3 e4 e5
    rename Fr _ _ _ _ => FZ
    rename News _ _ _ _ => NZ
    have hnR : ∀ p ∈ (lh, listOf (strValues [(Str.ofString "GPWPL,", t1), (Str.ofString "IIDTM,", t2), (Str.ofString "GPWPL,", t3)]).toArray nh) :: news, ∀ b, @LE.le Nat _ _ b → p.1 ≠ b := fun p hp b hb => Nat.ne_of_lt (Nat.lt_of_lt_of_le (Heap.lt_size (NZ p hp).1) hb)
    refine zip_src (n1 := nh) (n2 := n) (fun i ys nx => nx = (lh, listOf (strValues [(Str.ofString "GPWPL,", t1), (Str.ofString "IIDTM,", t2), (Str.ofString "GPWPL,", t3)]).toArray nh) :: news ∧ DatAll nx ys (([.str (bodyT "GPWPL," r1), .str (bodyT "IIDTM," r2), .str (bodyT "GPWPL," r3)] : List Dat).take i)) rfl FZ NZ (List.mem_cons_self ..) (.tail _ hR) (Nat.le_of_ble_eq_true rfl) ⟨rfl, .nil⟩ ?hJs ?turn ?done
    case hJs =>
      rintro i ys nx ⟨rfl, _⟩
      exact ⟨List.mem_cons_self .., .tail _ hR, fun p hp b hb _ => hnR p hp b hb⟩
    case turn =>
      intro i v1 v2 q1 q2 ys' nx C oC D ow h tk' m₂ E' how hC hm1 hm2 F5 N5 off5 hCD ⟨hnx, hdat⟩
      subst hnx
      rcases i with _ | _ | _ | i
      · cases q1
        cases q2
        k_steps
        try dsimp only
        refine SC.join (News.isList N5 (.tail _ (.tail _ (List.mem_append_right _ (.tail _ h1))))) hl1 hr1.joinOk ?_
        intro jt jk
        have hjl := hr1.join_len
        repeat' ((fail_if_success (with_reducible show Exists _)); first | walk1 | (k_unfold; (try dsimp only)))
        try dsimp only
        exact ⟨_, _, _, rfl, by assumption, by assumption, off5, rfl, dat_snoc hdat (.str _ _)⟩
      · cases q1
        cases q2
        k_steps
        try dsimp only
        refine SC.join (News.isList N5 (.tail _ (.tail _ (List.mem_append_right _ (.tail _ h2))))) hl2 hr2.joinOk ?_
        intro jt jk
        have hjl := hr2.join_len
        repeat' ((fail_if_success (with_reducible show Exists _)); first | walk1 | (k_unfold; (try dsimp only)))
        try dsimp only
        exact ⟨_, _, _, rfl, by assumption, by assumption, off5, rfl, dat_snoc hdat (.str _ _)⟩
      · cases q1
        cases q2
        k_steps
        try dsimp only
        refine SC.join (News.isList N5 (.tail _ (.tail _ (List.mem_append_right _ (.tail _ h3))))) hl3 hr3.joinOk ?_
        intro jt jk
        have hjl := hr3.join_len
        repeat' ((fail_if_success (with_reducible show Exists _)); first | walk1 | (k_unfold; (try dsimp only)))
        try dsimp only
        exact ⟨_, _, _, rfl, by assumption, by assumption, off5, rfl, dat_snoc hdat (.str _ _)⟩
      · cases q1
    case done =>
      intro ys' nx D h tk' ⟨hnx, hdat⟩ F5 N5 off5
      subst hnx
      obtain ⟨lz, rfl, hz⟩ := dat_strs (row := [bodyT "GPWPL," r1, bodyT "IIDTM," r2, bodyT "GPWPL," r3]) hdat
      try dsimp only
      k_steps
      try dsimp only
      refine hret _ _ [(D, _), (lh, _)] _ (by assumption) (by assumption) (fun p hp q hq => ?_) (.list (List.mem_cons_self ..) (ds := [.str (bodyT "GPWPL," r1), .str (bodyT "IIDTM," r2), .str (bodyT "GPWPL," r3)]) ((congrArg (List.map Dat.str) hz) ▸ strs_dat lz))
      rcases List.mem_cons.mp hp with rfl | hp
      · exact off5 q (.tail _ hq)
      · rw [List.mem_singleton.mp hp]
        exact off_alt (l9 _ (List.mem_cons_self ..)) q hq

end Mine
end
section
open PySem PySem.W PyProof.Rows PySem.Calls Builtin Builtin.ObjectAttr
namespace Mine
set_option maxRecDepth 100000
set_option maxHeartbeats 8000000
local macro_rules | `(tactic| walk_at "getAttr ref") => `(tactic| (k_here; k_dflt (refine' hk_bound ?k1 ?k2 ?k3 ?k4 ?k5 ?kh ?k6 ?k7 ?k8 ?k9 ?k10 ?k11 ?k12 ?_; (case k4 => k_inst); (case k1 => k_asm); (case k2 => k_asm); (case k3 => k_asm); (case k5 => k_is); (case kh => k_is); (case k6 => k_is); (case k7 => k_is); (case k8 => k_is); (case k9 => k_is); (case k10 => k_is); (case k11 => decide +kernel); (case k12 => k_get); k_whole); intro q' h' F' N' l1; (try k_lt l1); (try k_sweep)))
local macro_rules | `(tactic| walk_at "getAttr ref") => `(tactic| (k_here; k_dflt (refine' hk_own ?k1 ?k2 ?k3 ?k4 ?k5 ?k6 ?k7 ?k8 ?k9 ?_; (case k1 => k_asm); (case k2 => k_asm); (case k3 => k_inst); (case k4 => k_is); (case k5 => k_is); (case k6 => k_is); (case k7 => k_is); (case k8 => k_get); (case k9 => k_handed); k_whole)))
local macro_rules | `(tactic| walk_at "getMethod ref") => `(tactic| (k_here; k_dflt (refine' hk_method ?k1 ?k2 ?k3 ?k4 ?k5 ?_; (case k1 => k_asm); (case k2 => k_asm); (case k3 => k_inst); (case k4 => k_is); (case k5 => k_is); k_whole)))
local macro_rules | `(tactic| ktr_enter) => `(tactic| (refine' code_def ?k1 ?k2 ?k3 ?k4 ?k5 ?kA ?kF ?kK ?k6 ?k7 ?k8 ?k9 ?kB ?_ ?c2 ?c3 ?c4 ?c5; (case kA => exact rfl); (case kF => exact rfl); (case kK => first | assumption | exact rfl); (case k1 => k_asm); (case k2 => k_asm); (case k3 => k_asm); (case k4 => k_asm); (case k5 => k_asm); (case k6 => k_is); (case k7 => k_is); (case k8 => ktr_room); (case k9 => first | exact BindsTo.of_eq rfl | exact binds_K (by k_in) rfl (by k_is) rfl rfl rfl); (case c5 => decide); (case kB => exact locs rfl); (case c2 => exact rfl); (case c3 => exact rfl); (case c4 => exact rfl); k_whole; intro g' L' h' FG' F' N' B' X' T'; (try dsimp only); (try k_lift B'); (try k_fold)))
local macro_rules | `(tactic| ktr_call $c:term 0) => `(tactic| (refine wpAny_call ?_; k_dflt (refine' ct_use $c ?k1 ?k2 ?k3 ?k4 ?k5 ?kK ?kd ?ku ?kp ?_; (case k1 => k_asm); (case k2 => k_asm); (case k3 => k_asm); (case k4 => k_asm); (case k5 => k_asm); (case kK => first | assumption | exact rfl); (case kd => ktr_room); (case ku => ktr_units))))
local macro_rules | `(tactic| ktr_call $c:term 1) => `(tactic| (refine' call_meth ?N ?q ?_; (case N => k_asm); (case q => k_mem); k_dflt (refine' ct_use $c ?k1 ?k2 ?k3 ?k4 ?k5 ?kK ?kd ?ku ?kp ?_; (case k1 => k_asm); (case k2 => k_asm); (case k3 => k_asm); (case k4 => k_asm); (case k5 => k_asm); (case kK => first | assumption | exact rfl); (case kd => ktr_room); (case ku => ktr_units))))
local macro_rules | `(tactic| k_mem) => `(tactic| first | assumption | exact List.mem_cons_self .. | (refine' List.mem_cons_of_mem _ ?_; k_mem))
local macro_rules | `(tactic| kst_same) => `(tactic| (intro z h1 h2 h3; (simp only [List.forall_mem_cons, List.not_mem_nil, false_implies, implies_true, and_true, ne_eq] at h2); (simp only [List.contains_cons, List.contains_nil, Bool.or_false, Bool.or_eq_false_iff, beq_eq_false_iff_ne, ne_eq] at h3); (simp [kstB, h1, h2, h3]; done)))
local macro_rules | `(tactic| kby_size) => `(tactic| (rw [PySem.sizeLine_eq]; omega))
local macro_rules | `(tactic| walk_at "call builtin:str.lstrip") => `(tactic| (k_here; (refine KXw.lstrip (by assumption) (by kby_size) ?_); intro _ _))
local macro_rules | `(tactic| walk_at "call builtin:str.strip") => `(tactic| (k_here; (refine KXw.strip (by assumption) (by kby_size) ?_); intro _ _))
local macro_rules | `(tactic| walk_at "call builtin:str.strip") => `(tactic| (k_here; (refine KXw.stripChars (by assumption) (by kby_size) ?_); intro _ _))
local macro_rules | `(tactic| walk_at "call builtin:str.upper") => `(tactic| (k_here; (refine KXw.upper (by assumption) (by decide +kernel) ?_); intro _ _))
local macro_rules | `(tactic| walk_at "call builtin:str.partition") => `(tactic| (k_here; (refine KXpa.partition (by k_asm) (by k_asm) (by decide) (by assumption) (by assumption) (by assumption) (by kby_size) ?_); intro D' _ _ _ _ _ F' N' l1; (try k_lt l1)))
local macro_rules | `(tactic| walk_at "call builtin:str.split") => `(tactic| (k_here; (refine KSpl.split1 (by k_asm) (by k_asm) (by decide) ?_ (by kby_size)); intro D' _ _ _ _ _ F' N' l1; (try k_lt l1)))
def lawDef : Option PySem.Stmt := PySem.Challenge.pw_ez0283_01.main.body.getLast?
def lawBody : List PySem.Stmt := match lawDef with
  | some (.FunctionDef _ _ b _ _ _ _ _ _ _) => b
  | _ => []
def lawScope : PySem.Scope := match lawDef with
  | some (.FunctionDef _ _ _ _ _ _ s _ _ _) => s
  | _ => default
def loopBody : List PySem.Stmt := match lawBody[9]? with
  | some (PySem.Stmt.For _ _ b _ _) => b
  | _ => []
def lastBody : List PySem.Stmt := match lawBody[14]? with
  | some (PySem.Stmt.For _ _ b _ _) => b
  | _ => []
theorem lawBody_len : lawBody.length = 16 := rfl
theorem loopBody_len : loopBody.length = 6 := rfl
theorem lastBody_len : lastBody.length = 2 := rfl
abbrev lawEnv (L fa : Addr) (cd : Value) : Env := envOf "law" lawScope L fa cd
abbrev lawAr (L fa : Addr) (cd : Value) : Around := callerA.deeper (lawEnv L fa cd)

end Mine
end
section
open PySem PySem.W PyProof.Rows PySem.Calls Builtin Builtin.ObjectAttr
namespace Mine
set_option maxRecDepth 100000
set_option maxHeartbeats 8000000
local macro_rules | `(tactic| walk_at "getAttr ref") => `(tactic| (k_here; k_dflt (refine' hk_bound ?k1 ?k2 ?k3 ?k4 ?k5 ?kh ?k6 ?k7 ?k8 ?k9 ?k10 ?k11 ?k12 ?_; (case k4 => k_inst); (case k1 => k_asm); (case k2 => k_asm); (case k3 => k_asm); (case k5 => k_is); (case kh => k_is); (case k6 => k_is); (case k7 => k_is); (case k8 => k_is); (case k9 => k_is); (case k10 => k_is); (case k11 => decide +kernel); (case k12 => k_get); k_whole); intro q' h' F' N' l1; (try k_lt l1); (try k_sweep)))
local macro_rules | `(tactic| walk_at "getAttr ref") => `(tactic| (k_here; k_dflt (refine' hk_own ?k1 ?k2 ?k3 ?k4 ?k5 ?k6 ?k7 ?k8 ?k9 ?_; (case k1 => k_asm); (case k2 => k_asm); (case k3 => k_inst); (case k4 => k_is); (case k5 => k_is); (case k6 => k_is); (case k7 => k_is); (case k8 => k_get); (case k9 => k_handed); k_whole)))
local macro_rules | `(tactic| walk_at "getMethod ref") => `(tactic| (k_here; k_dflt (refine' hk_method ?k1 ?k2 ?k3 ?k4 ?k5 ?_; (case k1 => k_asm); (case k2 => k_asm); (case k3 => k_inst); (case k4 => k_is); (case k5 => k_is); k_whole)))
local macro_rules | `(tactic| ktr_enter) => `(tactic| (refine' code_def ?k1 ?k2 ?k3 ?k4 ?k5 ?kA ?kF ?kK ?k6 ?k7 ?k8 ?k9 ?kB ?_ ?c2 ?c3 ?c4 ?c5; (case kA => exact rfl); (case kF => exact rfl); (case kK => first | assumption | exact rfl); (case k1 => k_asm); (case k2 => k_asm); (case k3 => k_asm); (case k4 => k_asm); (case k5 => k_asm); (case k6 => k_is); (case k7 => k_is); (case k8 => ktr_room); (case k9 => first | exact BindsTo.of_eq rfl | exact binds_K (by k_in) rfl (by k_is) rfl rfl rfl); (case c5 => decide); (case kB => exact locs rfl); (case c2 => exact rfl); (case c3 => exact rfl); (case c4 => exact rfl); k_whole; intro g' L' h' FG' F' N' B' X' T'; (try dsimp only); (try k_lift B'); (try k_fold)))
local macro_rules | `(tactic| ktr_call $c:term 0) => `(tactic| (refine wpAny_call ?_; k_dflt (refine' ct_use $c ?k1 ?k2 ?k3 ?k4 ?k5 ?kK ?kd ?ku ?kp ?_; (case k1 => k_asm); (case k2 => k_asm); (case k3 => k_asm); (case k4 => k_asm); (case k5 => k_asm); (case kK => first | assumption | exact rfl); (case kd => ktr_room); (case ku => ktr_units))))
local macro_rules | `(tactic| ktr_call $c:term 1) => `(tactic| (refine' call_meth ?N ?q ?_; (case N => k_asm); (case q => k_mem); k_dflt (refine' ct_use $c ?k1 ?k2 ?k3 ?k4 ?k5 ?kK ?kd ?ku ?kp ?_; (case k1 => k_asm); (case k2 => k_asm); (case k3 => k_asm); (case k4 => k_asm); (case k5 => k_asm); (case kK => first | assumption | exact rfl); (case kd => ktr_room); (case ku => ktr_units))))
local macro_rules | `(tactic| k_mem) => `(tactic| first | assumption | exact List.mem_cons_self .. | (refine' List.mem_cons_of_mem _ ?_; k_mem))
local macro_rules | `(tactic| kst_same) => `(tactic| (intro z h1 h2 h3; (simp only [List.forall_mem_cons, List.not_mem_nil, false_implies, implies_true, and_true, ne_eq] at h2); (simp only [List.contains_cons, List.contains_nil, Bool.or_false, Bool.or_eq_false_iff, beq_eq_false_iff_ne, ne_eq] at h3); (simp [kstB, h1, h2, h3]; done)))
local macro_rules | `(tactic| kby_size) => `(tactic| (rw [PySem.sizeLine_eq]; omega))
local macro_rules | `(tactic| walk_at "call builtin:str.lstrip") => `(tactic| (k_here; (refine KXw.lstrip (by assumption) (by kby_size) ?_); intro _ _))
local macro_rules | `(tactic| walk_at "call builtin:str.strip") => `(tactic| (k_here; (refine KXw.strip (by assumption) (by kby_size) ?_); intro _ _))
local macro_rules | `(tactic| walk_at "call builtin:str.strip") => `(tactic| (k_here; (refine KXw.stripChars (by assumption) (by kby_size) ?_); intro _ _))
local macro_rules | `(tactic| walk_at "call builtin:str.upper") => `(tactic| (k_here; (refine KXw.upper (by assumption) (by decide +kernel) ?_); intro _ _))
local macro_rules | `(tactic| walk_at "call builtin:str.partition") => `(tactic| (k_here; (refine KXpa.partition (by k_asm) (by k_asm) (by decide) (by assumption) (by assumption) (by assumption) (by kby_size) ?_); intro D' _ _ _ _ _ F' N' l1; (try k_lt l1)))
local macro_rules | `(tactic| walk_at "call builtin:str.split") => `(tactic| (k_here; (refine KSpl.split1 (by k_asm) (by k_asm) (by decide) ?_ (by kby_size)); intro D' _ _ _ _ _ F' N' l1; (try k_lt l1)))
--FROM ML0
section
variable {w : World} {base h₀ : Heap} {mean : ExcName → Option Value} {mg mb : Str → Option Value} {L fa : Addr} {cd : Value} {s : Shared} {S : Addr} {vs : List Value} {ns : List Int} {Q : Flow → Shared → Prop} {E : Value → Shared → Prop}
theorem l_ints2 (K0 : Below callerA base [] base) (X : Frag.In (Mine.hd.heap_39 w.params) base) (T : Top VW LO mean mg mb base) (hL : base.IsList S vs.toArray) (hI : IntsAre vs ns) (hlen : ns.length ≤ 63)
    (F : Fr base L s.heap (fun x => if x = "script" then some (.ref S) else none)) (N : News base L s.heap [])
    (h : ∀ z o t u h' tk', Fr base L h' (fun x => if x = "other" then some (.int o u) else if x = "size" then some (.int z t) else if x = "script" then some (.ref S) else none) → News base L h' [] → Q .next { s with heap := h', toks := tk' }) :
    wpAny (model PG w) (lawAr L fa cd) (execs (lawBody.take 2) (lawEnv L fa cd)) Q E s := by
  refine fillit _ ?_
  k_fill
  dsimp only [lawAr, lawEnv, lawBody, lawScope, lawDef, PySem.Challenge.pw_ez0283_01, List.getLast?, List.getLast, List.take]
  k_steps
  all_goals exact h _ _ _ _ _ _ (by assumption) (by assumption)
end
theorem execs_take_at {M : Model} {A : Around} {E : Value → Shared → Prop} {env : Env} {Q : Flow → Shared → Prop} {Γ : Ctx} (hΓ : Γ.In A) : ∀ (n : Nat) (l : List PySem.Stmt) (s : Shared) (p),
    Sem.wp M Γ (execs (l.take n) env) (fun f _ s' => match f with | .next => wpAny M A (execs (l.drop n) env) Q E s' | f => Q f s') (fun e _ s' => E e s') p s → Sem.wp M Γ (execs l env) (fun f _ s' => Q f s') (fun e _ s' => E e s') p s
  | 0, l, s, p, h => (show wpAny M A (execs l env) Q E s from h) Γ p hΓ
  | n + 1, [], s, p, h => (show wpAny M A (execs [] env) Q E s from h) Γ p hΓ
  | n + 1, a :: l, s, p, h => by
    rw [execs_cons, Sem.wp_bind']
    have h1 := h
    rw [List.take_succ_cons, execs_cons, Sem.wp_bind'] at h1
    refine Sem.wp_mono _ Γ _ (fun f p' s' h' => ?_) (fun _ _ _ h' => h') _ _ h1
    cases f with
    | next => exact execs_take_at hΓ n l s' p' h'
    | _ => exact h'
theorem execs_take {M : Model} {A : Around} {E : Value → Shared → Prop} {env : Env} {Q : Flow → Shared → Prop} (n : Nat) (l : List PySem.Stmt) (s : Shared)
    (h : wpAny M A (execs (l.take n) env) (fun f s' => match f with | .next => wpAny M A (execs (l.drop n) env) Q E s' | f => Q f s') E s) : wpAny M A (execs l env) Q E s :=
  fun Γ p hΓ => execs_take_at hΓ n l s p (h Γ p hΓ)

end Mine
end
section
open PySem PySem.W PyProof.Rows PySem.Calls Builtin Builtin.ObjectAttr
namespace Mine
set_option maxRecDepth 100000
set_option maxHeartbeats 8000000
local macro_rules | `(tactic| walk_at "getAttr ref") => `(tactic| (k_here; k_dflt (refine' hk_bound ?k1 ?k2 ?k3 ?k4 ?k5 ?kh ?k6 ?k7 ?k8 ?k9 ?k10 ?k11 ?k12 ?_; (case k4 => k_inst); (case k1 => k_asm); (case k2 => k_asm); (case k3 => k_asm); (case k5 => k_is); (case kh => k_is); (case k6 => k_is); (case k7 => k_is); (case k8 => k_is); (case k9 => k_is); (case k10 => k_is); (case k11 => decide +kernel); (case k12 => k_get); k_whole); intro q' h' F' N' l1; (try k_lt l1); (try k_sweep)))
local macro_rules | `(tactic| walk_at "getAttr ref") => `(tactic| (k_here; k_dflt (refine' hk_own ?k1 ?k2 ?k3 ?k4 ?k5 ?k6 ?k7 ?k8 ?k9 ?_; (case k1 => k_asm); (case k2 => k_asm); (case k3 => k_inst); (case k4 => k_is); (case k5 => k_is); (case k6 => k_is); (case k7 => k_is); (case k8 => k_get); (case k9 => k_handed); k_whole)))
local macro_rules | `(tactic| walk_at "getMethod ref") => `(tactic| (k_here; k_dflt (refine' hk_method ?k1 ?k2 ?k3 ?k4 ?k5 ?_; (case k1 => k_asm); (case k2 => k_asm); (case k3 => k_inst); (case k4 => k_is); (case k5 => k_is); k_whole)))
local macro_rules | `(tactic| ktr_enter) => `(tactic| (refine' code_def ?k1 ?k2 ?k3 ?k4 ?k5 ?kA ?kF ?kK ?k6 ?k7 ?k8 ?k9 ?kB ?_ ?c2 ?c3 ?c4 ?c5; (case kA => exact rfl); (case kF => exact rfl); (case kK => first | assumption | exact rfl); (case k1 => k_asm); (case k2 => k_asm); (case k3 => k_asm); (case k4 => k_asm); (case k5 => k_asm); (case k6 => k_is); (case k7 => k_is); (case k8 => ktr_room); (case k9 => first | exact BindsTo.of_eq rfl | exact binds_K (by k_in) rfl (by k_is) rfl rfl rfl); (case c5 => decide); (case kB => exact locs rfl); (case c2 => exact rfl); (case c3 => exact rfl); (case c4 => exact rfl); k_whole; intro g' L' h' FG' F' N' B' X' T'; (try dsimp only); (try k_lift B'); (try k_fold)))
local macro_rules | `(tactic| ktr_call $c:term 0) => `(tactic| (refine wpAny_call ?_; k_dflt (refine' ct_use $c ?k1 ?k2 ?k3 ?k4 ?k5 ?kK ?kd ?ku ?kp ?_; (case k1 => k_asm); (case k2 => k_asm); (case k3 => k_asm); (case k4 => k_asm); (case k5 => k_asm); (case kK => first | assumption | exact rfl); (case kd => ktr_room); (case ku => ktr_units))))
local macro_rules | `(tactic| ktr_call $c:term 1) => `(tactic| (refine' call_meth ?N ?q ?_; (case N => k_asm); (case q => k_mem); k_dflt (refine' ct_use $c ?k1 ?k2 ?k3 ?k4 ?k5 ?kK ?kd ?ku ?kp ?_; (case k1 => k_asm); (case k2 => k_asm); (case k3 => k_asm); (case k4 => k_asm); (case k5 => k_asm); (case kK => first | assumption | exact rfl); (case kd => ktr_room); (case ku => ktr_units))))
local macro_rules | `(tactic| k_mem) => `(tactic| first | assumption | exact List.mem_cons_self .. | (refine' List.mem_cons_of_mem _ ?_; k_mem))
local macro_rules | `(tactic| kst_same) => `(tactic| (intro z h1 h2 h3; (simp only [List.forall_mem_cons, List.not_mem_nil, false_implies, implies_true, and_true, ne_eq] at h2); (simp only [List.contains_cons, List.contains_nil, Bool.or_false, Bool.or_eq_false_iff, beq_eq_false_iff_ne, ne_eq] at h3); (simp [kstB, h1, h2, h3]; done)))
local macro_rules | `(tactic| kby_size) => `(tactic| (rw [PySem.sizeLine_eq]; omega))
local macro_rules | `(tactic| walk_at "call builtin:str.lstrip") => `(tactic| (k_here; (refine KXw.lstrip (by assumption) (by kby_size) ?_); intro _ _))
local macro_rules | `(tactic| walk_at "call builtin:str.strip") => `(tactic| (k_here; (refine KXw.strip (by assumption) (by kby_size) ?_); intro _ _))
local macro_rules | `(tactic| walk_at "call builtin:str.strip") => `(tactic| (k_here; (refine KXw.stripChars (by assumption) (by kby_size) ?_); intro _ _))
local macro_rules | `(tactic| walk_at "call builtin:str.upper") => `(tactic| (k_here; (refine KXw.upper (by assumption) (by decide +kernel) ?_); intro _ _))
local macro_rules | `(tactic| walk_at "call builtin:str.partition") => `(tactic| (k_here; (refine KXpa.partition (by k_asm) (by k_asm) (by decide) (by assumption) (by assumption) (by assumption) (by kby_size) ?_); intro D' _ _ _ _ _ F' N' l1; (try k_lt l1)))
local macro_rules | `(tactic| walk_at "call builtin:str.split") => `(tactic| (k_here; (refine KSpl.split1 (by k_asm) (by k_asm) (by decide) ?_ (by kby_size)); intro D' _ _ _ _ _ F' N' l1; (try k_lt l1)))
/-- the heap behind «zip(l, t)», l a list, t a tuple -/
abbrev zh1 (h : Heap) (l : Addr) : Heap := h.push { cls := .type "list_iterator", data := .fields #[.ref l, .int 0 0] }
abbrev zh2 (h : Heap) (l t : Addr) : Heap := (zh1 h l).push { cls := .type "tuple_iterator", data := .fields #[.ref t, .int 0 0] }
abbrev zh3 (h : Heap) (l t : Addr) : Heap := (zh2 h l t).push { cls := .type "tuple", data := .seq #[.ref h.objs.size, .ref (zh1 h l).objs.size] }
abbrev zh4 (h : Heap) (l t : Addr) : Heap := (zh3 h l t).push { cls := .type "tuple", data := .seq #[.none, .none] }
abbrev zh5 (h : Heap) (l t : Addr) : Heap := (zh4 h l t).push { cls := .type "zip", data := .fields #[.none, .bool false, .bool false, .ref (zh2 h l t).objs.size, .ref (zh3 h l t).objs.size] }
theorem tup_push {h : Heap} {t : Addr} {its : Array Value} (x : IsTup h t its) (o : Obj) : IsTup (h.push o) t its := tup_at x fun _ e => Heap.get?_push_of_some _ e
theorem meets_zip_lt (l t : Addr) (xs ys : Array Value) :
    Meets (Builtin.«zip.__new__» ⟨[.type "zip", .ref l, .ref t], []⟩) (fun _ R s => s.heap.IsList l xs ∧ IsTup s.heap t ys ∧ R (.ok (.ret (.ref (zh4 s.heap l t).objs.size))) { s with heap := zh5 s.heap l t }) :=
  .of_wp fun prog w A R s h => by
    obtain ⟨hp, g, d, tk, os⟩ := s
    obtain ⟨h1, h2, h⟩ := h
    have hsub := sub_zip
    have hL : Heap.IsList (Shared.heap ⟨hp, g, d, tk, os⟩) l xs := h1
    have hT : IsTup (Shared.heap ⟨hp.push { cls := .type "list_iterator", data := .fields #[.ref l, .int 0 0] }, g, d, tk, os⟩) t ys := tup_push h2 _
    wp_walk using wpAny_pyIter_list hL, iter_tuple hT
    exact ⟨_, rfl, h⟩
section
variable {prog : Program} {w : World} {A : Around} {E : Value → Shared → Prop} {s : Shared}
theorem call_zip_lt {l t : Addr} {xs ys : Array Value} {Q : Value → Shared → Prop} (h1 : s.heap.IsList l xs) (h2 : IsTup s.heap t ys)
    (h : ∀ h', IsZip h' (s.heap.objs.size + 4) (s.heap.objs.size + 2) (s.heap.objs.size + 3) .none → IsPair h' (s.heap.objs.size + 2) (.ref s.heap.objs.size) (.ref (s.heap.objs.size + 1)) → IsPair h' (s.heap.objs.size + 3) .none .none →
      h'.IsListIter s.heap.objs.size l 0 → IsTupIter h' (s.heap.objs.size + 1) t 0 → h'.objs.size = s.heap.objs.size + 5 → (∀ c o, s.heap.get? c = some o → h'.get? c = some o) → Q (.ref (s.heap.objs.size + 4)) { s with heap := h' }) :
    wpAny (model prog w) A (call (.type "zip") [.ref l, .ref t]) Q E s := by
  refine callType_new PySem.F.called_zip (by decide) (PySem.F.typeCall_zip_2 _ _) (PySem.F.newCall_zip_2 _ _) (fun obj => PySem.F.args_object_init_3 obj _ _) PySem.F.entry_zip_new (meets_zip_lt l t xs ys) ⟨h1, h2, ?_⟩
  have z1 : (zh1 s.heap l).objs.size = s.heap.objs.size + 1 := Heap.size_push ..
  have z2 : (zh2 s.heap l t).objs.size = s.heap.objs.size + 2 := by rw [Heap.size_push, z1]
  have z3 : (zh3 s.heap l t).objs.size = s.heap.objs.size + 3 := by rw [Heap.size_push, z2]
  have z4 : (zh4 s.heap l t).objs.size = s.heap.objs.size + 4 := by rw [Heap.size_push, z3]
  have z5 : (zh5 s.heap l t).objs.size = s.heap.objs.size + 5 := by rw [Heap.size_push, z4]
  have g1 : (zh5 s.heap l t).get? s.heap.objs.size = some { cls := .type "list_iterator", data := .fields #[.ref l, .int 0 0] } :=
    Heap.get?_push_of_some _ (Heap.get?_push_of_some _ (Heap.get?_push_of_some _ (Heap.get?_push_of_some _ (Heap.get?_push_size _ rfl))))
  have g2 : (zh5 s.heap l t).get? (s.heap.objs.size + 1) = some { cls := .type "tuple_iterator", data := .fields #[.ref t, .int 0 0] } :=
    Heap.get?_push_of_some _ (Heap.get?_push_of_some _ (Heap.get?_push_of_some _ (by rw [← z1]; exact Heap.get?_push_size _ rfl)))
  have g3 : IsPair (zh5 s.heap l t) (s.heap.objs.size + 2) (.ref s.heap.objs.size) (.ref (s.heap.objs.size + 1)) :=
    Heap.get?_push_of_some _ (Heap.get?_push_of_some _ (by show (zh3 s.heap l t).get? _ = some _; rw [← z2, ← z1]; exact Heap.get?_push_size _ rfl))
  have g4 : IsPair (zh5 s.heap l t) (s.heap.objs.size + 3) .none .none :=
    Heap.get?_push_of_some _ (by have := Heap.get?_push_size (zh3 s.heap l t) (o := { cls := .type "tuple", data := .seq #[.none, .none] }) rfl; rw [z3] at this; exact this)
  have g5 : IsZip (zh5 s.heap l t) (s.heap.objs.size + 4) (s.heap.objs.size + 2) (s.heap.objs.size + 3) .none := by
    show (zh5 s.heap l t).get? _ = some _
    rw [← z4, ← z2, ← z3]
    exact Heap.get?_push_size _ rfl
  show _ ∧ _
  rw [z4]
  exact ⟨⟨_, g5, rfl⟩, h _ g5 g3 g4 ⟨_, g1, rfl, rfl⟩ ⟨_, g2, rfl, rfl⟩ z5 fun c o x =>
    Heap.get?_push_of_some _ (Heap.get?_push_of_some _ (Heap.get?_push_of_some _ (Heap.get?_push_of_some _ (Heap.get?_push_of_some _ x))))⟩
end

end Mine
end
section
open PySem PySem.W PyProof.Rows PySem.Calls Builtin Builtin.ObjectAttr
namespace Mine
set_option maxRecDepth 100000
set_option maxHeartbeats 8000000
local macro_rules | `(tactic| walk_at "getAttr ref") => `(tactic| (k_here; k_dflt (refine' hk_bound ?k1 ?k2 ?k3 ?k4 ?k5 ?kh ?k6 ?k7 ?k8 ?k9 ?k10 ?k11 ?k12 ?_; (case k4 => k_inst); (case k1 => k_asm); (case k2 => k_asm); (case k3 => k_asm); (case k5 => k_is); (case kh => k_is); (case k6 => k_is); (case k7 => k_is); (case k8 => k_is); (case k9 => k_is); (case k10 => k_is); (case k11 => decide +kernel); (case k12 => k_get); k_whole); intro q' h' F' N' l1; (try k_lt l1); (try k_sweep)))
local macro_rules | `(tactic| walk_at "getAttr ref") => `(tactic| (k_here; k_dflt (refine' hk_own ?k1 ?k2 ?k3 ?k4 ?k5 ?k6 ?k7 ?k8 ?k9 ?_; (case k1 => k_asm); (case k2 => k_asm); (case k3 => k_inst); (case k4 => k_is); (case k5 => k_is); (case k6 => k_is); (case k7 => k_is); (case k8 => k_get); (case k9 => k_handed); k_whole)))
local macro_rules | `(tactic| walk_at "getMethod ref") => `(tactic| (k_here; k_dflt (refine' hk_method ?k1 ?k2 ?k3 ?k4 ?k5 ?_; (case k1 => k_asm); (case k2 => k_asm); (case k3 => k_inst); (case k4 => k_is); (case k5 => k_is); k_whole)))
local macro_rules | `(tactic| ktr_enter) => `(tactic| (refine' code_def ?k1 ?k2 ?k3 ?k4 ?k5 ?kA ?kF ?kK ?k6 ?k7 ?k8 ?k9 ?kB ?_ ?c2 ?c3 ?c4 ?c5; (case kA => exact rfl); (case kF => exact rfl); (case kK => first | assumption | exact rfl); (case k1 => k_asm); (case k2 => k_asm); (case k3 => k_asm); (case k4 => k_asm); (case k5 => k_asm); (case k6 => k_is); (case k7 => k_is); (case k8 => ktr_room); (case k9 => first | exact BindsTo.of_eq rfl | exact binds_K (by k_in) rfl (by k_is) rfl rfl rfl); (case c5 => decide); (case kB => exact locs rfl); (case c2 => exact rfl); (case c3 => exact rfl); (case c4 => exact rfl); k_whole; intro g' L' h' FG' F' N' B' X' T'; (try dsimp only); (try k_lift B'); (try k_fold)))
local macro_rules | `(tactic| ktr_call $c:term 0) => `(tactic| (refine wpAny_call ?_; k_dflt (refine' ct_use $c ?k1 ?k2 ?k3 ?k4 ?k5 ?kK ?kd ?ku ?kp ?_; (case k1 => k_asm); (case k2 => k_asm); (case k3 => k_asm); (case k4 => k_asm); (case k5 => k_asm); (case kK => first | assumption | exact rfl); (case kd => ktr_room); (case ku => ktr_units))))
local macro_rules | `(tactic| ktr_call $c:term 1) => `(tactic| (refine' call_meth ?N ?q ?_; (case N => k_asm); (case q => k_mem); k_dflt (refine' ct_use $c ?k1 ?k2 ?k3 ?k4 ?k5 ?kK ?kd ?ku ?kp ?_; (case k1 => k_asm); (case k2 => k_asm); (case k3 => k_asm); (case k4 => k_asm); (case k5 => k_asm); (case kK => first | assumption | exact rfl); (case kd => ktr_room); (case ku => ktr_units))))
local macro_rules | `(tactic| k_mem) => `(tactic| first | assumption | exact List.mem_cons_self .. | (refine' List.mem_cons_of_mem _ ?_; k_mem))
local macro_rules | `(tactic| kst_same) => `(tactic| (intro z h1 h2 h3; (simp only [List.forall_mem_cons, List.not_mem_nil, false_implies, implies_true, and_true, ne_eq] at h2); (simp only [List.contains_cons, List.contains_nil, Bool.or_false, Bool.or_eq_false_iff, beq_eq_false_iff_ne, ne_eq] at h3); (simp [kstB, h1, h2, h3]; done)))
local macro_rules | `(tactic| kby_size) => `(tactic| (rw [PySem.sizeLine_eq]; omega))
local macro_rules | `(tactic| walk_at "call builtin:str.lstrip") => `(tactic| (k_here; (refine KXw.lstrip (by assumption) (by kby_size) ?_); intro _ _))
local macro_rules | `(tactic| walk_at "call builtin:str.strip") => `(tactic| (k_here; (refine KXw.strip (by assumption) (by kby_size) ?_); intro _ _))
local macro_rules | `(tactic| walk_at "call builtin:str.strip") => `(tactic| (k_here; (refine KXw.stripChars (by assumption) (by kby_size) ?_); intro _ _))
local macro_rules | `(tactic| walk_at "call builtin:str.upper") => `(tactic| (k_here; (refine KXw.upper (by assumption) (by decide +kernel) ?_); intro _ _))
local macro_rules | `(tactic| walk_at "call builtin:str.partition") => `(tactic| (k_here; (refine KXpa.partition (by k_asm) (by k_asm) (by decide) (by assumption) (by assumption) (by assumption) (by kby_size) ?_); intro D' _ _ _ _ _ F' N' l1; (try k_lt l1)))
local macro_rules | `(tactic| walk_at "call builtin:str.split") => `(tactic| (k_here; (refine KSpl.split1 (by k_asm) (by k_asm) (by decide) ?_ (by kby_size)); intro D' _ _ _ _ _ F' N' l1; (try k_lt l1)))
section
variable {prog : Program} {w : World} {A : Around} {E : Value → Shared → Prop} {s : Shared}
theorem zlt_item {z TI TO i1 i2 l t : Addr} {k1 k2 : Nat} {xs ys : Array Value} {x y a b : Value} {Q : Value → Shared → Prop} (hh : A.handled = none) (D : ZipApart z TI TO i1 i2 l t)
    (hz : IsZip s.heap z TI TO .none) (hTI : IsPair s.heap TI (.ref i1) (.ref i2)) (hTO : IsPair s.heap TO a b)
    (h1 : s.heap.IsListIter i1 l k1) (h2 : IsTupIter s.heap i2 t k2) (hl : s.heap.IsList l xs) (ht : IsTup s.heap t ys) (hx : xs[k1]? = some x) (hy : ys[k2]? = some y)
    (hQ : ∀ h', IsZip h' z TI TO (rawInt s.heap.objs.size) → IsPair h' TO x y → h'.IsListIter i1 l (k1 + 1) → IsTupIter h' i2 t (k2 + 1) → IsPair h' s.heap.objs.size x y → h'.objs.size = s.heap.objs.size + 1 →
      (∀ c o, c ≠ z → c ≠ TO → c ≠ i1 → c ≠ i2 → s.heap.get? c = some o → h'.get? c = some o) → Q (.ref s.heap.objs.size) { s with heap := h' }) :
    wpAny (model prog w) A (Builtin.«zip.__next__» ⟨[.ref z], []⟩) (fun fin s' => ∃ v, fin = .done (.ret v) ∧ Q v s') E s := by
  show wpAny _ _ (field (.ref z) 2 >>= _) _ _ _
  refine wpAny_bind (wpAny_field hz rfl (x := .bool false) rfl ?_)
  show wpAny _ _ (field (.ref z) 3 >>= _) _ _ _
  refine wpAny_bind (wpAny_field hz rfl (x := .ref TI) rfl ?_)
  refine wpAny_bind (wpAny_seqItems hTI rfl ?_)
  show wpAny _ _ (Builtin.SmallTypes.ownedTupleIsFree (.ref z) >>= _) _ _ _
  refine wpAny_bind ?_
  unfold Builtin.SmallTypes.ownedTupleIsFree
  refine wpAny_bind (wpAny_field hz rfl (x := .none) rfl (wpAny_pure ?_))
  simp only [if_true]
  refine wpAny_bind (wpAny_rule ?_)
  refine wpAny_bind (wpAny_field hz rfl (x := .ref TO) rfl ?_)
  refine wpAny_bind (wpAny_setField_rec hz (by simp) fun h₁ hz₁ hs₁ => ?_)
  replace hz₁ : IsZip h₁ z TI TO .ellipsis := hz₁
  refine wpAny_bind ?_
  simp only [List.zipIdx_cons, List.zipIdx_nil, List.forIn_cons, List.forIn_nil]
  refine wpAny_bind (wpAny_bind (wpAny_onRaise ?_))
  show wpAny _ _ (Builtin.SmallTypes.nextOf (.ref i1) >>= _) _ _ _
  refine wpAny_bind (wpAny_nextOf_list_item (h1.extBut hs₁.extBut D.i1z) (hl.extBut hs₁.extBut D.l1z) hx fun h₂ h1₂ hs₂ => wpAny_pure ?_)
  have hTO₂ : IsPair h₂ TO a b := hs₂.extBut _ _ D.TOi1 (hs₁.extBut _ _ D.TOz hTO)
  refine wpAny_bind (wpAny_seqItems hTO₂ rfl ?_)
  refine wpAny_bind (wpAny_updateSeq_pair hTO₂ fun h₃ hTO₃ hs₃ => ?_)
  replace hTO₃ : IsPair h₃ TO x b := hTO₃
  refine wpAny_bind (wpAny_letGo (wpAny_pure ?_))
  refine wpAny_bind (wpAny_bind (wpAny_onRaise ?_))
  show wpAny _ _ (Builtin.SmallTypes.nextOf (.ref i2) >>= _) _ _ _
  have up3 : ∀ c o, c ≠ z → c ≠ i1 → c ≠ TO → s.heap.get? c = some o → h₃.get? c = some o := fun c o c1 c2 c3 e => hs₃.extBut _ _ c3 (hs₂.extBut _ _ c2 (hs₁.extBut _ _ c1 e))
  refine wpAny_bind (nextOf_tup hh (tupIter_at h2 fun o e => up3 _ o D.i2z D.i12.symm D.TOi2.symm e) (tup_at ht fun o e => up3 _ o D.l2z D.l2i1 D.l2TO e) (fun y' h₄ hy' h2₄ hs₄ => ?_) fun hn => ?_)
  · rw [hy] at hy'
    cases hy'
    refine wpAny_pure ?_
    have hTO₄ : IsPair h₄ TO x b := hs₄.extBut _ _ D.TOi2 hTO₃
    refine wpAny_bind (wpAny_seqItems hTO₄ rfl ?_)
    refine wpAny_bind (wpAny_updateSeq_pair hTO₄ fun h₅ hTO₅ hs₅ => ?_)
    replace hTO₅ : IsPair h₅ TO x y := hTO₅
    refine wpAny_bind (wpAny_letGo (wpAny_pure (wpAny_pure ?_)))
    refine wpAny_bind (wpAny_seqItems hTO₅ rfl ?_)
    refine wpAny_bind (wpAny_newTuple ?_)
    have hsz : h₅.objs.size = s.heap.objs.size := by rw [hs₅.1, hs₄.1, hs₃.1, hs₂.1, hs₁.1]
    have hz₅ : IsZip h₅ z TI TO .ellipsis := hs₅.extBut _ _ D.TOz.symm (hs₄.extBut _ _ D.i2z.symm (hs₃.extBut _ _ D.TOz.symm (hs₂.extBut _ _ D.i1z.symm hz₁)))
    have up5 : ∀ c o, c ≠ z → c ≠ TO → c ≠ i1 → c ≠ i2 → s.heap.get? c = some o → h₅.get? c = some o := fun c o c1 c2 c3 c4 e => hs₅.extBut _ _ c2 (hs₄.extBut _ _ c4 (up3 c o c1 c3 c2 e))
    have h1₅ : h₅.IsListIter i1 l (k1 + 1) := ((h1₂.extBut hs₃.extBut D.TOi1.symm).extBut hs₄.extBut D.i12).extBut hs₅.extBut D.TOi1.symm
    have h2₅ : IsTupIter h₅ i2 t (k2 + 1) := tupIter_at h2₄ fun o e => hs₅.extBut _ _ D.TOi2.symm e
    have hzlt : z < h₅.objs.size := Heap.lt_size hz₅
    show wpAny _ _ (Builtin.SmallTypes.ownedTupleHandOut (.ref z) (.ref h₅.objs.size) >>= _) _ _ _
    refine wpAny_bind ?_
    unfold Builtin.SmallTypes.ownedTupleHandOut
    have hz₆ : IsZip (h₅.push { cls := .type "tuple", data := .seq #[x, y] }) z TI TO .ellipsis := Heap.get?_push_of_some _ hz₅
    refine wpAny_bind (wpAny_setField_rec hz₆ (by simp) fun h₇ hz₇ hs₇ => ?_)
    replace hz₇ : IsZip h₇ z TI TO (rawInt h₅.objs.size) := hz₇
    refine wpAny_setField_rec hz₇ (by simp) fun h₈ hz₈ hs₈ => ?_
    replace hz₈ : IsZip h₈ z TI TO (rawInt h₅.objs.size) := hz₈
    have up8 : ∀ c o, c ≠ z → h₅.get? c = some o → h₈.get? c = some o := fun c o c1 e => hs₈.extBut _ _ c1 (hs₇.extBut _ _ c1 (Heap.get?_push_of_some _ e))
    have hT₈ : IsPair h₈ h₅.objs.size x y := hs₈.extBut _ _ (Nat.ne_of_gt hzlt) (hs₇.extBut _ _ (Nat.ne_of_gt hzlt) (Heap.get?_push_size _ rfl))
    have hz8 : h₈.objs.size = h₅.objs.size + 1 := by rw [hs₈.1, hs₇.1, Heap.size_push]
    rw [hsz] at hz₈ hT₈ hz8
    refine wpAny_pure ⟨_, rfl, ?_⟩
    show Q (.ref h₅.objs.size) _
    rw [hsz]
    exact hQ h₈ hz₈ (up8 _ _ D.TOz hTO₅) (h1₅.at fun o e => up8 _ o D.i1z e) (tupIter_at h2₅ fun o e => up8 _ o D.i2z e) hT₈ hz8 fun c o c1 c2 c3 c4 e => up8 c o c1 (up5 c o c1 c2 c3 c4 e)
  · rw [hy] at hn
    cases hn
theorem zlt_end {z TI TO i1 i2 l t : Addr} {k1 : Nat} {xs ys : Array Value} {a b : Value} {Q : Fin → Shared → Prop} (hh : A.handled = none) (D : ZipApart z TI TO i1 i2 l t)
    (hz : IsZip s.heap z TI TO .none) (hTI : IsPair s.heap TI (.ref i1) (.ref i2)) (hTO : IsPair s.heap TO a b)
    (h1 : s.heap.IsListIter i1 l k1) (hl : s.heap.IsList l xs) (hx : xs[k1]? = none)
    (hE : ∀ h' e, (∀ c o, c ≠ z → c ≠ TO → c ≠ i1 → c ≠ i2 → s.heap.get? c = some o → h'.get? c = some o) → (∃ o, h'.get? e = some o ∧ o.cls = .type "StopIteration") → E (.ref e) { s with heap := h' }) :
    wpAny (model prog w) A (Builtin.«zip.__next__» ⟨[.ref z], []⟩) Q E s := by
  show wpAny _ _ (field (.ref z) 2 >>= _) _ _ _
  refine wpAny_bind (wpAny_field hz rfl (x := .bool false) rfl ?_)
  show wpAny _ _ (field (.ref z) 3 >>= _) _ _ _
  refine wpAny_bind (wpAny_field hz rfl (x := .ref TI) rfl ?_)
  refine wpAny_bind (wpAny_seqItems hTI rfl ?_)
  show wpAny _ _ (Builtin.SmallTypes.ownedTupleIsFree (.ref z) >>= _) _ _ _
  refine wpAny_bind ?_
  unfold Builtin.SmallTypes.ownedTupleIsFree
  refine wpAny_bind (wpAny_field hz rfl (x := .none) rfl (wpAny_pure ?_))
  simp only [if_true]
  refine wpAny_bind (wpAny_rule ?_)
  refine wpAny_bind (wpAny_field hz rfl (x := .ref TO) rfl ?_)
  refine wpAny_bind (wpAny_setField_rec hz (by simp) fun h₁ hz₁ hs₁ => ?_)
  replace hz₁ : IsZip h₁ z TI TO .ellipsis := hz₁
  refine wpAny_bind ?_
  simp only [List.zipIdx_cons, List.zipIdx_nil, List.forIn_cons, List.forIn_nil]
  refine wpAny_bind (wpAny_bind (wpAny_onRaise ?_))
  show wpAny _ _ (Builtin.SmallTypes.nextOf (.ref i1) >>= _) _ _ _
  refine wpAny_bind (wpAny_nextOf_list_end hh (h1.extBut hs₁.extBut D.i1z) (hl.extBut hs₁.extBut D.l1z) hx fun h₂ e hs₂ he => ?_)
  obtain ⟨oe, hoe, hce⟩ := he
  have hz₂ : IsZip h₂ z TI TO .ellipsis := hs₂ _ _ D.i1z.symm hz₁
  have hez : e ≠ z := fun q => by subst q; rw [hz₂] at hoe; cases hoe; simp at hce
  exact wpAny_setField_rec hz₂ (by simp) fun h₃ _ hs₃ => hE h₃ e (fun c o c1 _ c3 _ q => hs₃.extBut _ _ c1 (hs₂ _ _ c3 (hs₁.extBut _ _ c1 q))) ⟨oe, hs₃.extBut _ _ hez hoe, hce⟩
end

end Mine
end
section
open PySem PySem.W PyProof.Rows PySem.Calls Builtin Builtin.ObjectAttr
namespace Mine
set_option maxRecDepth 100000
set_option maxHeartbeats 8000000
local macro_rules | `(tactic| walk_at "getAttr ref") => `(tactic| (k_here; k_dflt (refine' hk_bound ?k1 ?k2 ?k3 ?k4 ?k5 ?kh ?k6 ?k7 ?k8 ?k9 ?k10 ?k11 ?k12 ?_; (case k4 => k_inst); (case k1 => k_asm); (case k2 => k_asm); (case k3 => k_asm); (case k5 => k_is); (case kh => k_is); (case k6 => k_is); (case k7 => k_is); (case k8 => k_is); (case k9 => k_is); (case k10 => k_is); (case k11 => decide +kernel); (case k12 => k_get); k_whole); intro q' h' F' N' l1; (try k_lt l1); (try k_sweep)))
local macro_rules | `(tactic| walk_at "getAttr ref") => `(tactic| (k_here; k_dflt (refine' hk_own ?k1 ?k2 ?k3 ?k4 ?k5 ?k6 ?k7 ?k8 ?k9 ?_; (case k1 => k_asm); (case k2 => k_asm); (case k3 => k_inst); (case k4 => k_is); (case k5 => k_is); (case k6 => k_is); (case k7 => k_is); (case k8 => k_get); (case k9 => k_handed); k_whole)))
local macro_rules | `(tactic| walk_at "getMethod ref") => `(tactic| (k_here; k_dflt (refine' hk_method ?k1 ?k2 ?k3 ?k4 ?k5 ?_; (case k1 => k_asm); (case k2 => k_asm); (case k3 => k_inst); (case k4 => k_is); (case k5 => k_is); k_whole)))
local macro_rules | `(tactic| ktr_enter) => `(tactic| (refine' code_def ?k1 ?k2 ?k3 ?k4 ?k5 ?kA ?kF ?kK ?k6 ?k7 ?k8 ?k9 ?kB ?_ ?c2 ?c3 ?c4 ?c5; (case kA => exact rfl); (case kF => exact rfl); (case kK => first | assumption | exact rfl); (case k1 => k_asm); (case k2 => k_asm); (case k3 => k_asm); (case k4 => k_asm); (case k5 => k_asm); (case k6 => k_is); (case k7 => k_is); (case k8 => ktr_room); (case k9 => first | exact BindsTo.of_eq rfl | exact binds_K (by k_in) rfl (by k_is) rfl rfl rfl); (case c5 => decide); (case kB => exact locs rfl); (case c2 => exact rfl); (case c3 => exact rfl); (case c4 => exact rfl); k_whole; intro g' L' h' FG' F' N' B' X' T'; (try dsimp only); (try k_lift B'); (try k_fold)))
local macro_rules | `(tactic| ktr_call $c:term 0) => `(tactic| (refine wpAny_call ?_; k_dflt (refine' ct_use $c ?k1 ?k2 ?k3 ?k4 ?k5 ?kK ?kd ?ku ?kp ?_; (case k1 => k_asm); (case k2 => k_asm); (case k3 => k_asm); (case k4 => k_asm); (case k5 => k_asm); (case kK => first | assumption | exact rfl); (case kd => ktr_room); (case ku => ktr_units))))
local macro_rules | `(tactic| ktr_call $c:term 1) => `(tactic| (refine' call_meth ?N ?q ?_; (case N => k_asm); (case q => k_mem); k_dflt (refine' ct_use $c ?k1 ?k2 ?k3 ?k4 ?k5 ?kK ?kd ?ku ?kp ?_; (case k1 => k_asm); (case k2 => k_asm); (case k3 => k_asm); (case k4 => k_asm); (case k5 => k_asm); (case kK => first | assumption | exact rfl); (case kd => ktr_room); (case ku => ktr_units))))
local macro_rules | `(tactic| k_mem) => `(tactic| first | assumption | exact List.mem_cons_self .. | (refine' List.mem_cons_of_mem _ ?_; k_mem))
local macro_rules | `(tactic| kst_same) => `(tactic| (intro z h1 h2 h3; (simp only [List.forall_mem_cons, List.not_mem_nil, false_implies, implies_true, and_true, ne_eq] at h2); (simp only [List.contains_cons, List.contains_nil, Bool.or_false, Bool.or_eq_false_iff, beq_eq_false_iff_ne, ne_eq] at h3); (simp [kstB, h1, h2, h3]; done)))
local macro_rules | `(tactic| kby_size) => `(tactic| (rw [PySem.sizeLine_eq]; omega))
local macro_rules | `(tactic| walk_at "call builtin:str.lstrip") => `(tactic| (k_here; (refine KXw.lstrip (by assumption) (by kby_size) ?_); intro _ _))
local macro_rules | `(tactic| walk_at "call builtin:str.strip") => `(tactic| (k_here; (refine KXw.strip (by assumption) (by kby_size) ?_); intro _ _))
local macro_rules | `(tactic| walk_at "call builtin:str.strip") => `(tactic| (k_here; (refine KXw.stripChars (by assumption) (by kby_size) ?_); intro _ _))
local macro_rules | `(tactic| walk_at "call builtin:str.upper") => `(tactic| (k_here; (refine KXw.upper (by assumption) (by decide +kernel) ?_); intro _ _))
local macro_rules | `(tactic| walk_at "call builtin:str.partition") => `(tactic| (k_here; (refine KXpa.partition (by k_asm) (by k_asm) (by decide) (by assumption) (by assumption) (by assumption) (by kby_size) ?_); intro D' _ _ _ _ _ F' N' l1; (try k_lt l1)))
local macro_rules | `(tactic| walk_at "call builtin:str.split") => `(tactic| (k_here; (refine KSpl.split1 (by k_asm) (by k_asm) (by decide) ?_ (by kby_size)); intro D' _ _ _ _ _ F' N' l1; (try k_lt l1)))
section
variable {prog : Program} {w : World} {A : Around} {E : Value → Shared → Prop} {s : Shared}
theorem walks_zlt (hh : A.handled = none) (z TI TO i1 i2 l t : Addr) (D : ZipApart z TI TO i1 i2 l t) (xs ys : Array Value) (hle : xs.size ≤ ys.size) :
    WalksT prog w A z [z, TI, TO, i1, i2, l, t] [z, TO, i1, i2] xs.size
      (fun i vals => ∃ x y, xs[i]? = some x ∧ ys[i]? = some y ∧ vals = #[x, y])
      (fun i h => IsZip h z TI TO .none ∧ IsPair h TI (.ref i1) (.ref i2) ∧ (∃ a b, IsPair h TO a b) ∧ h.IsListIter i1 l i ∧ IsTupIter h i2 t i ∧ h.IsList l xs ∧ IsTup h t ys)
      (fun i T h => IsZip h z TI TO (rawInt T) ∧ IsPair h TI (.ref i1) (.ref i2) ∧ (∃ a b, IsPair h TO a b) ∧ h.IsListIter i1 l (i + 1) ∧ IsTupIter h i2 t (i + 1) ∧ h.IsList l xs ∧ IsTup h t ys ∧ T ≠ z ∧ T ≠ TO ∧ T ≠ i1 ∧ T ≠ i2) where
  sub := fun c hc => by simp at hc ⊢; rcases hc with rfl | rfl | rfl | rfl <;> simp
  frame := fun i h h' hst hk => by
    obtain ⟨hz, hTI, ⟨a, b, hTO⟩, h1, h2, hl1, hl2⟩ := hst
    exact ⟨hk z (by simp) _ hz, hk TI (by simp) _ hTI, ⟨a, b, hk TO (by simp) _ hTO⟩, h1.at fun o e => hk i1 (by simp) o e, tupIter_at h2 fun o e => hk i2 (by simp) o e, hl1.at fun o e => hk l (by simp) o e, tup_at hl2 fun o e => hk t (by simp) o e⟩
  item := fun i s Q E hi hst hQ => by
    obtain ⟨hz, hTI, ⟨a, b, hTO⟩, h1, h2, hl1, hl2⟩ := hst
    have hiy : i < ys.size := Nat.lt_of_lt_of_le hi hle
    have hT : s.TypeIs (.ref z) "zip" := ⟨_, hz, rfl⟩
    unfold pyNext
    refine wpAny_bind (wpAny_attempt (wpAny_callSpecial?_slot (name := Str.ofString "__next__") hT PySem.F.slot_zip_next (wpAny_call_entry PySem.F.slot_zip_next hT PySem.F.entry_zip_next
      (zlt_item (show A.in1.handled = none from hh) D hz hTI hTO h1 h2 hl1 hl2 (Array.getElem?_eq_getElem hi) (Array.getElem?_eq_getElem hiy) fun h' a1 a2 a3 a4 a5 a6 hk => wpAny_pure ?_) (PySem.F.args_zip_next_1 _))))
    have lt : ∀ {c o}, s.heap.get? c = some o → s.heap.objs.size ≠ c := fun e => Nat.ne_of_gt (Heap.lt_size e)
    exact hQ s.heap.objs.size #[xs[i], ys[i]] h' s.toks ⟨_, _, Array.getElem?_eq_getElem hi, Array.getElem?_eq_getElem hiy, rfl⟩ (Nat.le_refl _) ⟨_, a5, rfl, _, rfl⟩
      ⟨a1, hk _ _ D.TIz D.TITO D.TIi1 D.TIi2 hTI, ⟨_, _, a2⟩, a3, a4, hl1.at fun o e => hk _ o D.l1z D.l1TO D.l1i1 D.l1i2 e, tup_at hl2 fun o e => hk _ o D.l2z D.l2TO D.l2i1 D.l2i2 e,
        lt hz, lt hTO, (by obtain ⟨_, e, _⟩ := h1; exact lt e), (by obtain ⟨_, e, _⟩ := h2; exact lt e)⟩
      fun c o hc e => hk c o (fun x => hc (by simp [x])) (fun x => hc (by simp [x])) (fun x => hc (by simp [x])) (fun x => hc (by simp [x])) e
  go := fun elts k pos i T s Q E hm hQ => by
    obtain ⟨hz, hTI, ⟨a, b, hTO⟩, h1, h2, hl1, hl2, _⟩ := hm
    refine wpAny_letOwnedTupleGo_zip hz fun h' hz' hs' => hQ h' ⟨hz', hs'.extBut _ _ D.TIz hTI, ⟨a, b, hs'.extBut _ _ D.TOz hTO⟩, h1.extBut hs'.extBut D.i1z, tupIter_at h2 fun o e => hs'.extBut _ _ D.i2z e,
      hl1.extBut hs'.extBut D.l1z, tup_at hl2 fun o e => hs'.extBut _ _ D.l2z e⟩ fun c o hc e => hs'.extBut _ _ (fun x => hc (by simp [x])) e
  apart := fun i T h hm hT => by
    obtain ⟨_, _, _, _, _, _, _, t1, t2, t3, t4⟩ := hm
    simp at hT
    rcases hT with rfl | rfl | rfl | rfl
    · exact t1 rfl
    · exact t2 rfl
    · exact t3 rfl
    · exact t4 rfl
  done := fun s Q E hst hQ => by
    obtain ⟨hz, hTI, ⟨a, b, hTO⟩, h1, h2, hl1, hl2⟩ := hst
    have hT : s.TypeIs (.ref z) "zip" := ⟨_, hz, rfl⟩
    unfold pyNext
    refine wpAny_bind (wpAny_attempt (wpAny_callSpecial?_slot (name := Str.ofString "__next__") hT PySem.F.slot_zip_next (wpAny_call_entry PySem.F.slot_zip_next hT PySem.F.entry_zip_next
      (zlt_end (ys := ys) (show A.in1.handled = none from hh) D hz hTI hTO h1 hl1 (Array.getElem?_eq_none (Nat.le_refl _)) fun h' e hk he => ?_) (PySem.F.args_zip_next_1 _))))
    obtain ⟨o, ho, hc⟩ := he
    refine wpAny_bind (wpAny_isInstance (T := "StopIteration") (b := true) ⟨o, ho, hc⟩ isSubtype_stop ?_)
    exact wpAny_pure (hQ _ s.toks fun c o' hc' e' => hk c o' (fun x => hc' (by simp [x])) (fun x => hc' (by simp [x])) (fun x => hc' (by simp [x])) (fun x => hc' (by simp [x])) e')
  self := fun i s Q E hst hQ => wpAny_pyIter_zip hst.1 hQ
end

end Mine
end
section
open PySem PySem.W PyProof.Rows PySem.Calls Builtin Builtin.ObjectAttr
namespace Mine
set_option maxRecDepth 100000
set_option maxHeartbeats 8000000
local macro_rules | `(tactic| walk_at "getAttr ref") => `(tactic| (k_here; k_dflt (refine' hk_bound ?k1 ?k2 ?k3 ?k4 ?k5 ?kh ?k6 ?k7 ?k8 ?k9 ?k10 ?k11 ?k12 ?_; (case k4 => k_inst); (case k1 => k_asm); (case k2 => k_asm); (case k3 => k_asm); (case k5 => k_is); (case kh => k_is); (case k6 => k_is); (case k7 => k_is); (case k8 => k_is); (case k9 => k_is); (case k10 => k_is); (case k11 => decide +kernel); (case k12 => k_get); k_whole); intro q' h' F' N' l1; (try k_lt l1); (try k_sweep)))
local macro_rules | `(tactic| walk_at "getAttr ref") => `(tactic| (k_here; k_dflt (refine' hk_own ?k1 ?k2 ?k3 ?k4 ?k5 ?k6 ?k7 ?k8 ?k9 ?_; (case k1 => k_asm); (case k2 => k_asm); (case k3 => k_inst); (case k4 => k_is); (case k5 => k_is); (case k6 => k_is); (case k7 => k_is); (case k8 => k_get); (case k9 => k_handed); k_whole)))
local macro_rules | `(tactic| walk_at "getMethod ref") => `(tactic| (k_here; k_dflt (refine' hk_method ?k1 ?k2 ?k3 ?k4 ?k5 ?_; (case k1 => k_asm); (case k2 => k_asm); (case k3 => k_inst); (case k4 => k_is); (case k5 => k_is); k_whole)))
local macro_rules | `(tactic| ktr_enter) => `(tactic| (refine' code_def ?k1 ?k2 ?k3 ?k4 ?k5 ?kA ?kF ?kK ?k6 ?k7 ?k8 ?k9 ?kB ?_ ?c2 ?c3 ?c4 ?c5; (case kA => exact rfl); (case kF => exact rfl); (case kK => first | assumption | exact rfl); (case k1 => k_asm); (case k2 => k_asm); (case k3 => k_asm); (case k4 => k_asm); (case k5 => k_asm); (case k6 => k_is); (case k7 => k_is); (case k8 => ktr_room); (case k9 => first | exact BindsTo.of_eq rfl | exact binds_K (by k_in) rfl (by k_is) rfl rfl rfl); (case c5 => decide); (case kB => exact locs rfl); (case c2 => exact rfl); (case c3 => exact rfl); (case c4 => exact rfl); k_whole; intro g' L' h' FG' F' N' B' X' T'; (try dsimp only); (try k_lift B'); (try k_fold)))
local macro_rules | `(tactic| ktr_call $c:term 0) => `(tactic| (refine wpAny_call ?_; k_dflt (refine' ct_use $c ?k1 ?k2 ?k3 ?k4 ?k5 ?kK ?kd ?ku ?kp ?_; (case k1 => k_asm); (case k2 => k_asm); (case k3 => k_asm); (case k4 => k_asm); (case k5 => k_asm); (case kK => first | assumption | exact rfl); (case kd => ktr_room); (case ku => ktr_units))))
local macro_rules | `(tactic| ktr_call $c:term 1) => `(tactic| (refine' call_meth ?N ?q ?_; (case N => k_asm); (case q => k_mem); k_dflt (refine' ct_use $c ?k1 ?k2 ?k3 ?k4 ?k5 ?kK ?kd ?ku ?kp ?_; (case k1 => k_asm); (case k2 => k_asm); (case k3 => k_asm); (case k4 => k_asm); (case k5 => k_asm); (case kK => first | assumption | exact rfl); (case kd => ktr_room); (case ku => ktr_units))))
local macro_rules | `(tactic| k_mem) => `(tactic| first | assumption | exact List.mem_cons_self .. | (refine' List.mem_cons_of_mem _ ?_; k_mem))
local macro_rules | `(tactic| kst_same) => `(tactic| (intro z h1 h2 h3; (simp only [List.forall_mem_cons, List.not_mem_nil, false_implies, implies_true, and_true, ne_eq] at h2); (simp only [List.contains_cons, List.contains_nil, Bool.or_false, Bool.or_eq_false_iff, beq_eq_false_iff_ne, ne_eq] at h3); (simp [kstB, h1, h2, h3]; done)))
local macro_rules | `(tactic| kby_size) => `(tactic| (rw [PySem.sizeLine_eq]; omega))
local macro_rules | `(tactic| walk_at "call builtin:str.lstrip") => `(tactic| (k_here; (refine KXw.lstrip (by assumption) (by kby_size) ?_); intro _ _))
local macro_rules | `(tactic| walk_at "call builtin:str.strip") => `(tactic| (k_here; (refine KXw.strip (by assumption) (by kby_size) ?_); intro _ _))
local macro_rules | `(tactic| walk_at "call builtin:str.strip") => `(tactic| (k_here; (refine KXw.stripChars (by assumption) (by kby_size) ?_); intro _ _))
local macro_rules | `(tactic| walk_at "call builtin:str.upper") => `(tactic| (k_here; (refine KXw.upper (by assumption) (by decide +kernel) ?_); intro _ _))
local macro_rules | `(tactic| walk_at "call builtin:str.partition") => `(tactic| (k_here; (refine KXpa.partition (by k_asm) (by k_asm) (by decide) (by assumption) (by assumption) (by assumption) (by kby_size) ?_); intro D' _ _ _ _ _ F' N' l1; (try k_lt l1)))
local macro_rules | `(tactic| walk_at "call builtin:str.split") => `(tactic| (k_here; (refine KSpl.split1 (by k_asm) (by k_asm) (by decide) ?_ (by kby_size)); intro D' _ _ _ _ _ F' N' l1; (try k_lt l1)))
section
variable {prog : Program} {w : World} {A : Around} {E : Value → Shared → Prop} {s : Shared} {env : Env} {h₀ : Heap} {L : Addr} {m : Str → Option Value}
/-- «zip(l1, l2)» of a list and a tuple of the ledger, for pair_listcomp -/
theorem zip_srcT {elt : PySem.Expr} {x x₂ : Str} {scope : Scope} {cl : List (Str × Addr)} {Q : Value → Shared → Prop} {l1 l2 : Addr} {xs ys : List Value} {n1 n2 : Nat} {news : Led} (J : Nat → List Value → Led → Prop)
    (hh : A.handled = none) (F : Fr h₀ L s.heap m) (N : News h₀ L s.heap news) (h1 : (l1, listOf xs.toArray n1) ∈ news) (h2 : (l2, ({ cls := .type "tuple", data := .seq ys.toArray n2 } : Obj)) ∈ news) (hle : xs.length ≤ ys.length) (hz : xs.length ≤ sizeLine) (hJ : J 0 [] news)
    (hJs : ∀ i ys' nx, J i ys' nx → (l1, listOf xs.toArray n1) ∈ nx ∧ (l2, ({ cls := .type "tuple", data := .seq ys.toArray n2 } : Obj)) ∈ nx ∧ ∀ p ∈ nx, ∀ b, @LE.le Nat _ s.heap.objs.size b → @LT.lt Nat _ b (s.heap.objs.size + 5) → p.1 ≠ b)
    (turn : ∀ i v1 v2, xs[i]? = some v1 → ys[i]? = some v2 → ∀ ys' nx C oC D ow h tk' m₂ (E' : Value → Shared → Prop), ow.map (·.1) = [s.heap.objs.size + 4, s.heap.objs.size + 2, s.heap.objs.size + 3, s.heap.objs.size, s.heap.objs.size + 1] → LCg.NsObj oC m₂ → m₂ x = some v1 → m₂ x₂ = some v2 → Fr h₀ L h m → News h₀ L h ((C, oC) :: (D, LCg.lst ys') :: (ow ++ nx)) →
      (∀ p ∈ nx, p.1 ≠ C ∧ p.1 ≠ D) → C ≠ D → J i ys' nx →
      wpAny (model prog w) A (eval elt (compEnvC scope cl C env)) (fun y s' => ∃ h' tk'' nx', s' = { s with heap := h', toks := tk'' } ∧ Fr h₀ L h' m ∧ News h₀ L h' ((C, oC) :: (D, LCg.lst ys') :: (ow ++ nx')) ∧ (∀ p ∈ nx', p.1 ≠ C ∧ p.1 ≠ D) ∧ J (i + 1) (ys' ++ [y]) nx') E' { s with heap := h, toks := tk' })
    (done : ∀ ys' nx D h tk', J xs.length ys' nx → Fr h₀ L h m → News h₀ L h ((D, LCg.lst ys') :: nx) → (∀ p ∈ nx, p.1 ≠ D) → Q (.ref D) { s with heap := h, toks := tk' }) :
    wpAny (model prog w) A (call (.type "zip") [.ref l1, .ref l2]) (PairSrc prog w A h₀ L m env elt x x₂ scope cl Q) E s := by
  have a1 := N.isList h1
  have a2 : IsTup s.heap l2 ys.toArray := ⟨_, (N _ h2).1, rfl, _, rfl⟩
  refine call_zip_lt a1 a2 ?_
  intro h' e1 e2 e3 e4 e5 e6 hk
  have lt1 : l1 < s.heap.objs.size := Heap.lt_size (N _ h1).1
  have lt2 : l2 < s.heap.objs.size := Heap.lt_size (N _ h2).1
  have own5 : ∀ b ∈ [s.heap.objs.size + 4, s.heap.objs.size + 2, s.heap.objs.size + 3, s.heap.objs.size, s.heap.objs.size + 1], @LE.le Nat _ s.heap.objs.size b ∧ @LT.lt Nat _ b (s.heap.objs.size + 5) := by
    intro b hb
    simp only [List.mem_cons, List.not_mem_nil, or_false] at hb
    rcases hb with rfl | rfl | rfl | rfl | rfl
    · exact ⟨by omega, by omega⟩
    · exact ⟨by omega, by omega⟩
    · exact ⟨by omega, by omega⟩
    · exact ⟨by omega, by omega⟩
    · exact ⟨by omega, by omega⟩
  refine ⟨s.heap.objs.size + 4, _, _, [s.heap.objs.size + 4, s.heap.objs.size + 2, s.heap.objs.size + 3, s.heap.objs.size, s.heap.objs.size + 1], _, _, _, _, news, J, rfl, (walks_zlt (prog := prog) (w := w) hh _ _ _ _ _ l1 l2 (zipApart_new lt1 lt2) xs.toArray ys.toArray (by simpa using hle)).toU, ?_, ⟨e1, e2, ⟨_, _, e3⟩, e4, e5, a1.at fun o q => hk _ o q, tup_at a2 fun o q => hk _ o q⟩, fr_ext F hk, news_ext N hk, ?_, ?_, ?_, ?_, hJ, ?_, ?_, ?_⟩
  · rw [List.size_toArray]
    exact hz
  · intro b hb
    obtain ⟨b1, b2⟩ := own5 b hb
    refine ⟨by show @LT.lt Nat _ b h'.objs.size; rw [e6]; exact b2, ?_, Ne.symm (Nat.ne_of_lt (Nat.lt_of_lt_of_le F.ns.lt b1)), fun p hp => Nat.ne_of_lt (Nat.lt_of_lt_of_le (Heap.lt_size (N p hp).1) b1)⟩
    cases q : h₀.get? b with
    | none => rfl
    | some o => exact absurd (Heap.lt_size (F.keep _ _ q)) (Nat.not_lt.mpr b1)
  · intro b hb
    simp only [List.mem_cons, List.not_mem_nil, or_false] at hb ⊢
    rcases hb with rfl | rfl | rfl | rfl <;> simp
  · rintro i h ⟨z1, z2, ⟨_, _, z3⟩, z4, z5, _, _⟩ b hb
    simp only [List.mem_cons, List.not_mem_nil, or_false] at hb
    rcases hb with rfl | rfl | rfl | rfl | rfl
    · exact ⟨_, z1⟩
    · exact ⟨_, z2⟩
    · exact ⟨_, z3⟩
    · exact let ⟨o, ho, _⟩ := z4; ⟨o, ho⟩
    · exact let ⟨o, ho, _⟩ := z5; ⟨o, ho⟩
  · intro b hb
    simp only [List.mem_cons, List.not_mem_nil, or_false] at hb ⊢
    rcases hb with rfl | rfl | rfl | rfl | rfl | rfl | rfl
    · simp
    · simp
    · simp
    · simp
    · simp
    · exact .inr (.inr ⟨_, fun i ys' nx hj => (hJs i ys' nx hj).1⟩)
    · exact .inr (.inr ⟨_, fun i ys' nx hj => (hJs i ys' nx hj).2.1⟩)
  · intro i ys' nx hj p hp hm
    obtain ⟨b1, b2⟩ := own5 _ hm
    exact (hJs i ys' nx hj).2.2 p hp _ b1 b2 rfl
  · rintro i vals hi ⟨v1, v2, q1, q2, rfl⟩
    refine ⟨v1, v2, rfl, fun ys' nx C oC D ow h tk' m₂ E' how => turn i v1 v2 ?_ ?_ ys' nx C oC D ow h tk' m₂ E' how⟩
    · simpa using q1
    · simpa using q2
  · rw [List.size_toArray]
    exact done
end

end Mine
end
section
open PySem PySem.W PyProof.Rows PySem.Calls Builtin Builtin.ObjectAttr
namespace Mine
set_option maxRecDepth 100000
set_option maxHeartbeats 8000000
local macro_rules | `(tactic| walk_at "getAttr ref") => `(tactic| (k_here; k_dflt (refine' hk_bound ?k1 ?k2 ?k3 ?k4 ?k5 ?kh ?k6 ?k7 ?k8 ?k9 ?k10 ?k11 ?k12 ?_; (case k4 => k_inst); (case k1 => k_asm); (case k2 => k_asm); (case k3 => k_asm); (case k5 => k_is); (case kh => k_is); (case k6 => k_is); (case k7 => k_is); (case k8 => k_is); (case k9 => k_is); (case k10 => k_is); (case k11 => decide +kernel); (case k12 => k_get); k_whole); intro q' h' F' N' l1; (try k_lt l1); (try k_sweep)))
local macro_rules | `(tactic| walk_at "getAttr ref") => `(tactic| (k_here; k_dflt (refine' hk_own ?k1 ?k2 ?k3 ?k4 ?k5 ?k6 ?k7 ?k8 ?k9 ?_; (case k1 => k_asm); (case k2 => k_asm); (case k3 => k_inst); (case k4 => k_is); (case k5 => k_is); (case k6 => k_is); (case k7 => k_is); (case k8 => k_get); (case k9 => k_handed); k_whole)))
local macro_rules | `(tactic| walk_at "getMethod ref") => `(tactic| (k_here; k_dflt (refine' hk_method ?k1 ?k2 ?k3 ?k4 ?k5 ?_; (case k1 => k_asm); (case k2 => k_asm); (case k3 => k_inst); (case k4 => k_is); (case k5 => k_is); k_whole)))
local macro_rules | `(tactic| ktr_enter) => `(tactic| (refine' code_def ?k1 ?k2 ?k3 ?k4 ?k5 ?kA ?kF ?kK ?k6 ?k7 ?k8 ?k9 ?kB ?_ ?c2 ?c3 ?c4 ?c5; (case kA => exact rfl); (case kF => exact rfl); (case kK => first | assumption | exact rfl); (case k1 => k_asm); (case k2 => k_asm); (case k3 => k_asm); (case k4 => k_asm); (case k5 => k_asm); (case k6 => k_is); (case k7 => k_is); (case k8 => ktr_room); (case k9 => first | exact BindsTo.of_eq rfl | exact binds_K (by k_in) rfl (by k_is) rfl rfl rfl); (case c5 => decide); (case kB => exact locs rfl); (case c2 => exact rfl); (case c3 => exact rfl); (case c4 => exact rfl); k_whole; intro g' L' h' FG' F' N' B' X' T'; (try dsimp only); (try k_lift B'); (try k_fold)))
local macro_rules | `(tactic| ktr_call $c:term 0) => `(tactic| (refine wpAny_call ?_; k_dflt (refine' ct_use $c ?k1 ?k2 ?k3 ?k4 ?k5 ?kK ?kd ?ku ?kp ?_; (case k1 => k_asm); (case k2 => k_asm); (case k3 => k_asm); (case k4 => k_asm); (case k5 => k_asm); (case kK => first | assumption | exact rfl); (case kd => ktr_room); (case ku => ktr_units))))
local macro_rules | `(tactic| ktr_call $c:term 1) => `(tactic| (refine' call_meth ?N ?q ?_; (case N => k_asm); (case q => k_mem); k_dflt (refine' ct_use $c ?k1 ?k2 ?k3 ?k4 ?k5 ?kK ?kd ?ku ?kp ?_; (case k1 => k_asm); (case k2 => k_asm); (case k3 => k_asm); (case k4 => k_asm); (case k5 => k_asm); (case kK => first | assumption | exact rfl); (case kd => ktr_room); (case ku => ktr_units))))
local macro_rules | `(tactic| k_mem) => `(tactic| first | assumption | exact List.mem_cons_self .. | (refine' List.mem_cons_of_mem _ ?_; k_mem))
local macro_rules | `(tactic| kst_same) => `(tactic| (intro z h1 h2 h3; (simp only [List.forall_mem_cons, List.not_mem_nil, false_implies, implies_true, and_true, ne_eq] at h2); (simp only [List.contains_cons, List.contains_nil, Bool.or_false, Bool.or_eq_false_iff, beq_eq_false_iff_ne, ne_eq] at h3); (simp [kstB, h1, h2, h3]; done)))
local macro_rules | `(tactic| kby_size) => `(tactic| (rw [PySem.sizeLine_eq]; omega))
local macro_rules | `(tactic| walk_at "call builtin:str.lstrip") => `(tactic| (k_here; (refine KXw.lstrip (by assumption) (by kby_size) ?_); intro _ _))
local macro_rules | `(tactic| walk_at "call builtin:str.strip") => `(tactic| (k_here; (refine KXw.strip (by assumption) (by kby_size) ?_); intro _ _))
local macro_rules | `(tactic| walk_at "call builtin:str.strip") => `(tactic| (k_here; (refine KXw.stripChars (by assumption) (by kby_size) ?_); intro _ _))
local macro_rules | `(tactic| walk_at "call builtin:str.upper") => `(tactic| (k_here; (refine KXw.upper (by assumption) (by decide +kernel) ?_); intro _ _))
local macro_rules | `(tactic| walk_at "call builtin:str.partition") => `(tactic| (k_here; (refine KXpa.partition (by k_asm) (by k_asm) (by decide) (by assumption) (by assumption) (by assumption) (by kby_size) ?_); intro D' _ _ _ _ _ F' N' l1; (try k_lt l1)))
local macro_rules | `(tactic| walk_at "call builtin:str.split") => `(tactic| (k_here; (refine KSpl.split1 (by k_asm) (by k_asm) (by decide) ?_ (by kby_size)); intro D' _ _ _ _ _ F' N' l1; (try k_lt l1)))
section
variable {M : Model} {A : Around} {E : Value → Shared → Prop} {s : Shared} {env : Env}
/-- a comprehension's own names, the first target a cell -/
theorem newEnv_cell {scope : Scope} {globals : Addr} {qual n0 x x₂ g : Str} {Q : Env → Shared → Prop} (hn : scope.names = [(n0, .local), (x, .cell), (x₂, .local), (g, .globalImplicit)])
    (h : Q { scope := scope, locals := s.heap.objs.size, globals := globals, cells := [(x, s.heap.objs.size + 1)], qual := qual, func := none, code := env.code, frame := env.frame, builtins := env.builtins }
      { s with heap := (s.heap.push { cls := .type "dict", data := .dict #[] }).push { cls := .type "cell", data := .cell none } }) :
    wpAny M A (newFunctionEnv scope globals [] [] qual none .none (some env)) Q E s := by
  unfold newFunctionEnv
  rw [hn]
  refine wpAny_bind (wpAny_alloc ?_)
  simp only [List.forIn_cons, List.forIn_nil]
  have k1 : (NameKind.local == NameKind.cell) = false := rfl
  have k2 : (NameKind.globalImplicit == NameKind.cell) = false := rfl
  have k3 : (NameKind.cell == NameKind.cell) = true := rfl
  simp only [k1, k2, k3, if_true, Bool.false_eq_true, if_false, pure_bind, bind_assoc]
  refine wpAny_bind (wpAny_alloc ?_)
  refine wpAny_pure ?_
  simp only [Heap.size_push]
  exact h
end

end Mine
end
section
open PySem PySem.W PyProof.Rows PySem.Calls Builtin Builtin.ObjectAttr
namespace Mine
set_option maxRecDepth 100000
set_option maxHeartbeats 8000000
local macro_rules | `(tactic| walk_at "getAttr ref") => `(tactic| (k_here; k_dflt (refine' hk_bound ?k1 ?k2 ?k3 ?k4 ?k5 ?kh ?k6 ?k7 ?k8 ?k9 ?k10 ?k11 ?k12 ?_; (case k4 => k_inst); (case k1 => k_asm); (case k2 => k_asm); (case k3 => k_asm); (case k5 => k_is); (case kh => k_is); (case k6 => k_is); (case k7 => k_is); (case k8 => k_is); (case k9 => k_is); (case k10 => k_is); (case k11 => decide +kernel); (case k12 => k_get); k_whole); intro q' h' F' N' l1; (try k_lt l1); (try k_sweep)))
local macro_rules | `(tactic| walk_at "getAttr ref") => `(tactic| (k_here; k_dflt (refine' hk_own ?k1 ?k2 ?k3 ?k4 ?k5 ?k6 ?k7 ?k8 ?k9 ?_; (case k1 => k_asm); (case k2 => k_asm); (case k3 => k_inst); (case k4 => k_is); (case k5 => k_is); (case k6 => k_is); (case k7 => k_is); (case k8 => k_get); (case k9 => k_handed); k_whole)))
local macro_rules | `(tactic| walk_at "getMethod ref") => `(tactic| (k_here; k_dflt (refine' hk_method ?k1 ?k2 ?k3 ?k4 ?k5 ?_; (case k1 => k_asm); (case k2 => k_asm); (case k3 => k_inst); (case k4 => k_is); (case k5 => k_is); k_whole)))
local macro_rules | `(tactic| ktr_enter) => `(tactic| (refine' code_def ?k1 ?k2 ?k3 ?k4 ?k5 ?kA ?kF ?kK ?k6 ?k7 ?k8 ?k9 ?kB ?_ ?c2 ?c3 ?c4 ?c5; (case kA => exact rfl); (case kF => exact rfl); (case kK => first | assumption | exact rfl); (case k1 => k_asm); (case k2 => k_asm); (case k3 => k_asm); (case k4 => k_asm); (case k5 => k_asm); (case k6 => k_is); (case k7 => k_is); (case k8 => ktr_room); (case k9 => first | exact BindsTo.of_eq rfl | exact binds_K (by k_in) rfl (by k_is) rfl rfl rfl); (case c5 => decide); (case kB => exact locs rfl); (case c2 => exact rfl); (case c3 => exact rfl); (case c4 => exact rfl); k_whole; intro g' L' h' FG' F' N' B' X' T'; (try dsimp only); (try k_lift B'); (try k_fold)))
local macro_rules | `(tactic| ktr_call $c:term 0) => `(tactic| (refine wpAny_call ?_; k_dflt (refine' ct_use $c ?k1 ?k2 ?k3 ?k4 ?k5 ?kK ?kd ?ku ?kp ?_; (case k1 => k_asm); (case k2 => k_asm); (case k3 => k_asm); (case k4 => k_asm); (case k5 => k_asm); (case kK => first | assumption | exact rfl); (case kd => ktr_room); (case ku => ktr_units))))
local macro_rules | `(tactic| ktr_call $c:term 1) => `(tactic| (refine' call_meth ?N ?q ?_; (case N => k_asm); (case q => k_mem); k_dflt (refine' ct_use $c ?k1 ?k2 ?k3 ?k4 ?k5 ?kK ?kd ?ku ?kp ?_; (case k1 => k_asm); (case k2 => k_asm); (case k3 => k_asm); (case k4 => k_asm); (case k5 => k_asm); (case kK => first | assumption | exact rfl); (case kd => ktr_room); (case ku => ktr_units))))
local macro_rules | `(tactic| k_mem) => `(tactic| first | assumption | exact List.mem_cons_self .. | (refine' List.mem_cons_of_mem _ ?_; k_mem))
local macro_rules | `(tactic| kst_same) => `(tactic| (intro z h1 h2 h3; (simp only [List.forall_mem_cons, List.not_mem_nil, false_implies, implies_true, and_true, ne_eq] at h2); (simp only [List.contains_cons, List.contains_nil, Bool.or_false, Bool.or_eq_false_iff, beq_eq_false_iff_ne, ne_eq] at h3); (simp [kstB, h1, h2, h3]; done)))
local macro_rules | `(tactic| kby_size) => `(tactic| (rw [PySem.sizeLine_eq]; omega))
local macro_rules | `(tactic| walk_at "call builtin:str.lstrip") => `(tactic| (k_here; (refine KXw.lstrip (by assumption) (by kby_size) ?_); intro _ _))
local macro_rules | `(tactic| walk_at "call builtin:str.strip") => `(tactic| (k_here; (refine KXw.strip (by assumption) (by kby_size) ?_); intro _ _))
local macro_rules | `(tactic| walk_at "call builtin:str.strip") => `(tactic| (k_here; (refine KXw.stripChars (by assumption) (by kby_size) ?_); intro _ _))
local macro_rules | `(tactic| walk_at "call builtin:str.upper") => `(tactic| (k_here; (refine KXw.upper (by assumption) (by decide +kernel) ?_); intro _ _))
local macro_rules | `(tactic| walk_at "call builtin:str.partition") => `(tactic| (k_here; (refine KXpa.partition (by k_asm) (by k_asm) (by decide) (by assumption) (by assumption) (by assumption) (by kby_size) ?_); intro D' _ _ _ _ _ F' N' l1; (try k_lt l1)))
local macro_rules | `(tactic| walk_at "call builtin:str.split") => `(tactic| (k_here; (refine KSpl.split1 (by k_asm) (by k_asm) (by decide) ?_ (by kby_size)); intro D' _ _ _ _ _ F' N' l1; (try k_lt l1)))
theorem lookup_relabel_cell {env : Env} : ∀ {names : List (Str × NameKind)} {x : Str}, names.lookup x = some .cell →
    (names.map fun (n, k) => if (k == NameKind.free && env.scope.kind == .function && env.kindOf n == some .cell) then (n, NameKind.cell) else (n, k)).lookup x = some .cell
  | [], _, h => by simp at h
  | (n, k) :: r, x, h => by
    have ih := @lookup_relabel_cell env r x
    by_cases e : x = n
    · subst e
      simp only [List.lookup_cons, beq_self_eq_true] at h
      cases Option.some.inj h
      simp [List.lookup_cons]
    · have e' : (x == n) = false := beq_eq_false_iff_ne.mpr e
      simp only [List.lookup_cons, e'] at h
      simp only [List.map_cons]
      split <;> simp only [List.lookup_cons, e'] <;> exact ih h
section
variable {prog : Program} {w : World} {A : Around} {E : Value → Shared → Prop} {s : Shared} {env : Env} {h₀ : Heap} {L : Addr} {m : Str → Option Value}
/-- the same, the first target a cell -/
theorem pair_compC {elt iter : PySem.Expr} {x x₂ : Str} {px px₂ tp : Pos} {tk} {scope : Scope} {n0 gn : Str} {pos : Pos} {s₂ : Shared} {I : Addr} {fp wr own : List Addr} {n : Nat} {Pt : Nat → Array Value → Prop} {St : Nat → Heap → Prop} {Mid : Nat → Addr → Heap → Prop} {news : Led} {J : Nat → List Value → Led → Prop} {Q : Value → Shared → Prop}
    (hh : A.handled = none) (hnm : scope.names = [(n0, .local), (x, .cell), (x₂, .local), (gn, .globalImplicit)]) (hxc : scope.names.lookup x = some .cell) (hcd : (x == ("__classdict__" : Str)) = false) (hkind : scope.kind = .function) (hx₂ : scope.names.lookup x₂ = some .local) (hxx : x ≠ x₂)
    (W : WalksU prog w A I fp wr n Pt St Mid) (hsz : n ≤ sizeLine) (hst : St 0 s₂.heap) (F : Fr h₀ L s₂.heap m) (N : News h₀ L s₂.heap news)
    (hown : ∀ b ∈ own, b < s₂.heap.objs.size ∧ h₀.get? b = none ∧ b ≠ L ∧ ∀ p ∈ news, p.1 ≠ b) (hwr : ∀ b ∈ wr, b ∈ own) (hlive : ∀ i h, St i h → ∀ b ∈ own, ∃ o, h.get? b = some o)
    (hfp : ∀ b ∈ fp, b ∈ own ∨ (∃ o, h₀.get? b = some o) ∨ ∃ o, ∀ i ys nx, J i ys nx → (b, o) ∈ nx) (hJ : J 0 [] news) (hon : ∀ i ys nx, J i ys nx → ∀ p ∈ nx, p.1 ∉ own)
    (turn : ∀ i vals, i < n → Pt i vals → ∃ v1 v2, vals = #[v1, v2] ∧ ∀ ys nx K oK C oC D ow h tk' m₂ (E' : Value → Shared → Prop), ow.map (·.1) = own → LCg.NsObj oC m₂ → oK.data = .cell (some v1) → m₂ x₂ = some v2 → Fr h₀ L h m → News h₀ L h ((C, oC) :: (D, LCg.lst ys) :: (K, oK) :: (ow ++ nx)) →
      (∀ p ∈ nx, p.1 ≠ C ∧ p.1 ≠ D ∧ p.1 ≠ K) → C ≠ D → J i ys nx →
      wpAny (model prog w) A (eval elt (compEnvC scope [(x, K)] C env)) (fun y s' => ∃ h' tk'' nx', s' = { s₂ with heap := h', toks := tk'' } ∧ Fr h₀ L h' m ∧ News h₀ L h' ((C, oC) :: (D, LCg.lst ys) :: (K, oK) :: (ow ++ nx')) ∧ (∀ p ∈ nx', p.1 ≠ C ∧ p.1 ≠ D ∧ p.1 ≠ K) ∧ J (i + 1) (ys ++ [y]) nx') E' { s₂ with heap := h, toks := tk' })
    (done : ∀ ys nx D h tk', J n ys nx → Fr h₀ L h m → News h₀ L h ((D, LCg.lst ys) :: nx) → (∀ p ∈ nx, p.1 ≠ D) → Q (.ref D) { s₂ with heap := h, toks := tk' }) :
    wpAny (model prog w) A (newList []) (fun acc s₃ => wpAny (model prog w) A (newFunctionEnv scope env.globals [] [] env.qual none .none (some env)) (fun cenv s₄ =>
      codeAny (model prog w) A (.compStart (.ListComp elt [⟨.Tuple [.Name x px, .Name x₂ px₂] tk tp, iter, [], 0⟩] scope pos) 0 (.ref I) acc { cenv with scope := relabel scope env }) (compPost (model prog w) A E none Q acc cenv.locals) s₄) E s₃) E s₂ := by
  refine wpAny_newObj_type (newEnv_cell hnm ?_)
  dsimp only
  generalize hHg : s₂.heap.push { cls := .type "list", dict := none, data := .seq ([] : List Value).toArray } = H
  generalize hh2 : (H.push { cls := .type "dict", dict := none, data := .dict #[] }).push { cls := .type "cell", dict := none, data := .cell none } = h₂
  have hHs : H.objs.size = s₂.heap.objs.size + 1 := by rw [← hHg, Heap.size_push]
  have hDC : s₂.heap.objs.size ≠ H.objs.size := by rw [hHs]; exact Nat.ne_of_lt (Nat.lt_succ_self _)
  have offC : ∀ b, b < s₂.heap.objs.size → b ≠ H.objs.size := fun b e => Nat.ne_of_lt (by rw [hHs]; exact Nat.lt_succ_of_lt e)
  have up : ∀ b o, s₂.heap.get? b = some o → h₂.get? b = some o := fun b o e => hh2 ▸ Heap.get?_push_of_some _ (Heap.get?_push_of_some _ (hHg ▸ Heap.get?_push_of_some _ e))
  have hacc : h₂.get? s₂.heap.objs.size = some (LCg.lst []) := hh2 ▸ Heap.get?_push_of_some _ (Heap.get?_push_of_some _ (hHg ▸ Heap.get?_push_size _ rfl))
  have hns₂ : h₂.Ns H.objs.size (fun _ => none) := hh2 ▸ (Heap.Ns.new H (.type "dict")).keeps fun b o e => Heap.get?_push_of_some _ e
  have hcl₂ : h₂.IsCell (H.objs.size + 1) none := by
    rw [← hh2]
    have := Heap.get?_push_size (H.push { cls := .type "dict", dict := none, data := .dict #[] }) (o := { cls := .type "cell", dict := none, data := .cell none }) rfl
    rw [Heap.size_push] at this
    exact ⟨_, this, rfl⟩
  have offK : ∀ b, b < s₂.heap.objs.size → b ≠ H.objs.size + 1 := fun b e => Nat.ne_of_lt (by rw [hHs]; exact Nat.lt_succ_of_lt (Nat.lt_succ_of_lt e))
  have hKC : H.objs.size + 1 ≠ H.objs.size := Nat.succ_ne_self _
  have hKD : H.objs.size + 1 ≠ s₂.heap.objs.size := Ne.symm (Nat.ne_of_lt (by rw [hHs]; exact Nat.lt_succ_of_lt (Nat.lt_succ_self _)))
  have fresh₀ : ∀ a, s₂.heap.objs.size ≤ a → h₀.get? a = none := fun a ha => by
    cases e : h₀.get? a with
    | none => rfl
    | some o' => exact absurd (Heap.lt_size (F.keep _ _ e)) (Nat.not_lt.mpr ha)
  have hD₀ := fresh₀ _ (Nat.le_refl s₂.heap.objs.size)
  have hC₀ : h₀.get? H.objs.size = none := fresh₀ _ (by rw [hHs]; exact Nat.le_succ _)
  have hK₀ : h₀.get? (H.objs.size + 1) = none := fresh₀ _ (by rw [hHs]; exact Nat.le_succ_of_le (Nat.le_succ _))
  have hLlt : L < s₂.heap.objs.size := F.ns.lt
  have hKL : H.objs.size + 1 ≠ L := Ne.symm (offK L hLlt)
  have hDL : s₂.heap.objs.size ≠ L := Ne.symm (Nat.ne_of_lt hLlt)
  have hCL : H.objs.size ≠ L := Ne.symm (offC L hLlt)
  have hoD : ∀ b ∈ own, b ≠ s₂.heap.objs.size := fun b hb => Nat.ne_of_lt (hown b hb).1
  have hoC : ∀ b ∈ own, b ≠ H.objs.size := fun b hb => offC b (hown b hb).1
  have hLw : L ∉ wr := fun q => (hown _ (hwr _ q)).2.2.1 rfl
  have hDw : s₂.heap.objs.size ∉ wr := fun q => hoD _ (hwr _ q) rfl
  have hCw : H.objs.size ∉ wr := fun q => hoC _ (hwr _ q) rfl
  have hoK : ∀ b ∈ own, b ≠ H.objs.size + 1 := fun b hb => offK b (hown b hb).1
  have hKw : H.objs.size + 1 ∉ wr := fun q => hoK _ (hwr _ q) rfl
  have hzw : ∀ b o, h₀.get? b = some o → b ∉ wr := fun b o e q => by have := (hown _ (hwr _ q)).2.1; rw [e] at this; cases this
  have hst₂ : St 0 h₂ := W.frame _ _ _ hst fun b _ o e => up b o e
  have frOf : ∀ {h h' : Heap}, Fr h₀ L h m → (∀ b o, b ∉ wr → h.get? b = some o → h'.get? b = some o) → Fr h₀ L h' m := fun F' hk => ⟨F'.ns.at' fun o e => hk _ o hLw e, fun b o e => hk b o (hzw b o e) (F'.keep b o e), F'.above⟩
  have loop : ∀ s₃ : Shared, s₃ = { s₂ with heap := h₂, toks := s₂.toks + ([] : List (Str × Value)).length } →
      codeAny (model prog w) A (.compLoop (.ListComp elt [⟨.Tuple [.Name x px, .Name x₂ px₂] tk tp, iter, [], 0⟩] scope pos) 0 (.ref I) (.ref s₂.heap.objs.size) (compEnvC scope [(x, H.objs.size + 1)] H.objs.size env))
        (compPost (model prog w) A E none Q (.ref s₂.heap.objs.size) H.objs.size) s₃ := by
    rintro s₃ rfl
    refine LCp.codeAny_compLoop_pair (fun k s' => ∃ h' tk' i ys nx m', s' = { s₂ with heap := h', toks := tk' } ∧ i ≤ n ∧ k = n + 1 - i ∧ ys.length = i ∧ St i h' ∧ Fr h₀ L h' m ∧ h'.Ns H.objs.size m' ∧ (∃ vc, h'.IsCell (H.objs.size + 1) vc) ∧ News h₀ L h' ((s₂.heap.objs.size, LCg.lst ys) :: nx) ∧
      (∀ p ∈ nx, p.1 ≠ H.objs.size ∧ p.1 ≠ s₂.heap.objs.size ∧ p.1 ≠ H.objs.size + 1) ∧ J i ys nx) ?_ (n + 1)
      ⟨h₂, _, 0, [], news, _, rfl, Nat.zero_le _, rfl, rfl, hst₂, fr_ext F up, hns₂, ⟨_, hcl₂⟩, fun p hp => ?_, fun p hp => ⟨offC _ (Heap.lt_size (N p hp).1), Nat.ne_of_lt (Heap.lt_size (N p hp).1), offK _ (Heap.lt_size (N p hp).1)⟩, hJ⟩
    · rintro k s' ⟨h', tk', i, ys, nx, m', rfl, hile, rfl, hyl, hst', F', hn', ⟨vc, hc'⟩, N', off', hJ'⟩
      by_cases hlt : i < n
      · refine W.item i _ _ _ hlt hst' fun T' vals h₃ tk₃ hP hTup hMid hk₃ => ?_
        obtain ⟨v1, v2, rfl, body⟩ := turn i vals hlt hP
        have hTw := W.apart _ _ _ hMid
        refine W.go _ _ _ i T' _ _ _ hMid fun h₄ hst₄ hk₄ => ?_
        have hT₄ : IsTup h₄ T' #[v1, v2] := by
          obtain ⟨o, ho, r⟩ := hTup
          exact ⟨o, hk₄ _ _ hTw ho, r⟩
        refine assign_Tuple_tuple hh hT₄ rfl rfl fun h₅ he₅ => ?_
        have up₅ : ∀ b o, b ∉ wr → h'.get? b = some o → h₅.get? b = some o := fun b o hb q => by
          have q₄ := hk₄ b o hb (hk₃ b o hb q)
          exact he₅ b o (Nat.ne_of_lt (Heap.lt_size q₄)) q₄
        have hst₅ : St (i + 1) h₅ := W.frame _ _ _ hst₄ fun b _ o q => he₅ b o (Nat.ne_of_lt (Heap.lt_size q)) q
        have hn₅ : h₅.Ns H.objs.size m' := hn'.at' fun o q => up₅ _ o hCw q
        have hc₅ : h₅.IsCell (H.objs.size + 1) vc := let ⟨o, ho, r⟩ := hc'; ⟨o, up₅ _ o hKw ho, r⟩
        refine assignInOrder_cons (wpAny_assign_Name (wpAny_storeName_cell (c := H.objs.size + 1) (by simp [compEnvC, relabel, hkind]) (lookup_relabel_cell hxc) (by simp [compEnvC]) hc₅ (fun h₆ hc₆ hs₆ => ?_)))
        have hn₆ : h₆.Ns H.objs.size m' := hn₅.sameBut hs₆ (Ne.symm hKC)
        refine assignInOrder_cons (wpAny_assign_Name (wpAny_storeName_local (lookup_relabel_local hx₂) hn₆ (fun h₇ hn₇ hs₇ => ?_) (by simp [compEnvC, relabel, hkind])))
        refine assignInOrder_nil ?_
        have up₇ : ∀ b o, b ≠ H.objs.size → b ≠ H.objs.size + 1 → h₅.get? b = some o → h₇.get? b = some o := fun b o hb hb' q => hs₇.extBut b o hb (hs₆.extBut b o hb' q)
        have hst₇ : St (i + 1) h₇ := W.frame _ _ _ hst₅ fun b hb o q => up₇ b o (by
          rcases hfp b hb with h | ⟨o, h⟩ | ⟨o, h⟩
          · exact hoC b h
          · rintro rfl; rw [hC₀] at h; cases h
          · exact (off' _ (h i ys nx hJ')).1) (by
          rcases hfp b hb with h | ⟨o, h⟩ | ⟨o, h⟩
          · exact hoK b h
          · rintro rfl; rw [hK₀] at h; cases h
          · exact (off' _ (h i ys nx hJ')).2.2) q
        obtain ⟨ow, how1, how2⟩ := own_led own (hlive _ _ hst₇)
        obtain ⟨oC, heC, hnC⟩ := LCg.ns_obj hn₇
        have F₇ : Fr h₀ L h₇ m := ((frOf F' up₅).change hs₆ hKL hK₀).change hs₇ hCL hC₀
        obtain ⟨oK, heK, hdK⟩ := hc₆.sameBut hs₇ hKC
        have hmo : ∀ p ∈ ow, p.1 ∈ own := fun p hp => how1 ▸ List.mem_map_of_mem hp
        have N₇ : News h₀ L h₇ ((H.objs.size, oC) :: (s₂.heap.objs.size, LCg.lst ys) :: (H.objs.size + 1, oK) :: (ow ++ nx)) := by
          intro p hp
          rcases List.mem_cons.mp hp with rfl | hp
          · exact ⟨heC, hCL, hC₀⟩
          rcases List.mem_cons.mp hp with rfl | hp
          · have z := N' _ (List.mem_cons_self ..)
            exact ⟨up₇ _ _ hDC (Ne.symm hKD) (up₅ _ _ hDw z.1), z.2⟩
          rcases List.mem_cons.mp hp with rfl | hp
          · exact ⟨heK, hKL, hK₀⟩
          rcases List.mem_append.mp hp with hp | hp
          · have z := hown _ (hmo p hp)
            exact ⟨how2 p hp, z.2.2.1, z.2.1⟩
          · have z := N' _ (.tail _ hp)
            exact ⟨up₇ _ _ (off' p hp).1 (off' p hp).2.2 (up₅ _ _ (fun q => hon i ys nx hJ' p hp (hwr _ q)) z.1), z.2⟩
        refine wpAny_mono (body ys nx (H.objs.size + 1) oK H.objs.size oC s₂.heap.objs.size ow h₇ _ _ _ how1 hnC hdK (by simp) F₇ N₇ off' (Ne.symm hDC) hJ') (fun y s' h8 => ?_) fun _ _ e => e
        obtain ⟨h₈, tk₈, nx', rfl, F₈, N₈, off₈, J₈⟩ := h8
        have zC := (N₈ _ (List.mem_cons_self ..)).1
        have zD := (N₈ _ (.tail _ (List.mem_cons_self ..))).1
        have hst₈ : St (i + 1) h₈ := W.frame _ _ _ hst₇ fun b hb o q => by
          rcases hfp b hb with h | ⟨o', h⟩ | ⟨o', h⟩
          · rw [← how1] at h
            obtain ⟨p, hp, rfl⟩ := List.mem_map.mp h
            have e1 := how2 p hp
            rw [q] at e1
            rw [e1]
            exact (N₈ p (.tail _ (.tail _ (.tail _ (List.mem_append_left _ hp))))).1
          · have e1 := F₇.keep _ _ h
            rw [q] at e1
            rw [e1]
            exact F₈.keep _ _ h
          · have e1 := (N₇ (b, o') (.tail _ (.tail _ (.tail _ (List.mem_append_right _ (h i ys nx hJ')))))).1
            rw [q] at e1
            rw [e1]
            exact (N₈ (b, o') (.tail _ (.tail _ (.tail _ (List.mem_append_right _ (h _ _ _ J₈)))))).1
        refine append_at (hsz := by show ys.toArray.size ≤ sizeLine; rw [List.size_toArray, hyl]; exact Nat.le_trans hile hsz) zD fun h₉ hs₉ hD₉ => ?_
        refine ⟨n + 1 - (i + 1), by omega, h₉, _, i + 1, ys ++ [y], nx', _, rfl, hlt, rfl, by rw [List.length_append, List.length_singleton, hyl], W.frame _ _ _ hst₈ fun b hb o q => hs₉.extBut b o ?_ q, F₈.change hs₉ hDL hD₀, (hnC.ns zC).sameBut hs₉ (Ne.symm hDC), ⟨_, Heap.IsCell.sameBut ⟨oK, (N₈ _ (.tail _ (.tail _ (List.mem_cons_self ..)))).1, hdK⟩ hs₉ hKD⟩, fun p hp => ?_, off₈, J₈⟩
        · rcases hfp b hb with h | ⟨o', h⟩ | ⟨o', h⟩
          · exact hoD b h
          · rintro rfl; rw [hD₀] at h; cases h
          · exact (off₈ _ (h _ _ _ J₈)).2.1
        · rcases List.mem_cons.mp hp with rfl | hp
          · exact ⟨hD₉.trans (congrArg some (LCg.lst_snoc ys y)), hDL, hD₀⟩
          · have z := N₈ p (.tail _ (.tail _ (.tail _ (List.mem_append_right _ hp))))
            exact ⟨hs₉.extBut _ _ (off₈ p hp).2.1 z.1, z.2⟩
      · obtain rfl : i = n := Nat.le_antisymm hile (Nat.not_lt.mp hlt)
        refine W.done _ _ _ hst' fun h₃ tk₃ hk₃ => ?_
        refine ⟨_, hn'.at' fun o q => hk₃ _ o hCw q, fun h₄ hs₄ => ?_⟩
        refine done ys nx s₂.heap.objs.size h₄ tk₃ hJ' ((frOf F' hk₃).change hs₄ hCL hC₀) (fun p hp => ?_) fun p hp => (off' p hp).2.1
        have z := N' p hp
        refine ⟨hs₄.extBut _ _ ?_ (hk₃ _ _ ?_ z.1), z.2⟩
        · rcases List.mem_cons.mp hp with rfl | hp
          · exact hDC
          · exact (off' p hp).1
        · rcases List.mem_cons.mp hp with rfl | hp
          · exact hDw
          · exact fun q => hon _ ys nx hJ' p hp (hwr _ q)
    · rcases List.mem_cons.mp hp with rfl | hp
      · exact ⟨hacc, hDL, hD₀⟩
      · exact ⟨up _ _ (N p hp).1, (N p hp).2⟩
  exact codeAny_compStart_list (loop _ rfl) (W.self 0 _ _ _ hst₂ (loop _ rfl))
end

end Mine
end
section
open PySem PySem.W PyProof.Rows PySem.Calls Builtin Builtin.ObjectAttr
namespace Mine
set_option maxRecDepth 100000
set_option maxHeartbeats 8000000
local macro_rules | `(tactic| walk_at "getAttr ref") => `(tactic| (k_here; k_dflt (refine' hk_bound ?k1 ?k2 ?k3 ?k4 ?k5 ?kh ?k6 ?k7 ?k8 ?k9 ?k10 ?k11 ?k12 ?_; (case k4 => k_inst); (case k1 => k_asm); (case k2 => k_asm); (case k3 => k_asm); (case k5 => k_is); (case kh => k_is); (case k6 => k_is); (case k7 => k_is); (case k8 => k_is); (case k9 => k_is); (case k10 => k_is); (case k11 => decide +kernel); (case k12 => k_get); k_whole); intro q' h' F' N' l1; (try k_lt l1); (try k_sweep)))
local macro_rules | `(tactic| walk_at "getAttr ref") => `(tactic| (k_here; k_dflt (refine' hk_own ?k1 ?k2 ?k3 ?k4 ?k5 ?k6 ?k7 ?k8 ?k9 ?_; (case k1 => k_asm); (case k2 => k_asm); (case k3 => k_inst); (case k4 => k_is); (case k5 => k_is); (case k6 => k_is); (case k7 => k_is); (case k8 => k_get); (case k9 => k_handed); k_whole)))
local macro_rules | `(tactic| walk_at "getMethod ref") => `(tactic| (k_here; k_dflt (refine' hk_method ?k1 ?k2 ?k3 ?k4 ?k5 ?_; (case k1 => k_asm); (case k2 => k_asm); (case k3 => k_inst); (case k4 => k_is); (case k5 => k_is); k_whole)))
local macro_rules | `(tactic| ktr_enter) => `(tactic| (refine' code_def ?k1 ?k2 ?k3 ?k4 ?k5 ?kA ?kF ?kK ?k6 ?k7 ?k8 ?k9 ?kB ?_ ?c2 ?c3 ?c4 ?c5; (case kA => exact rfl); (case kF => exact rfl); (case kK => first | assumption | exact rfl); (case k1 => k_asm); (case k2 => k_asm); (case k3 => k_asm); (case k4 => k_asm); (case k5 => k_asm); (case k6 => k_is); (case k7 => k_is); (case k8 => ktr_room); (case k9 => first | exact BindsTo.of_eq rfl | exact binds_K (by k_in) rfl (by k_is) rfl rfl rfl); (case c5 => decide); (case kB => exact locs rfl); (case c2 => exact rfl); (case c3 => exact rfl); (case c4 => exact rfl); k_whole; intro g' L' h' FG' F' N' B' X' T'; (try dsimp only); (try k_lift B'); (try k_fold)))
local macro_rules | `(tactic| ktr_call $c:term 0) => `(tactic| (refine wpAny_call ?_; k_dflt (refine' ct_use $c ?k1 ?k2 ?k3 ?k4 ?k5 ?kK ?kd ?ku ?kp ?_; (case k1 => k_asm); (case k2 => k_asm); (case k3 => k_asm); (case k4 => k_asm); (case k5 => k_asm); (case kK => first | assumption | exact rfl); (case kd => ktr_room); (case ku => ktr_units))))
local macro_rules | `(tactic| ktr_call $c:term 1) => `(tactic| (refine' call_meth ?N ?q ?_; (case N => k_asm); (case q => k_mem); k_dflt (refine' ct_use $c ?k1 ?k2 ?k3 ?k4 ?k5 ?kK ?kd ?ku ?kp ?_; (case k1 => k_asm); (case k2 => k_asm); (case k3 => k_asm); (case k4 => k_asm); (case k5 => k_asm); (case kK => first | assumption | exact rfl); (case kd => ktr_room); (case ku => ktr_units))))
local macro_rules | `(tactic| k_mem) => `(tactic| first | assumption | exact List.mem_cons_self .. | (refine' List.mem_cons_of_mem _ ?_; k_mem))
local macro_rules | `(tactic| kst_same) => `(tactic| (intro z h1 h2 h3; (simp only [List.forall_mem_cons, List.not_mem_nil, false_implies, implies_true, and_true, ne_eq] at h2); (simp only [List.contains_cons, List.contains_nil, Bool.or_false, Bool.or_eq_false_iff, beq_eq_false_iff_ne, ne_eq] at h3); (simp [kstB, h1, h2, h3]; done)))
local macro_rules | `(tactic| kby_size) => `(tactic| (rw [PySem.sizeLine_eq]; omega))
local macro_rules | `(tactic| walk_at "call builtin:str.lstrip") => `(tactic| (k_here; (refine KXw.lstrip (by assumption) (by kby_size) ?_); intro _ _))
local macro_rules | `(tactic| walk_at "call builtin:str.strip") => `(tactic| (k_here; (refine KXw.strip (by assumption) (by kby_size) ?_); intro _ _))
local macro_rules | `(tactic| walk_at "call builtin:str.strip") => `(tactic| (k_here; (refine KXw.stripChars (by assumption) (by kby_size) ?_); intro _ _))
local macro_rules | `(tactic| walk_at "call builtin:str.upper") => `(tactic| (k_here; (refine KXw.upper (by assumption) (by decide +kernel) ?_); intro _ _))
local macro_rules | `(tactic| walk_at "call builtin:str.partition") => `(tactic| (k_here; (refine KXpa.partition (by k_asm) (by k_asm) (by decide) (by assumption) (by assumption) (by assumption) (by kby_size) ?_); intro D' _ _ _ _ _ F' N' l1; (try k_lt l1)))
local macro_rules | `(tactic| walk_at "call builtin:str.split") => `(tactic| (k_here; (refine KSpl.split1 (by k_asm) (by k_asm) (by decide) ?_ (by kby_size)); intro D' _ _ _ _ _ F' N' l1; (try k_lt l1)))
section
variable {prog : Program} {w : World} {A : Around} {E : Value → Shared → Prop} {s : Shared} {env : Env} {h₀ : Heap} {L : Addr} {m : Str → Option Value}
/-- the same, the first target a cell -/
def PairSrcC (prog : Program) (w : World) (A : Around) (h₀ : Heap) (L : Addr) (m : Str → Option Value) (env : Env) (elt : PySem.Expr) (x x₂ : Str) (scope : Scope) (Q : Value → Shared → Prop) (xv : Value) (s₂ : Shared) : Prop :=
  ∃ (I : Addr) (fp wr own : List Addr) (n : Nat) (Pt : Nat → Array Value → Prop) (St : Nat → Heap → Prop) (Mid : Nat → Addr → Heap → Prop) (news : Led) (J : Nat → List Value → Led → Prop), xv = .ref I ∧
    WalksU prog w A I fp wr n Pt St Mid ∧ n ≤ sizeLine ∧ St 0 s₂.heap ∧ Fr h₀ L s₂.heap m ∧ News h₀ L s₂.heap news ∧
    (∀ b ∈ own, b < s₂.heap.objs.size ∧ h₀.get? b = none ∧ b ≠ L ∧ ∀ p ∈ news, p.1 ≠ b) ∧ (∀ b ∈ wr, b ∈ own) ∧ (∀ i h, St i h → ∀ b ∈ own, ∃ o, h.get? b = some o) ∧
    (∀ b ∈ fp, b ∈ own ∨ (∃ o, h₀.get? b = some o) ∨ ∃ o, ∀ i ys nx, J i ys nx → (b, o) ∈ nx) ∧ J 0 [] news ∧ (∀ i ys nx, J i ys nx → ∀ p ∈ nx, p.1 ∉ own) ∧
    (∀ i vals, i < n → Pt i vals → ∃ v1 v2, vals = #[v1, v2] ∧ ∀ ys nx K oK C oC D ow h tk' m₂ (E' : Value → Shared → Prop), ow.map (·.1) = own → LCg.NsObj oC m₂ → oK.data = .cell (some v1) → m₂ x₂ = some v2 → Fr h₀ L h m → News h₀ L h ((C, oC) :: (D, LCg.lst ys) :: (K, oK) :: (ow ++ nx)) →
      (∀ p ∈ nx, p.1 ≠ C ∧ p.1 ≠ D ∧ p.1 ≠ K) → C ≠ D → J i ys nx →
      wpAny (model prog w) A (eval elt (compEnvC scope [(x, K)] C env)) (fun y s' => ∃ h' tk'' nx', s' = { s₂ with heap := h', toks := tk'' } ∧ Fr h₀ L h' m ∧ News h₀ L h' ((C, oC) :: (D, LCg.lst ys) :: (K, oK) :: (ow ++ nx')) ∧ (∀ p ∈ nx', p.1 ≠ C ∧ p.1 ≠ D ∧ p.1 ≠ K) ∧ J (i + 1) (ys ++ [y]) nx') E' { s₂ with heap := h, toks := tk' }) ∧
    (∀ ys nx D h tk', J n ys nx → Fr h₀ L h m → News h₀ L h ((D, LCg.lst ys) :: nx) → (∀ p ∈ nx, p.1 ≠ D) → Q (.ref D) { s₂ with heap := h, toks := tk' })
theorem pair_listcompC {elt iter : PySem.Expr} {x x₂ : Str} {px px₂ tp : Pos} {tk} {scope : Scope} {n0 gn : Str} {pos : Pos} {Q : Value → Shared → Prop} (_F₀ : Fr h₀ L s.heap m) (hh : A.handled = none)
    (hclos : closureFor scope env = pure []) (hnm : scope.names = [(n0, .local), (x, .cell), (x₂, .local), (gn, .globalImplicit)]) (hxc : scope.names.lookup x = some .cell) (hcd : (x == ("__classdict__" : Str)) = false) (hkind : scope.kind = .function)
    (hnames : ∀ y ∈ scope.names, y.2 = .local → scope.names.lookup y.1 = some .local) (hx₂ : scope.names.lookup x₂ = some .local) (hxx : x ≠ x₂)
    (h : wpAny (model prog w) A (eval iter env) (PairSrcC prog w A h₀ L m env elt x x₂ scope Q) E s) (hs : ∀ x, foldedSetIterable iter env x = pure x := by intro _; rfl) :
    wpAny (model prog w) A (eval (.ListComp elt [⟨.Tuple [.Name x px, .Name x₂ px₂] tk tp, iter, [], 0⟩] scope pos) env) Q E s := by
  rw [eval_ListComp]
  refine wpAny_comprehension_free (use := none) rfl hs hclos hkind hnames (wpAny_mono h (fun xv s₁ h₁ => ?_) fun _ _ e => e)
  obtain ⟨I, fp, wr, own, n, Pt, St, Mid, news, J, rfl, W, hsz, hst, F, N, c1, c2, c3, c4, c5, c6, c7, c8⟩ := h₁
  exact W.self 0 _ _ _ hst (pair_compC hh hnm hxc hcd hkind hx₂ hxx W hsz hst F N c1 c2 c3 c4 c5 c6 c7 c8)
/-- «zip(l1, l2)» of a list and a tuple of the ledger, for pair_listcomp -/
theorem zip_srcTC {elt : PySem.Expr} {x x₂ : Str} {scope : Scope} {Q : Value → Shared → Prop} {l1 l2 : Addr} {xs ys : List Value} {n1 n2 : Nat} {news : Led} (J : Nat → List Value → Led → Prop)
    (hh : A.handled = none) (F : Fr h₀ L s.heap m) (N : News h₀ L s.heap news) (h1 : (l1, listOf xs.toArray n1) ∈ news) (h2 : (l2, ({ cls := .type "tuple", data := .seq ys.toArray n2 } : Obj)) ∈ news) (hle : xs.length ≤ ys.length) (hz : xs.length ≤ sizeLine) (hJ : J 0 [] news)
    (hJs : ∀ i ys' nx, J i ys' nx → (l1, listOf xs.toArray n1) ∈ nx ∧ (l2, ({ cls := .type "tuple", data := .seq ys.toArray n2 } : Obj)) ∈ nx ∧ ∀ p ∈ nx, ∀ b, @LE.le Nat _ s.heap.objs.size b → @LT.lt Nat _ b (s.heap.objs.size + 5) → p.1 ≠ b)
    (turn : ∀ i v1 v2, xs[i]? = some v1 → ys[i]? = some v2 → ∀ ys' nx K oK C oC D ow h tk' m₂ (E' : Value → Shared → Prop), ow.map (·.1) = [s.heap.objs.size + 4, s.heap.objs.size + 2, s.heap.objs.size + 3, s.heap.objs.size, s.heap.objs.size + 1] → LCg.NsObj oC m₂ → oK.data = .cell (some v1) → m₂ x₂ = some v2 → Fr h₀ L h m → News h₀ L h ((C, oC) :: (D, LCg.lst ys') :: (K, oK) :: (ow ++ nx)) →
      (∀ p ∈ nx, p.1 ≠ C ∧ p.1 ≠ D ∧ p.1 ≠ K) → C ≠ D → J i ys' nx →
      wpAny (model prog w) A (eval elt (compEnvC scope [(x, K)] C env)) (fun y s' => ∃ h' tk'' nx', s' = { s with heap := h', toks := tk'' } ∧ Fr h₀ L h' m ∧ News h₀ L h' ((C, oC) :: (D, LCg.lst ys') :: (K, oK) :: (ow ++ nx')) ∧ (∀ p ∈ nx', p.1 ≠ C ∧ p.1 ≠ D ∧ p.1 ≠ K) ∧ J (i + 1) (ys' ++ [y]) nx') E' { s with heap := h, toks := tk' })
    (done : ∀ ys' nx D h tk', J xs.length ys' nx → Fr h₀ L h m → News h₀ L h ((D, LCg.lst ys') :: nx) → (∀ p ∈ nx, p.1 ≠ D) → Q (.ref D) { s with heap := h, toks := tk' }) :
    wpAny (model prog w) A (call (.type "zip") [.ref l1, .ref l2]) (PairSrcC prog w A h₀ L m env elt x x₂ scope Q) E s := by
  have a1 := N.isList h1
  have a2 : IsTup s.heap l2 ys.toArray := ⟨_, (N _ h2).1, rfl, _, rfl⟩
  refine call_zip_lt a1 a2 ?_
  intro h' e1 e2 e3 e4 e5 e6 hk
  have lt1 : l1 < s.heap.objs.size := Heap.lt_size (N _ h1).1
  have lt2 : l2 < s.heap.objs.size := Heap.lt_size (N _ h2).1
  have own5 : ∀ b ∈ [s.heap.objs.size + 4, s.heap.objs.size + 2, s.heap.objs.size + 3, s.heap.objs.size, s.heap.objs.size + 1], @LE.le Nat _ s.heap.objs.size b ∧ @LT.lt Nat _ b (s.heap.objs.size + 5) := by
    intro b hb
    simp only [List.mem_cons, List.not_mem_nil, or_false] at hb
    rcases hb with rfl | rfl | rfl | rfl | rfl
    · exact ⟨by omega, by omega⟩
    · exact ⟨by omega, by omega⟩
    · exact ⟨by omega, by omega⟩
    · exact ⟨by omega, by omega⟩
    · exact ⟨by omega, by omega⟩
  refine ⟨s.heap.objs.size + 4, _, _, [s.heap.objs.size + 4, s.heap.objs.size + 2, s.heap.objs.size + 3, s.heap.objs.size, s.heap.objs.size + 1], _, _, _, _, news, J, rfl, (walks_zlt (prog := prog) (w := w) hh _ _ _ _ _ l1 l2 (zipApart_new lt1 lt2) xs.toArray ys.toArray (by simpa using hle)).toU, ?_, ⟨e1, e2, ⟨_, _, e3⟩, e4, e5, a1.at fun o q => hk _ o q, tup_at a2 fun o q => hk _ o q⟩, fr_ext F hk, news_ext N hk, ?_, ?_, ?_, ?_, hJ, ?_, ?_, ?_⟩
  · rw [List.size_toArray]
    exact hz
  · intro b hb
    obtain ⟨b1, b2⟩ := own5 b hb
    refine ⟨by show @LT.lt Nat _ b h'.objs.size; rw [e6]; exact b2, ?_, Ne.symm (Nat.ne_of_lt (Nat.lt_of_lt_of_le F.ns.lt b1)), fun p hp => Nat.ne_of_lt (Nat.lt_of_lt_of_le (Heap.lt_size (N p hp).1) b1)⟩
    cases q : h₀.get? b with
    | none => rfl
    | some o => exact absurd (Heap.lt_size (F.keep _ _ q)) (Nat.not_lt.mpr b1)
  · intro b hb
    simp only [List.mem_cons, List.not_mem_nil, or_false] at hb ⊢
    rcases hb with rfl | rfl | rfl | rfl <;> simp
  · rintro i h ⟨z1, z2, ⟨_, _, z3⟩, z4, z5, _, _⟩ b hb
    simp only [List.mem_cons, List.not_mem_nil, or_false] at hb
    rcases hb with rfl | rfl | rfl | rfl | rfl
    · exact ⟨_, z1⟩
    · exact ⟨_, z2⟩
    · exact ⟨_, z3⟩
    · exact let ⟨o, ho, _⟩ := z4; ⟨o, ho⟩
    · exact let ⟨o, ho, _⟩ := z5; ⟨o, ho⟩
  · intro b hb
    simp only [List.mem_cons, List.not_mem_nil, or_false] at hb ⊢
    rcases hb with rfl | rfl | rfl | rfl | rfl | rfl | rfl
    · simp
    · simp
    · simp
    · simp
    · simp
    · exact .inr (.inr ⟨_, fun i ys' nx hj => (hJs i ys' nx hj).1⟩)
    · exact .inr (.inr ⟨_, fun i ys' nx hj => (hJs i ys' nx hj).2.1⟩)
  · intro i ys' nx hj p hp hm
    obtain ⟨b1, b2⟩ := own5 _ hm
    exact (hJs i ys' nx hj).2.2 p hp _ b1 b2 rfl
  · rintro i vals hi ⟨v1, v2, q1, q2, rfl⟩
    refine ⟨v1, v2, rfl, fun ys' nx K oK C oC D ow h tk' m₂ E' how => turn i v1 v2 ?_ ?_ ys' nx K oK C oC D ow h tk' m₂ E' how⟩
    · simpa using q1
    · simpa using q2
  · rw [List.size_toArray]
    exact done
end

end Mine
end
section
open PySem PySem.W PyProof.Rows PySem.Calls Builtin Builtin.ObjectAttr
namespace Mine
set_option maxRecDepth 100000
set_option maxHeartbeats 8000000
local macro_rules | `(tactic| walk_at "getAttr ref") => `(tactic| (k_here; k_dflt (refine' hk_bound ?k1 ?k2 ?k3 ?k4 ?k5 ?kh ?k6 ?k7 ?k8 ?k9 ?k10 ?k11 ?k12 ?_; (case k4 => k_inst); (case k1 => k_asm); (case k2 => k_asm); (case k3 => k_asm); (case k5 => k_is); (case kh => k_is); (case k6 => k_is); (case k7 => k_is); (case k8 => k_is); (case k9 => k_is); (case k10 => k_is); (case k11 => decide +kernel); (case k12 => k_get); k_whole); intro q' h' F' N' l1; (try k_lt l1); (try k_sweep)))
local macro_rules | `(tactic| walk_at "getAttr ref") => `(tactic| (k_here; k_dflt (refine' hk_own ?k1 ?k2 ?k3 ?k4 ?k5 ?k6 ?k7 ?k8 ?k9 ?_; (case k1 => k_asm); (case k2 => k_asm); (case k3 => k_inst); (case k4 => k_is); (case k5 => k_is); (case k6 => k_is); (case k7 => k_is); (case k8 => k_get); (case k9 => k_handed); k_whole)))
local macro_rules | `(tactic| walk_at "getMethod ref") => `(tactic| (k_here; k_dflt (refine' hk_method ?k1 ?k2 ?k3 ?k4 ?k5 ?_; (case k1 => k_asm); (case k2 => k_asm); (case k3 => k_inst); (case k4 => k_is); (case k5 => k_is); k_whole)))
local macro_rules | `(tactic| ktr_enter) => `(tactic| (refine' code_def ?k1 ?k2 ?k3 ?k4 ?k5 ?kA ?kF ?kK ?k6 ?k7 ?k8 ?k9 ?kB ?_ ?c2 ?c3 ?c4 ?c5; (case kA => exact rfl); (case kF => exact rfl); (case kK => first | assumption | exact rfl); (case k1 => k_asm); (case k2 => k_asm); (case k3 => k_asm); (case k4 => k_asm); (case k5 => k_asm); (case k6 => k_is); (case k7 => k_is); (case k8 => ktr_room); (case k9 => first | exact BindsTo.of_eq rfl | exact binds_K (by k_in) rfl (by k_is) rfl rfl rfl); (case c5 => decide); (case kB => exact locs rfl); (case c2 => exact rfl); (case c3 => exact rfl); (case c4 => exact rfl); k_whole; intro g' L' h' FG' F' N' B' X' T'; (try dsimp only); (try k_lift B'); (try k_fold)))
local macro_rules | `(tactic| ktr_call $c:term 0) => `(tactic| (refine wpAny_call ?_; k_dflt (refine' ct_use $c ?k1 ?k2 ?k3 ?k4 ?k5 ?kK ?kd ?ku ?kp ?_; (case k1 => k_asm); (case k2 => k_asm); (case k3 => k_asm); (case k4 => k_asm); (case k5 => k_asm); (case kK => first | assumption | exact rfl); (case kd => ktr_room); (case ku => ktr_units))))
local macro_rules | `(tactic| ktr_call $c:term 1) => `(tactic| (refine' call_meth ?N ?q ?_; (case N => k_asm); (case q => k_mem); k_dflt (refine' ct_use $c ?k1 ?k2 ?k3 ?k4 ?k5 ?kK ?kd ?ku ?kp ?_; (case k1 => k_asm); (case k2 => k_asm); (case k3 => k_asm); (case k4 => k_asm); (case k5 => k_asm); (case kK => first | assumption | exact rfl); (case kd => ktr_room); (case ku => ktr_units))))
local macro_rules | `(tactic| k_mem) => `(tactic| first | assumption | exact List.mem_cons_self .. | (refine' List.mem_cons_of_mem _ ?_; k_mem))
local macro_rules | `(tactic| kst_same) => `(tactic| (intro z h1 h2 h3; (simp only [List.forall_mem_cons, List.not_mem_nil, false_implies, implies_true, and_true, ne_eq] at h2); (simp only [List.contains_cons, List.contains_nil, Bool.or_false, Bool.or_eq_false_iff, beq_eq_false_iff_ne, ne_eq] at h3); (simp [kstB, h1, h2, h3]; done)))
local macro_rules | `(tactic| kby_size) => `(tactic| (rw [PySem.sizeLine_eq]; omega))
local macro_rules | `(tactic| walk_at "call builtin:str.lstrip") => `(tactic| (k_here; (refine KXw.lstrip (by assumption) (by kby_size) ?_); intro _ _))
local macro_rules | `(tactic| walk_at "call builtin:str.strip") => `(tactic| (k_here; (refine KXw.strip (by assumption) (by kby_size) ?_); intro _ _))
local macro_rules | `(tactic| walk_at "call builtin:str.strip") => `(tactic| (k_here; (refine KXw.stripChars (by assumption) (by kby_size) ?_); intro _ _))
local macro_rules | `(tactic| walk_at "call builtin:str.upper") => `(tactic| (k_here; (refine KXw.upper (by assumption) (by decide +kernel) ?_); intro _ _))
local macro_rules | `(tactic| walk_at "call builtin:str.partition") => `(tactic| (k_here; (refine KXpa.partition (by k_asm) (by k_asm) (by decide) (by assumption) (by assumption) (by assumption) (by kby_size) ?_); intro D' _ _ _ _ _ F' N' l1; (try k_lt l1)))
local macro_rules | `(tactic| walk_at "call builtin:str.split") => `(tactic| (k_here; (refine KSpl.split1 (by k_asm) (by k_asm) (by decide) ?_ (by kby_size)); intro D' _ _ _ _ _ F' N' l1; (try k_lt l1)))
section
open PyProof.Rows.LCg
variable {prog : Program} {w : World} {A : Around} {E : Value → Shared → Prop} {s : Shared} {env : Env} {h₀ : Heap} {L : Addr} {m : Str → Option Value}
theorem compEnd_mono {s₁ : Shared} {I : Addr} {oI : Obj} {C : Addr} {oC : Obj} {D : Addr} {oD : Obj} {S : List (Addr × Obj) → Prop} {r1 r2 : Value → List (Addr × Obj) → Prop} {y : Value} {s₂ : Shared}
    (h : CompEnd h₀ L m s₁ I oI C oC D oD S r1 y s₂) (hr : ∀ nx, r1 y nx → r2 y nx) : CompEnd h₀ L m s₁ I oI C oC D oD S r2 y s₂ := by
  obtain ⟨h', tk, news', e, a, b, c, d, f⟩ := h
  exact ⟨h', tk, news', e, a, b, c, d, hr _ f⟩
/-- the turns of a comprehension by an invariant, whatever their number -/
theorem rest_by {elt : PySem.Expr} {x : Str} {scope : Scope} {cl : List (Str × Addr)} {S : Led → Prop} {P : Nat → Value → Prop} {Fin : List Value → Led → Prop} {n : Nat} (Good : Nat → List Value → Led → Prop)
    (turn : ∀ i ys news, i < n → Good i ys news → ∀ v I oI C oC D m₂ h tk (E' : Value → Shared → Prop), P i v → NsObj oC m₂ → m₂ x = some v → Fr h₀ L h m → News h₀ L h ((I, oI) :: (C, oC) :: (D, lst ys) :: news) → Off3 I C D news → ((@Ne Nat I C) ∧ (@Ne Nat I D) ∧ (@Ne Nat C D)) →
      wpAny (model prog w) A (eval elt (compEnvC scope cl C env)) (CompEnd h₀ L m { s with heap := h, toks := tk } I oI C oC D (lst ys) S (fun y news' => Good (i + 1) (ys ++ [y]) news')) E' { s with heap := h, toks := tk })
    (fin : ∀ ys news, Good n ys news → Fin ys news) : ∀ k i ys news, k + i = n → Good i ys news → CompRest prog w A h₀ L m env elt x scope cl s S P Fin k i ys news
  | 0, i, ys, news, e, hg => by
    refine CompRest.zero (fin ys news ?_)
    rw [← e, Nat.zero_add]
    exact hg
  | k + 1, i, ys, news, e, hg => by
    refine CompRest.succ fun v I oI C oC D m₂ h tk E' hP hC hx F N off ne => ?_
    refine wpAny_mono (turn i ys news (by omega) hg v I oI C oC D m₂ h tk E' hP hC hx F N off ne) (fun y s₂ h₂ => ?_) fun _ _ e => e
    exact compEnd_mono h₂ fun nx hn => rest_by Good turn fin k (i + 1) (ys ++ [y]) nx (by omega) hn
end
/-- rows of a zip, told into the ledger -/
def DJ (keep : Led) (ds : List Dat) (lo : Nat) (i : Nat) (ys : List Value) (nx : Led) : Prop :=
  ∃ dn : Led, nx = dn ++ keep ∧ (∀ p ∈ nx, ∀ b : Addr, @LE.le Nat _ lo b → @LT.lt Nat _ b (lo + 5) → p.1 ≠ b) ∧ (∀ p ∈ dn, ∀ q ∈ keep, q.1 ≠ p.1) ∧ DatAll dn ys (ds.take i)
theorem DJ.zero {h₀ : Heap} {L : Addr} {h : Heap} {keep : Led} {ds : List Dat} (N : News h₀ L h keep) : DJ keep ds h.objs.size 0 [] keep :=
  ⟨[], rfl, (fun p hp _ hb _ => Nat.ne_of_lt (Nat.lt_of_lt_of_le (Heap.lt_size (N p hp).1) hb)), (fun p hp => nomatch hp), DatAll.nil⟩
theorem datAll_mono {news news' : Led} (hs : ∀ p ∈ news, p ∈ news') : ∀ {vs : List Value} {ds : List Dat}, DatAll news vs ds → DatAll news' vs ds
  | _, _, .nil => .nil
  | _, _, .cons a r => .cons (a.mono hs) (datAll_mono hs r)
theorem takeL_snoc {α : Type} {l : List α} {i : Nat} {d : α} (h : l[i]? = some d) : l.take (i + 1) = l.take i ++ [d] := by
  obtain ⟨hi, e⟩ := List.getElem?_eq_some_iff.mp h
  rw [List.take_succ_eq_append_getElem hi, e]
/-- one more -/
theorem DJ.turn {keep : Led} {ds : List Dat} {lo i : Nat} {ys : List Value} {nx : Led} {D : Addr} {o : Obj} {d : Dat} (J : DJ keep ds lo i ys nx) (off : ∀ p ∈ nx, p.1 ≠ D) (hlo : ∀ b : Addr, @LE.le Nat _ lo b → @LT.lt Nat _ b (lo + 5) → b ≠ D) (hd : ds[i]? = some d)
    (hdat : ∀ r, DatIn ((D, o) :: r) (.ref D) d) : DJ keep ds lo (i + 1) (ys ++ [.ref D]) ((D, o) :: nx) := by
  obtain ⟨dn, rfl, h1, h2, h3⟩ := J
  refine ⟨(D, o) :: dn, rfl, ?_, ?_, ?_⟩
  · intro p hp b b1 b2
    rcases List.mem_cons.mp hp with rfl | hp
    · exact Ne.symm (hlo b b1 b2)
    · exact h1 p hp b b1 b2
  · intro p hp q hq
    rcases List.mem_cons.mp hp with rfl | hp
    · exact off q (List.mem_append_right _ hq)
    · exact h2 p hp q hq
  · rw [takeL_snoc hd]
    exact dat_snoc (datAll_mono (fun p hp => .tail _ hp) h3) (hdat dn)
section
variable {prog : Program} {w : World} {A : Around} {E : Value → Shared → Prop} {s : Shared} {env : Env} {h₀ : Heap} {L : Addr} {m : Str → Option Value}
theorem zip_srcTCn {elt : PySem.Expr} {x x₂ : Str} {scope : Scope} {Q : Value → Shared → Prop} {l1 l2 : Addr} {xs ys : List Value} {n1 n2 : Nat} {news : Led} (JJ : Nat → Nat → List Value → Led → Prop)
    (hh : A.handled = none) (F : Fr h₀ L s.heap m) (N : News h₀ L s.heap news) (h1 : (l1, listOf xs.toArray n1) ∈ news) (h2 : (l2, ({ cls := .type "tuple", data := .seq ys.toArray n2 } : Obj)) ∈ news) (hle : xs.length ≤ ys.length) (hz : xs.length ≤ sizeLine) (hJ : JJ s.heap.objs.size 0 [] news)
    (hJs : ∀ i ys' nx, JJ s.heap.objs.size i ys' nx → (l1, listOf xs.toArray n1) ∈ nx ∧ (l2, ({ cls := .type "tuple", data := .seq ys.toArray n2 } : Obj)) ∈ nx ∧ ∀ p ∈ nx, ∀ b, @LE.le Nat _ s.heap.objs.size b → @LT.lt Nat _ b (s.heap.objs.size + 5) → p.1 ≠ b)
    (turn : ∀ i v1 v2, xs[i]? = some v1 → ys[i]? = some v2 → ∀ ys' nx K oK C oC D ow h tk' m₂ (E' : Value → Shared → Prop), ow.map (·.1) = [s.heap.objs.size + 4, s.heap.objs.size + 2, s.heap.objs.size + 3, s.heap.objs.size, s.heap.objs.size + 1] → LCg.NsObj oC m₂ → oK.data = .cell (some v1) → m₂ x₂ = some v2 → Fr h₀ L h m → News h₀ L h ((C, oC) :: (D, LCg.lst ys') :: (K, oK) :: (ow ++ nx)) →
      (∀ p ∈ nx, p.1 ≠ C ∧ p.1 ≠ D ∧ p.1 ≠ K) → C ≠ D → JJ s.heap.objs.size i ys' nx →
      wpAny (model prog w) A (eval elt (compEnvC scope [(x, K)] C env)) (fun y s' => ∃ h' tk'' nx', s' = { s with heap := h', toks := tk'' } ∧ Fr h₀ L h' m ∧ News h₀ L h' ((C, oC) :: (D, LCg.lst ys') :: (K, oK) :: (ow ++ nx')) ∧ (∀ p ∈ nx', p.1 ≠ C ∧ p.1 ≠ D ∧ p.1 ≠ K) ∧ JJ s.heap.objs.size (i + 1) (ys' ++ [y]) nx') E' { s with heap := h, toks := tk' })
    (done : ∀ ys' nx D h tk', JJ s.heap.objs.size xs.length ys' nx → Fr h₀ L h m → News h₀ L h ((D, LCg.lst ys') :: nx) → (∀ p ∈ nx, p.1 ≠ D) → Q (.ref D) { s with heap := h, toks := tk' }) :
    wpAny (model prog w) A (call (.type "zip") [.ref l1, .ref l2]) (PairSrcC prog w A h₀ L m env elt x x₂ scope Q) E s :=
  zip_srcTC (JJ s.heap.objs.size) hh F N h1 h2 hle hz hJ hJs turn done
end
theorem own_all {lo : Nat} {ow : Led} {D : Addr} (how : ow.map (·.1) = [lo + 4, lo + 2, lo + 3, lo, lo + 1]) (off : ∀ p ∈ ow, p.1 ≠ D) : ∀ b : Addr, @LE.le Nat _ lo b → @LT.lt Nat _ b (lo + 5) → b ≠ D := by
  intro b h1 h2
  have hb : b ∈ ow.map (·.1) := by
    rw [how]
    simp only [List.mem_cons, List.not_mem_nil, or_false]
    have h1' : lo ≤ (show Nat from b) := h1
    have h2' : (show Nat from b) < lo + 5 := h2
    rcases (by omega : (show Nat from b) = lo + 4 ∨ (show Nat from b) = lo + 2 ∨ (show Nat from b) = lo + 3 ∨ (show Nat from b) = lo ∨ (show Nat from b) = lo + 1) with h | h | h | h | h
    · exact .inl h
    · exact .inr (.inl h)
    · exact .inr (.inr (.inl h))
    · exact .inr (.inr (.inr (.inl h)))
    · exact .inr (.inr (.inr (.inr h)))
  obtain ⟨p, hp, rfl⟩ := List.mem_map.mp hb
  exact off p hp
theorem news_dip {h₀ h : Heap} {L : Addr} {d c e k : Addr × Obj} {ow nx : Led} (N : News h₀ L h (d :: c :: e :: k :: (ow ++ nx))) : News h₀ L h (c :: e :: k :: (ow ++ d :: nx)) := by
  intro p hp
  refine N p ?_
  rcases List.mem_cons.mp hp with rfl | hp
  · exact .tail _ (.head _)
  rcases List.mem_cons.mp hp with rfl | hp
  · exact .tail _ (.tail _ (.head _))
  rcases List.mem_cons.mp hp with rfl | hp
  · exact .tail _ (.tail _ (.tail _ (.head _)))
  rcases List.mem_append.mp hp with hp | hp
  · exact .tail _ (.tail _ (.tail _ (.tail _ (List.mem_append_left _ hp))))
  rcases List.mem_cons.mp hp with rfl | hp
  · exact .head _
  · exact .tail _ (.tail _ (.tail _ (.tail _ (List.mem_append_right _ hp))))

end Mine
end
section
open PySem PySem.W PyProof.Rows PySem.Calls Builtin Builtin.ObjectAttr
namespace Mine
set_option maxRecDepth 100000
set_option maxHeartbeats 8000000
local macro_rules | `(tactic| walk_at "getAttr ref") => `(tactic| (k_here; k_dflt (refine' hk_bound ?k1 ?k2 ?k3 ?k4 ?k5 ?kh ?k6 ?k7 ?k8 ?k9 ?k10 ?k11 ?k12 ?_; (case k4 => k_inst); (case k1 => k_asm); (case k2 => k_asm); (case k3 => k_asm); (case k5 => k_is); (case kh => k_is); (case k6 => k_is); (case k7 => k_is); (case k8 => k_is); (case k9 => k_is); (case k10 => k_is); (case k11 => decide +kernel); (case k12 => k_get); k_whole); intro q' h' F' N' l1; (try k_lt l1); (try k_sweep)))
local macro_rules | `(tactic| walk_at "getAttr ref") => `(tactic| (k_here; k_dflt (refine' hk_own ?k1 ?k2 ?k3 ?k4 ?k5 ?k6 ?k7 ?k8 ?k9 ?_; (case k1 => k_asm); (case k2 => k_asm); (case k3 => k_inst); (case k4 => k_is); (case k5 => k_is); (case k6 => k_is); (case k7 => k_is); (case k8 => k_get); (case k9 => k_handed); k_whole)))
local macro_rules | `(tactic| walk_at "getMethod ref") => `(tactic| (k_here; k_dflt (refine' hk_method ?k1 ?k2 ?k3 ?k4 ?k5 ?_; (case k1 => k_asm); (case k2 => k_asm); (case k3 => k_inst); (case k4 => k_is); (case k5 => k_is); k_whole)))
local macro_rules | `(tactic| ktr_enter) => `(tactic| (refine' code_def ?k1 ?k2 ?k3 ?k4 ?k5 ?kA ?kF ?kK ?k6 ?k7 ?k8 ?k9 ?kB ?_ ?c2 ?c3 ?c4 ?c5; (case kA => exact rfl); (case kF => exact rfl); (case kK => first | assumption | exact rfl); (case k1 => k_asm); (case k2 => k_asm); (case k3 => k_asm); (case k4 => k_asm); (case k5 => k_asm); (case k6 => k_is); (case k7 => k_is); (case k8 => ktr_room); (case k9 => first | exact BindsTo.of_eq rfl | exact binds_K (by k_in) rfl (by k_is) rfl rfl rfl); (case c5 => decide); (case kB => exact locs rfl); (case c2 => exact rfl); (case c3 => exact rfl); (case c4 => exact rfl); k_whole; intro g' L' h' FG' F' N' B' X' T'; (try dsimp only); (try k_lift B'); (try k_fold)))
local macro_rules | `(tactic| ktr_call $c:term 0) => `(tactic| (refine wpAny_call ?_; k_dflt (refine' ct_use $c ?k1 ?k2 ?k3 ?k4 ?k5 ?kK ?kd ?ku ?kp ?_; (case k1 => k_asm); (case k2 => k_asm); (case k3 => k_asm); (case k4 => k_asm); (case k5 => k_asm); (case kK => first | assumption | exact rfl); (case kd => ktr_room); (case ku => ktr_units))))
local macro_rules | `(tactic| ktr_call $c:term 1) => `(tactic| (refine' call_meth ?N ?q ?_; (case N => k_asm); (case q => k_mem); k_dflt (refine' ct_use $c ?k1 ?k2 ?k3 ?k4 ?k5 ?kK ?kd ?ku ?kp ?_; (case k1 => k_asm); (case k2 => k_asm); (case k3 => k_asm); (case k4 => k_asm); (case k5 => k_asm); (case kK => first | assumption | exact rfl); (case kd => ktr_room); (case ku => ktr_units))))
local macro_rules | `(tactic| k_mem) => `(tactic| first | assumption | exact List.mem_cons_self .. | (refine' List.mem_cons_of_mem _ ?_; k_mem))
local macro_rules | `(tactic| kst_same) => `(tactic| (intro z h1 h2 h3; (simp only [List.forall_mem_cons, List.not_mem_nil, false_implies, implies_true, and_true, ne_eq] at h2); (simp only [List.contains_cons, List.contains_nil, Bool.or_false, Bool.or_eq_false_iff, beq_eq_false_iff_ne, ne_eq] at h3); (simp [kstB, h1, h2, h3]; done)))
local macro_rules | `(tactic| kby_size) => `(tactic| (rw [PySem.sizeLine_eq]; omega))
local macro_rules | `(tactic| walk_at "call builtin:str.lstrip") => `(tactic| (k_here; (refine KXw.lstrip (by assumption) (by kby_size) ?_); intro _ _))
local macro_rules | `(tactic| walk_at "call builtin:str.strip") => `(tactic| (k_here; (refine KXw.strip (by assumption) (by kby_size) ?_); intro _ _))
local macro_rules | `(tactic| walk_at "call builtin:str.strip") => `(tactic| (k_here; (refine KXw.stripChars (by assumption) (by kby_size) ?_); intro _ _))
local macro_rules | `(tactic| walk_at "call builtin:str.upper") => `(tactic| (k_here; (refine KXw.upper (by assumption) (by decide +kernel) ?_); intro _ _))
local macro_rules | `(tactic| walk_at "call builtin:str.partition") => `(tactic| (k_here; (refine KXpa.partition (by k_asm) (by k_asm) (by decide) (by assumption) (by assumption) (by assumption) (by kby_size) ?_); intro D' _ _ _ _ _ F' N' l1; (try k_lt l1)))
local macro_rules | `(tactic| walk_at "call builtin:str.split") => `(tactic| (k_here; (refine KSpl.split1 (by k_asm) (by k_asm) (by decide) ?_ (by kby_size)); intro D' _ _ _ _ _ F' N' l1; (try k_lt l1)))
theorem t_duen (w : World) (R a1 a2 a3 : Addr) (n n1 n2 n3 : Nat) (ls1 ls2 ls3 : List (Str × Tok)) (r1 r2 r3 : List Str) (hr1 : OkRow r1) (hr2 : OkRow r2) (hr3 : OkRow r3) (hl1 : ls1.map (·.1) = r1) (hl2 : ls2.map (·.1) = r2) (hl3 : ls3.map (·.1) = r3) :
    CtO w 346 8 (fun news => (R, listOf [.ref a1, .ref a2, .ref a3].toArray n) ∈ news ∧ (a1, listOf (strValues ls1).toArray n1) ∈ news ∧ (a2, listOf (strValues ls2).toArray n2) ∈ news ∧ (a3, listOf (strValues ls3).toArray n3) ∈ news) [.ref R]
    (fun new _ v => DatIn new v (.list [.list ((List.range 5).map fun i => .str (r1.getD i "")), .list ((List.range 8).map fun i => .str (r2.getD i "")), .list ((List.range 5).map fun i => .str (r3.getD i ""))])) := by
  refine fillit _ ?_
  k_fill
  show CtO _ _ _ _ _ _
  intro mean mg mb dp un gd cn cs a ccd cl outer A₀ base h₀ L m news s Q E B F X N T hk hd hu hpre hret
  obtain ⟨hR, h1, h2, h3⟩ := hpre
  k_dflt ktr_enter
  repeat' ((fail_if_success (with_reducible show wpAny _ _ (PySem.eval (PySem.Expr.ListComp _ _ _ _) _) _ _ _)); first | walk1 | (k_unfold; (try dsimp only)))
  try dsimp only
  refine' pair_listcompC ?cF ?c0 ?c1 ?c2 ?c3 ?c4 ?c5 ?c6 ?c7 ?c8 ?h
  case cF => k_asm
  case c0 => exact rfl
  case c1 => with_unfolding_all rfl
  case c2 => exact rfl
  case c3 => rfl
  case c4 => decide
  case c5 => rfl
  case c6 => decide
  case c7 => rfl
  case c8 => decide
  case h =>
    repeat' ((fail_if_success (with_reducible show wpAny _ _ (PySem.call (Value.type "zip") _) _ _ _)); first | walk1 | (k_unfold; (try dsimp only)))
    try dsimp only
    rename Fr _ _ _ _ => FZ
    rename News _ _ _ _ => NZ
    rename (∀ p ∈ news, _) => lZ
    refine zip_srcTCn (DJ _ [.list ((List.range 5).map fun i => .str (r1.getD i "")), .list ((List.range 8).map fun i => .str (r2.getD i "")), .list ((List.range 5).map fun i => .str (r3.getD i ""))]) (xs := [.ref a1, .ref a2, .ref a3]) (n1 := n) rfl FZ NZ (.tail _ hR) (List.mem_cons_self ..) (Nat.le_of_ble_eq_true rfl) (Nat.le_of_ble_eq_true rfl) (DJ.zero NZ) ?hJs ?turn ?done
    case hJs =>
      rintro i ys nx ⟨dn, rfl, h5, h6, h7⟩
      exact ⟨List.mem_append_right _ (.tail _ hR), List.mem_append_right _ (List.mem_cons_self ..), h5⟩
    case turn =>
      intro i v1 v2 q1 q2 ys' nx K oK C oC D ow h tk' m₂ E' how hC hK hm2 F5 N5 off5 hCD hJ
      have hJ' := hJ
      obtain ⟨dn, hnx, h5, h6, h7⟩ := hJ'
      rcases i with _ | _ | _ | i
      · cases q1
        cases q2
        refine LCg.ListComp_U (F₀ := by assumption) (by with_unfolding_all rfl) (by decide) (by rfl) (by decide) (by rfl) ?_
        repeat' ((fail_if_success (with_reducible show LCg.CompSrc _ _ _ _ _ _ _ _ _ _ _ _ _ _)); first | walk1 | (k_unfold; (try dsimp only)))
        try dsimp only
        refine LCg.CompSrc.range (n := 5) (by rfl) (by k_asm) (by k_asm) (by assumption) (by first | decide | rfl) (by first | rfl | decide) (Nat.le_of_ble_eq_true rfl) ?_
        intro g'
        refine rest_by (n := 5) (fun i ys nw => nw = (C, oC) :: (D, LCg.lst ys') :: (K, oK) :: (ow ++ nx) ∧ ∃ lz, ys = strValues lz ∧ lz.map (·.1) = (List.range i).map fun j => r1.getD j "") ?turn ?fin 5 0 [] _ rfl ⟨rfl, [], rfl, rfl⟩
        case turn =>
          intro j ys nw hj ⟨hnw, lz, hlz, hlz'⟩ v I oI C' oC' D' m₂' h' tk'' E'' hv hC' hx' F7 N7 off7 ne7
          subst hnw hlz
          obtain ⟨t, rfl⟩ := hv
          rw [Int.zero_add] at hx'
          have ha : (a1, listOf (strValues ls1).toArray n1) ∈ nx := hnx ▸ List.mem_append_right _ (.tail _ h1)
          have hrl : (strValues ls1).length = r1.length := by rw [strValues_len, ← hl1, List.length_map]
          have hfew := hr1.few
          repeat' ((fail_if_success (with_reducible show wpAny _ _ (PySem.call (Value.builtin "len") _) _ _ _)); first | walk1 | (k_unfold; (try dsimp only)))
          try dsimp only
          rename News _ _ _ _ => N9
          refine kst_len (us := strValues ls1) (k := r1.length) N9 (by repeat (first | exact List.mem_append_right _ ha | apply List.Mem.tail)) hrl (by omega) ?_
          repeat' ((fail_if_success (with_reducible show wpAny _ _ (subscriptTail _ _ _ _) _ _ _)); (fail_if_success (with_reducible show LCg.CompEnd _ _ _ _ _ _ _ _ _ _ _ _ _ _)); first | walk1 | (k_unfold; (try dsimp only)))
          · try dsimp only
            have hlt : j < r1.length := by omega
            obtain ⟨p, tp, hp1, hp2⟩ := strs_at hl1 hlt
            rename News _ _ _ _ => N7
            refine item_listV (items := (strValues ls1).toArray) (x := .str p tp) (News.isList N7 (by repeat (first | exact List.mem_append_right _ ha | apply List.Mem.tail))) (by omega) (by omega) hp1 ?_
            repeat' ((fail_if_success (with_reducible show LCg.CompEnd _ _ _ _ _ _ _ _ _ _ _ _ _ _)); first | walk1 | (k_unfold; (try dsimp only)))
            try dsimp only
            refine LCg.CompEnd.intro (by assumption) (by assumption) ((C, oC) :: (D, LCg.lst ys') :: (K, oK) :: (ow ++ nx)) (fun p hp => hp) off7 trivial ⟨rfl, lz ++ [(p, tp)], (by simp [strValues]), ?_⟩
            rw [List.map_append, hlz', List.range_succ, List.map_append, ← hp2]
            rfl
          · try dsimp only
            refine LCg.CompEnd.intro (by assumption) (by assumption) ((C, oC) :: (D, LCg.lst ys') :: (K, oK) :: (ow ++ nx)) (fun p hp => hp) off7 trivial ⟨rfl, lz ++ [(Str.ofString "", _)], (by simp [strValues]; rfl), ?_⟩
            rw [List.map_append, hlz', List.range_succ, List.map_append]
            have hge : r1.getD j (Str.ofString "") = Str.ofString "" := by rw [List.getD_eq_getElem?_getD, List.getElem?_eq_none (by omega)]; rfl
            simp only [List.map_cons, List.map_nil, hge]
        case fin =>
          rintro ys nw ⟨rfl, lz, rfl, hlz'⟩
          intro D9 h9 tk9 F9 N9 o9
          try dsimp only
          have o9' := off1_mem o9
          refine ⟨h9, tk9, (D9, LCg.lst (strValues lz)) :: nx, rfl, F9, news_dip N9, ?_, DJ.turn hJ (fun p hp => o9' p (.tail _ (.tail _ (.tail _ (List.mem_append_right _ hp))))) (own_all how fun p hp => o9' p (.tail _ (.tail _ (.tail _ (List.mem_append_left _ hp))))) rfl fun r => .list (List.mem_cons_self ..) (?_ : DatAll _ _ (List.map (fun i => Dat.str (r1.getD i (Str.ofString ""))) (List.range 5)))⟩
          · intro p hp
            rcases List.mem_cons.mp hp with rfl | hp
            · exact ⟨Ne.symm (o9' _ (.head _)), Ne.symm (o9' _ (.tail _ (.head _))), Ne.symm (o9' _ (.tail _ (.tail _ (.head _))))⟩
            · exact off5 p hp
          · have e9 := congrArg (List.map Dat.str) hlz'
            rw [show List.map Dat.str (List.map (fun j => r1.getD j (Str.ofString "")) (List.range 5)) = List.map (fun i => Dat.str (r1.getD i (Str.ofString ""))) (List.range 5) from List.map_map ..] at e9
            exact e9 ▸ strs_dat lz
      · cases q1
        cases q2
        refine LCg.ListComp_U (F₀ := by assumption) (by with_unfolding_all rfl) (by decide) (by rfl) (by decide) (by rfl) ?_
        repeat' ((fail_if_success (with_reducible show LCg.CompSrc _ _ _ _ _ _ _ _ _ _ _ _ _ _)); first | walk1 | (k_unfold; (try dsimp only)))
        try dsimp only
        refine LCg.CompSrc.range (n := 8) (by rfl) (by k_asm) (by k_asm) (by assumption) (by first | decide | rfl) (by first | rfl | decide) (Nat.le_of_ble_eq_true rfl) ?_
        intro g'
        refine rest_by (n := 8) (fun i ys nw => nw = (C, oC) :: (D, LCg.lst ys') :: (K, oK) :: (ow ++ nx) ∧ ∃ lz, ys = strValues lz ∧ lz.map (·.1) = (List.range i).map fun j => r2.getD j "") ?turn ?fin 8 0 [] _ rfl ⟨rfl, [], rfl, rfl⟩
        case turn =>
          intro j ys nw hj ⟨hnw, lz, hlz, hlz'⟩ v I oI C' oC' D' m₂' h' tk'' E'' hv hC' hx' F7 N7 off7 ne7
          subst hnw hlz
          obtain ⟨t, rfl⟩ := hv
          rw [Int.zero_add] at hx'
          have ha : (a2, listOf (strValues ls2).toArray n2) ∈ nx := hnx ▸ List.mem_append_right _ (.tail _ h2)
          have hrl : (strValues ls2).length = r2.length := by rw [strValues_len, ← hl2, List.length_map]
          have hfew := hr2.few
          repeat' ((fail_if_success (with_reducible show wpAny _ _ (PySem.call (Value.builtin "len") _) _ _ _)); first | walk1 | (k_unfold; (try dsimp only)))
          try dsimp only
          rename News _ _ _ _ => N9
          refine kst_len (us := strValues ls2) (k := r2.length) N9 (by repeat (first | exact List.mem_append_right _ ha | apply List.Mem.tail)) hrl (by omega) ?_
          repeat' ((fail_if_success (with_reducible show wpAny _ _ (subscriptTail _ _ _ _) _ _ _)); (fail_if_success (with_reducible show LCg.CompEnd _ _ _ _ _ _ _ _ _ _ _ _ _ _)); first | walk1 | (k_unfold; (try dsimp only)))
          · try dsimp only
            have hlt : j < r2.length := by omega
            obtain ⟨p, tp, hp1, hp2⟩ := strs_at hl2 hlt
            rename News _ _ _ _ => N7
            refine item_listV (items := (strValues ls2).toArray) (x := .str p tp) (News.isList N7 (by repeat (first | exact List.mem_append_right _ ha | apply List.Mem.tail))) (by omega) (by omega) hp1 ?_
            repeat' ((fail_if_success (with_reducible show LCg.CompEnd _ _ _ _ _ _ _ _ _ _ _ _ _ _)); first | walk1 | (k_unfold; (try dsimp only)))
            try dsimp only
            refine LCg.CompEnd.intro (by assumption) (by assumption) ((C, oC) :: (D, LCg.lst ys') :: (K, oK) :: (ow ++ nx)) (fun p hp => hp) off7 trivial ⟨rfl, lz ++ [(p, tp)], (by simp [strValues]), ?_⟩
            rw [List.map_append, hlz', List.range_succ, List.map_append, ← hp2]
            rfl
          · try dsimp only
            refine LCg.CompEnd.intro (by assumption) (by assumption) ((C, oC) :: (D, LCg.lst ys') :: (K, oK) :: (ow ++ nx)) (fun p hp => hp) off7 trivial ⟨rfl, lz ++ [(Str.ofString "", _)], (by simp [strValues]; rfl), ?_⟩
            rw [List.map_append, hlz', List.range_succ, List.map_append]
            have hge : r2.getD j (Str.ofString "") = Str.ofString "" := by rw [List.getD_eq_getElem?_getD, List.getElem?_eq_none (by omega)]; rfl
            simp only [List.map_cons, List.map_nil, hge]
        case fin =>
          rintro ys nw ⟨rfl, lz, rfl, hlz'⟩
          intro D9 h9 tk9 F9 N9 o9
          try dsimp only
          have o9' := off1_mem o9
          refine ⟨h9, tk9, (D9, LCg.lst (strValues lz)) :: nx, rfl, F9, news_dip N9, ?_, DJ.turn hJ (fun p hp => o9' p (.tail _ (.tail _ (.tail _ (List.mem_append_right _ hp))))) (own_all how fun p hp => o9' p (.tail _ (.tail _ (.tail _ (List.mem_append_left _ hp))))) rfl fun r => .list (List.mem_cons_self ..) (?_ : DatAll _ _ (List.map (fun i => Dat.str (r2.getD i (Str.ofString ""))) (List.range 8)))⟩
          · intro p hp
            rcases List.mem_cons.mp hp with rfl | hp
            · exact ⟨Ne.symm (o9' _ (.head _)), Ne.symm (o9' _ (.tail _ (.head _))), Ne.symm (o9' _ (.tail _ (.tail _ (.head _))))⟩
            · exact off5 p hp
          · have e9 := congrArg (List.map Dat.str) hlz'
            rw [show List.map Dat.str (List.map (fun j => r2.getD j (Str.ofString "")) (List.range 8)) = List.map (fun i => Dat.str (r2.getD i (Str.ofString ""))) (List.range 8) from List.map_map ..] at e9
            exact e9 ▸ strs_dat lz
      · cases q1
        cases q2
        refine LCg.ListComp_U (F₀ := by assumption) (by with_unfolding_all rfl) (by decide) (by rfl) (by decide) (by rfl) ?_
        repeat' ((fail_if_success (with_reducible show LCg.CompSrc _ _ _ _ _ _ _ _ _ _ _ _ _ _)); first | walk1 | (k_unfold; (try dsimp only)))
        try dsimp only
        refine LCg.CompSrc.range (n := 5) (by rfl) (by k_asm) (by k_asm) (by assumption) (by first | decide | rfl) (by first | rfl | decide) (Nat.le_of_ble_eq_true rfl) ?_
        intro g'
        refine rest_by (n := 5) (fun i ys nw => nw = (C, oC) :: (D, LCg.lst ys') :: (K, oK) :: (ow ++ nx) ∧ ∃ lz, ys = strValues lz ∧ lz.map (·.1) = (List.range i).map fun j => r3.getD j "") ?turn ?fin 5 0 [] _ rfl ⟨rfl, [], rfl, rfl⟩
        case turn =>
          intro j ys nw hj ⟨hnw, lz, hlz, hlz'⟩ v I oI C' oC' D' m₂' h' tk'' E'' hv hC' hx' F7 N7 off7 ne7
          subst hnw hlz
          obtain ⟨t, rfl⟩ := hv
          rw [Int.zero_add] at hx'
          have ha : (a3, listOf (strValues ls3).toArray n3) ∈ nx := hnx ▸ List.mem_append_right _ (.tail _ h3)
          have hrl : (strValues ls3).length = r3.length := by rw [strValues_len, ← hl3, List.length_map]
          have hfew := hr3.few
          repeat' ((fail_if_success (with_reducible show wpAny _ _ (PySem.call (Value.builtin "len") _) _ _ _)); first | walk1 | (k_unfold; (try dsimp only)))
          try dsimp only
          rename News _ _ _ _ => N9
          refine kst_len (us := strValues ls3) (k := r3.length) N9 (by repeat (first | exact List.mem_append_right _ ha | apply List.Mem.tail)) hrl (by omega) ?_
          repeat' ((fail_if_success (with_reducible show wpAny _ _ (subscriptTail _ _ _ _) _ _ _)); (fail_if_success (with_reducible show LCg.CompEnd _ _ _ _ _ _ _ _ _ _ _ _ _ _)); first | walk1 | (k_unfold; (try dsimp only)))
          · try dsimp only
            have hlt : j < r3.length := by omega
            obtain ⟨p, tp, hp1, hp2⟩ := strs_at hl3 hlt
            rename News _ _ _ _ => N7
            refine item_listV (items := (strValues ls3).toArray) (x := .str p tp) (News.isList N7 (by repeat (first | exact List.mem_append_right _ ha | apply List.Mem.tail))) (by omega) (by omega) hp1 ?_
            repeat' ((fail_if_success (with_reducible show LCg.CompEnd _ _ _ _ _ _ _ _ _ _ _ _ _ _)); first | walk1 | (k_unfold; (try dsimp only)))
            try dsimp only
            refine LCg.CompEnd.intro (by assumption) (by assumption) ((C, oC) :: (D, LCg.lst ys') :: (K, oK) :: (ow ++ nx)) (fun p hp => hp) off7 trivial ⟨rfl, lz ++ [(p, tp)], (by simp [strValues]), ?_⟩
            rw [List.map_append, hlz', List.range_succ, List.map_append, ← hp2]
            rfl
          · try dsimp only
            refine LCg.CompEnd.intro (by assumption) (by assumption) ((C, oC) :: (D, LCg.lst ys') :: (K, oK) :: (ow ++ nx)) (fun p hp => hp) off7 trivial ⟨rfl, lz ++ [(Str.ofString "", _)], (by simp [strValues]; rfl), ?_⟩
            rw [List.map_append, hlz', List.range_succ, List.map_append]
            have hge : r3.getD j (Str.ofString "") = Str.ofString "" := by rw [List.getD_eq_getElem?_getD, List.getElem?_eq_none (by omega)]; rfl
            simp only [List.map_cons, List.map_nil, hge]
        case fin =>
          rintro ys nw ⟨rfl, lz, rfl, hlz'⟩
          intro D9 h9 tk9 F9 N9 o9
          try dsimp only
          have o9' := off1_mem o9
          refine ⟨h9, tk9, (D9, LCg.lst (strValues lz)) :: nx, rfl, F9, news_dip N9, ?_, DJ.turn hJ (fun p hp => o9' p (.tail _ (.tail _ (.tail _ (List.mem_append_right _ hp))))) (own_all how fun p hp => o9' p (.tail _ (.tail _ (.tail _ (List.mem_append_left _ hp))))) rfl fun r => .list (List.mem_cons_self ..) (?_ : DatAll _ _ (List.map (fun i => Dat.str (r3.getD i (Str.ofString ""))) (List.range 5)))⟩
          · intro p hp
            rcases List.mem_cons.mp hp with rfl | hp
            · exact ⟨Ne.symm (o9' _ (.head _)), Ne.symm (o9' _ (.tail _ (.head _))), Ne.symm (o9' _ (.tail _ (.tail _ (.head _))))⟩
            · exact off5 p hp
          · have e9 := congrArg (List.map Dat.str) hlz'
            rw [show List.map Dat.str (List.map (fun j => r3.getD j (Str.ofString "")) (List.range 5)) = List.map (fun i => Dat.str (r3.getD i (Str.ofString ""))) (List.range 5) from List.map_map ..] at e9
            exact e9 ▸ strs_dat lz
      · cases q1
    case done =>
      intro ys' nx D h tk' ⟨dn, hnx, h5, h6, h7⟩ F5 N5 off5
      subst hnx
      try dsimp only
      k_steps
      try dsimp only
      refine hret _ _ ((D, _) :: (dn ++ [(_, _)])) _ (by assumption) (by rw [List.cons_append, List.append_assoc]; assumption) (fun p hp q hq => ?_) (.list (List.mem_cons_self ..) (datAll_mono (fun p hp => .tail _ (List.mem_append_left _ hp)) h7))
      rcases List.mem_cons.mp hp with rfl | hp
      · exact off5 q (List.mem_append_right _ (.tail _ hq))
      rcases List.mem_append.mp hp with hp | hp
      · exact h6 p hp q (.tail _ hq)
      · rw [List.mem_singleton.mp hp]
        exact Nat.ne_of_lt (lZ q hq)

end Mine
end
section
open PySem PySem.W PyProof.Rows PySem.Calls Builtin Builtin.ObjectAttr
namespace Mine
set_option maxRecDepth 100000
set_option maxHeartbeats 8000000
local macro_rules | `(tactic| walk_at "getAttr ref") => `(tactic| (k_here; k_dflt (refine' hk_bound ?k1 ?k2 ?k3 ?k4 ?k5 ?kh ?k6 ?k7 ?k8 ?k9 ?k10 ?k11 ?k12 ?_; (case k4 => k_inst); (case k1 => k_asm); (case k2 => k_asm); (case k3 => k_asm); (case k5 => k_is); (case kh => k_is); (case k6 => k_is); (case k7 => k_is); (case k8 => k_is); (case k9 => k_is); (case k10 => k_is); (case k11 => decide +kernel); (case k12 => k_get); k_whole); intro q' h' F' N' l1; (try k_lt l1); (try k_sweep)))
local macro_rules | `(tactic| walk_at "getAttr ref") => `(tactic| (k_here; k_dflt (refine' hk_own ?k1 ?k2 ?k3 ?k4 ?k5 ?k6 ?k7 ?k8 ?k9 ?_; (case k1 => k_asm); (case k2 => k_asm); (case k3 => k_inst); (case k4 => k_is); (case k5 => k_is); (case k6 => k_is); (case k7 => k_is); (case k8 => k_get); (case k9 => k_handed); k_whole)))
local macro_rules | `(tactic| walk_at "getMethod ref") => `(tactic| (k_here; k_dflt (refine' hk_method ?k1 ?k2 ?k3 ?k4 ?k5 ?_; (case k1 => k_asm); (case k2 => k_asm); (case k3 => k_inst); (case k4 => k_is); (case k5 => k_is); k_whole)))
local macro_rules | `(tactic| ktr_enter) => `(tactic| (refine' code_def ?k1 ?k2 ?k3 ?k4 ?k5 ?kA ?kF ?kK ?k6 ?k7 ?k8 ?k9 ?kB ?_ ?c2 ?c3 ?c4 ?c5; (case kA => exact rfl); (case kF => exact rfl); (case kK => first | assumption | exact rfl); (case k1 => k_asm); (case k2 => k_asm); (case k3 => k_asm); (case k4 => k_asm); (case k5 => k_asm); (case k6 => k_is); (case k7 => k_is); (case k8 => ktr_room); (case k9 => first | exact BindsTo.of_eq rfl | exact binds_K (by k_in) rfl (by k_is) rfl rfl rfl); (case c5 => decide); (case kB => exact locs rfl); (case c2 => exact rfl); (case c3 => exact rfl); (case c4 => exact rfl); k_whole; intro g' L' h' FG' F' N' B' X' T'; (try dsimp only); (try k_lift B'); (try k_fold)))
local macro_rules | `(tactic| ktr_call $c:term 0) => `(tactic| (refine wpAny_call ?_; k_dflt (refine' ct_use $c ?k1 ?k2 ?k3 ?k4 ?k5 ?kK ?kd ?ku ?kp ?_; (case k1 => k_asm); (case k2 => k_asm); (case k3 => k_asm); (case k4 => k_asm); (case k5 => k_asm); (case kK => first | assumption | exact rfl); (case kd => ktr_room); (case ku => ktr_units))))
local macro_rules | `(tactic| ktr_call $c:term 1) => `(tactic| (refine' call_meth ?N ?q ?_; (case N => k_asm); (case q => k_mem); k_dflt (refine' ct_use $c ?k1 ?k2 ?k3 ?k4 ?k5 ?kK ?kd ?ku ?kp ?_; (case k1 => k_asm); (case k2 => k_asm); (case k3 => k_asm); (case k4 => k_asm); (case k5 => k_asm); (case kK => first | assumption | exact rfl); (case kd => ktr_room); (case ku => ktr_units))))
local macro_rules | `(tactic| k_mem) => `(tactic| first | assumption | exact List.mem_cons_self .. | (refine' List.mem_cons_of_mem _ ?_; k_mem))
local macro_rules | `(tactic| kst_same) => `(tactic| (intro z h1 h2 h3; (simp only [List.forall_mem_cons, List.not_mem_nil, false_implies, implies_true, and_true, ne_eq] at h2); (simp only [List.contains_cons, List.contains_nil, Bool.or_false, Bool.or_eq_false_iff, beq_eq_false_iff_ne, ne_eq] at h3); (simp [kstB, h1, h2, h3]; done)))
local macro_rules | `(tactic| kby_size) => `(tactic| (rw [PySem.sizeLine_eq]; omega))
local macro_rules | `(tactic| walk_at "call builtin:str.lstrip") => `(tactic| (k_here; (refine KXw.lstrip (by assumption) (by kby_size) ?_); intro _ _))
local macro_rules | `(tactic| walk_at "call builtin:str.strip") => `(tactic| (k_here; (refine KXw.strip (by assumption) (by kby_size) ?_); intro _ _))
local macro_rules | `(tactic| walk_at "call builtin:str.strip") => `(tactic| (k_here; (refine KXw.stripChars (by assumption) (by kby_size) ?_); intro _ _))
local macro_rules | `(tactic| walk_at "call builtin:str.upper") => `(tactic| (k_here; (refine KXw.upper (by assumption) (by decide +kernel) ?_); intro _ _))
local macro_rules | `(tactic| walk_at "call builtin:str.partition") => `(tactic| (k_here; (refine KXpa.partition (by k_asm) (by k_asm) (by decide) (by assumption) (by assumption) (by assumption) (by kby_size) ?_); intro D' _ _ _ _ _ F' N' l1; (try k_lt l1)))
local macro_rules | `(tactic| walk_at "call builtin:str.split") => `(tactic| (k_here; (refine KSpl.split1 (by k_asm) (by k_asm) (by decide) ?_ (by kby_size)); intro D' _ _ _ _ _ F' N' l1; (try k_lt l1)))
--FROM ML1 MK5
def startA : List Str := ["4237.14", "N", "07120.83", "W", "HOME", "more"]
def startB : List Str := ["W84", "", "0.08", "N", "0.07", "E", "-47.7", "999", "rest"]
def startC : List Str := ["5100.50", "S", "00012.25", "E", "DOCK", "then"]
theorem strs_take (ls : List (Str × Tok)) (k : Nat) : strValues (ls.take k) = (strValues ls).take k := by
  simp [strValues, List.map_take]
theorem pick_upto (ls : List (Str × Tok)) {y : Int} (h : 0 ≤ y) : slicePick (strValues ls).toArray none (some y) none = (strValues (ls.take y.toNat)).toArray := by
  have e : sliceBounds none (some y) none (strValues ls).toArray.size = (((0 : Nat) : Int), ((min y.toNat (strValues ls).toArray.size : Nat) : Int), 1) := by
    simp only [sliceBounds, Option.getD_none, show (1 : Int) > 0 by decide, if_true, if_neg (show ¬ (y < 0) by omega)]
    congr 1
    congr 1
    omega
  rw [kmk_pick_nat _ e, strs_take]
  show (((strValues ls).drop 0).take (min y.toNat (strValues ls).toArray.size - 0)).toArray = _
  rw [List.drop_zero, Nat.sub_zero, List.size_toArray, kmk_take_min]
section
variable {w : World} {A : Around} {E : Value → Shared → Prop} {s : Shared} {h₀ base : Heap} {L l : Addr} {m : Str → Option Value} {news : Led}
theorem slice_upto {hp : Heap} {G : _} {Dr : _} {tk : _} {OS : _} {value slice : PySem.Expr} {ls : List (Str × Tok)} {y : Int} {t : Tok} {Q : Value → Shared → Prop} (F : Fr h₀ L hp m) (N : News h₀ L hp news) (hl : hp.IsList l (strValues ls).toArray) (h0 : 0 ≤ y) (hz : ls.length ≤ 100)
    (h : ∀ D h', Fr h₀ L h' m → News h₀ L h' ((D, listOf (strValues (ls.take y.toNat)).toArray 0) :: news) → (∀ p ∈ news, p.1 < D) → Q (.ref D) ⟨h', G, Dr, tk, OS⟩)
    (hs : subscripted slice false (.ref l) (.ref hp.objs.size) = operate [.ref hp.objs.size, .ref l] (getItem (.ref l) (.ref hp.objs.size))) :
    wpAny (model PG w) A (subscriptTail value slice (.ref l) (.ref hp.objs.size)) Q E ⟨hp.push { cls := .type "slice", data := .fields #[.none, .int y t, .none] }, G, Dr, tk, OS⟩ := by
  have hsz : (strValues ls).toArray.size ≤ sizeLine := by rw [List.size_toArray, strValues_len, sizeLine_eq]; omega
  refine tail_any (Heap.IsList.typeIs (s := ⟨hp.push { cls := .type "slice", data := .fields #[.none, .int y t, .none] }, G, Dr, tk, OS⟩) (hl.push _)) list_getitem_lookup
    (wpAny_getItem_list_slice (hl.push _) (Heap.IsSliceOf.new ..) .none (.int _ _) .none (by simp) ?_ hsz) hs
  have N1 := News.push (F.push { cls := .type "slice", data := .fields #[.none, .int y t, .none] }) (N.grown fun _ _ e => Heap.get?_push_of_some _ e) { cls := .type "list", data := .seq (slicePick (strValues ls).toArray none (some y) none) }
  rw [Heap.size_push] at N1
  show Q (.ref (hp.push _).objs.size) _
  rw [Heap.size_push]
  rw [pick_upto ls h0] at N1 ⊢
  exact h _ _ ((F.push _).push _) N1 fun p hp' => Nat.lt_succ_of_lt (Heap.lt_size (N p hp').1)
theorem startsAt (w : World) {h : Heap} (X : (Mine.hd.heap_39 w.params).In h) : h.IsList 294 (#[.ref 291, .ref 292, .ref 293] : Array Value) ∧ (∃ ls : List (Str × Tok), h.IsList 291 (strValues ls).toArray ∧ ls.map (·.1) = startA) ∧ (∃ ls : List (Str × Tok), h.IsList 292 (strValues ls).toArray ∧ ls.map (·.1) = startB) ∧ (∃ ls : List (Str × Tok), h.IsList 293 (strValues ls).toArray ∧ ls.map (·.1) = startC) := by
  refine fillit _ ?_
  k_fill
  refine ⟨⟨_, X 294 _ (by k_is), rfl, _, rfl⟩, ⟨[(_, _), (_, _), (_, _), (_, _), (_, _), (_, _)], ⟨_, X 291 _ (by k_is), rfl, _, rfl⟩, rfl⟩, ⟨[(_, _), (_, _), (_, _), (_, _), (_, _), (_, _), (_, _), (_, _), (_, _)], ⟨_, X 292 _ (by k_is), rfl, _, rfl⟩, rfl⟩, ⟨[(_, _), (_, _), (_, _), (_, _), (_, _), (_, _)], ⟨_, X 293 _ (by k_is), rfl, _, rfl⟩, rfl⟩⟩
end
def okB (row : List Str) : Bool := decide (row.length ≤ 9) && row.all fun p => decide (p.length ≤ 8) && p.cps.toList.all fun c => decide (c < 128 ∧ c ≠ 42)
theorem okB_ok {row : List Str} (h : okB row = true) : OkRow row := by
  unfold okB at h
  rw [Bool.and_eq_true, List.all_eq_true] at h
  refine ⟨of_decide_eq_true h.1, fun p hp => ?_, fun p hp c hc => ?_⟩
  · have := h.2 p hp
    rw [Bool.and_eq_true] at this
    exact of_decide_eq_true this.1
  · have := h.2 p hp
    rw [Bool.and_eq_true, List.all_eq_true] at this
    exact of_decide_eq_true (this.2 c hc)
theorem OkRow.take {row : List Str} (h : OkRow row) (k : Nat) : OkRow (row.take k) :=
  ⟨Nat.le_trans (by rw [List.length_take]; exact Nat.min_le_right _ _) h.few, fun p hp => h.short p (List.mem_of_mem_take hp), fun p hp => h.plain p (List.mem_of_mem_take hp)⟩
theorem okA : OkRow startA := okB_ok (by decide +kernel)
theorem okBB : OkRow startB := okB_ok (by decide +kernel)
theorem okC : OkRow startC := okB_ok (by decide +kernel)
def rowA (z : Int) : List Str := startA.take (z.fmod 7).toNat
def rowB (o : Int) : List Str := cutT (Txt.join "," (startB.take (o.fmod 10).toNat))
def rowC (z : Int) : List Str := startC.take ((z.fdiv 7).fmod 7).toNat
theorem rowA_ok (z : Int) : OkRow (rowA z) := okA.take _
theorem rowC_ok (z : Int) : OkRow (rowC z) := okC.take _
theorem cuts_ok : ∀ k, k < 10 → okB (cutT (Txt.join "," (startB.take k))) = true := by decide +kernel
theorem rowB_ok (o : Int) : OkRow (rowB o) := okB_ok (cuts_ok _ (by
  have h1 := Int.fmod_lt_of_pos o (show (0 : Int) < 10 by decide)
  have h2 := Int.fmod_nonneg_of_pos o (show (0 : Int) < 10 by decide)
  omega))

end Mine
end
section
open PySem PySem.W PyProof.Rows PySem.Calls Builtin Builtin.ObjectAttr
namespace Mine
set_option maxRecDepth 100000
set_option maxHeartbeats 8000000
local macro_rules | `(tactic| walk_at "getAttr ref") => `(tactic| (k_here; k_dflt (refine' hk_bound ?k1 ?k2 ?k3 ?k4 ?k5 ?kh ?k6 ?k7 ?k8 ?k9 ?k10 ?k11 ?k12 ?_; (case k4 => k_inst); (case k1 => k_asm); (case k2 => k_asm); (case k3 => k_asm); (case k5 => k_is); (case kh => k_is); (case k6 => k_is); (case k7 => k_is); (case k8 => k_is); (case k9 => k_is); (case k10 => k_is); (case k11 => decide +kernel); (case k12 => k_get); k_whole); intro q' h' F' N' l1; (try k_lt l1); (try k_sweep)))
local macro_rules | `(tactic| walk_at "getAttr ref") => `(tactic| (k_here; k_dflt (refine' hk_own ?k1 ?k2 ?k3 ?k4 ?k5 ?k6 ?k7 ?k8 ?k9 ?_; (case k1 => k_asm); (case k2 => k_asm); (case k3 => k_inst); (case k4 => k_is); (case k5 => k_is); (case k6 => k_is); (case k7 => k_is); (case k8 => k_get); (case k9 => k_handed); k_whole)))
local macro_rules | `(tactic| walk_at "getMethod ref") => `(tactic| (k_here; k_dflt (refine' hk_method ?k1 ?k2 ?k3 ?k4 ?k5 ?_; (case k1 => k_asm); (case k2 => k_asm); (case k3 => k_inst); (case k4 => k_is); (case k5 => k_is); k_whole)))
local macro_rules | `(tactic| ktr_enter) => `(tactic| (refine' code_def ?k1 ?k2 ?k3 ?k4 ?k5 ?kA ?kF ?kK ?k6 ?k7 ?k8 ?k9 ?kB ?_ ?c2 ?c3 ?c4 ?c5; (case kA => exact rfl); (case kF => exact rfl); (case kK => first | assumption | exact rfl); (case k1 => k_asm); (case k2 => k_asm); (case k3 => k_asm); (case k4 => k_asm); (case k5 => k_asm); (case k6 => k_is); (case k7 => k_is); (case k8 => ktr_room); (case k9 => first | exact BindsTo.of_eq rfl | exact binds_K (by k_in) rfl (by k_is) rfl rfl rfl); (case c5 => decide); (case kB => exact locs rfl); (case c2 => exact rfl); (case c3 => exact rfl); (case c4 => exact rfl); k_whole; intro g' L' h' FG' F' N' B' X' T'; (try dsimp only); (try k_lift B'); (try k_fold)))
local macro_rules | `(tactic| ktr_call $c:term 0) => `(tactic| (refine wpAny_call ?_; k_dflt (refine' ct_use $c ?k1 ?k2 ?k3 ?k4 ?k5 ?kK ?kd ?ku ?kp ?_; (case k1 => k_asm); (case k2 => k_asm); (case k3 => k_asm); (case k4 => k_asm); (case k5 => k_asm); (case kK => first | assumption | exact rfl); (case kd => ktr_room); (case ku => ktr_units))))
local macro_rules | `(tactic| ktr_call $c:term 1) => `(tactic| (refine' call_meth ?N ?q ?_; (case N => k_asm); (case q => k_mem); k_dflt (refine' ct_use $c ?k1 ?k2 ?k3 ?k4 ?k5 ?kK ?kd ?ku ?kp ?_; (case k1 => k_asm); (case k2 => k_asm); (case k3 => k_asm); (case k4 => k_asm); (case k5 => k_asm); (case kK => first | assumption | exact rfl); (case kd => ktr_room); (case ku => ktr_units))))
local macro_rules | `(tactic| k_mem) => `(tactic| first | assumption | exact List.mem_cons_self .. | (refine' List.mem_cons_of_mem _ ?_; k_mem))
local macro_rules | `(tactic| kst_same) => `(tactic| (intro z h1 h2 h3; (simp only [List.forall_mem_cons, List.not_mem_nil, false_implies, implies_true, and_true, ne_eq] at h2); (simp only [List.contains_cons, List.contains_nil, Bool.or_false, Bool.or_eq_false_iff, beq_eq_false_iff_ne, ne_eq] at h3); (simp [kstB, h1, h2, h3]; done)))
local macro_rules | `(tactic| kby_size) => `(tactic| (rw [PySem.sizeLine_eq]; omega))
local macro_rules | `(tactic| walk_at "call builtin:str.lstrip") => `(tactic| (k_here; (refine KXw.lstrip (by assumption) (by kby_size) ?_); intro _ _))
local macro_rules | `(tactic| walk_at "call builtin:str.strip") => `(tactic| (k_here; (refine KXw.strip (by assumption) (by kby_size) ?_); intro _ _))
local macro_rules | `(tactic| walk_at "call builtin:str.strip") => `(tactic| (k_here; (refine KXw.stripChars (by assumption) (by kby_size) ?_); intro _ _))
local macro_rules | `(tactic| walk_at "call builtin:str.upper") => `(tactic| (k_here; (refine KXw.upper (by assumption) (by decide +kernel) ?_); intro _ _))
local macro_rules | `(tactic| walk_at "call builtin:str.partition") => `(tactic| (k_here; (refine KXpa.partition (by k_asm) (by k_asm) (by decide) (by assumption) (by assumption) (by assumption) (by kby_size) ?_); intro D' _ _ _ _ _ F' N' l1; (try k_lt l1)))
local macro_rules | `(tactic| walk_at "call builtin:str.split") => `(tactic| (k_here; (refine KSpl.split1 (by k_asm) (by k_asm) (by decide) ?_ (by kby_size)); intro D' _ _ _ _ _ F' N' l1; (try k_lt l1)))
--FROM ML2
section
variable {w : World} {base h₀ : Heap} {mean : ExcName → Option Value} {mg mb : Str → Option Value} {L fa : Addr} {cd : Value} {s : Shared} {S : Addr} {vs : List Value} {ns : List Int} {Q : Flow → Shared → Prop} {E : Value → Shared → Prop}
theorem l_rows (K0 : Below callerA base [] base) (X : Frag.In (Mine.hd.heap_39 w.params) base) (T : Top VW LO mean mg mb base) (z o : Int) (t u : Tok)
    (F : Fr base L s.heap (fun x => if x = "other" then some (.int o u) else if x = "size" then some (.int z t) else if x = "script" then some (.ref S) else none)) (N : News base L s.heap [])
    (ret : ∀ (R r1 r2 r3 : Addr) (ls1 ls2 ls3 : List (Str × Tok)) (n n1 n2 n3 : Nat) h' tk', Fr base L h' (fun x => if x = "rows" then some (.ref R) else if x = "other" then some (.int o u) else if x = "size" then some (.int z t) else if x = "script" then some (.ref S) else none) →
      News base L h' [(R, listOf #[.ref r1, .ref r2, .ref r3] n), (r3, listOf (strValues ls3).toArray n3), (r2, listOf (strValues ls2).toArray n2), (r1, listOf (strValues ls1).toArray n1)] →
      (@LT.lt Nat _ r1 r2) → (@LT.lt Nat _ r2 r3) → (@LT.lt Nat _ r3 R) → ls1.map (·.1) = rowA z → ls2.map (·.1) = rowB o → ls3.map (·.1) = rowC z → Q .next { s with heap := h', toks := tk' }) :
    wpAny (model PG w) (lawAr L fa cd) (execs ((lawBody.drop 2).take 1) (lawEnv L fa cd)) Q E s := by
  obtain ⟨h294, ⟨lsA, hA, eA⟩, ⟨lsB, hB, eB⟩, ⟨lsC, hC, eC⟩⟩ := startsAt w X
  refine fillit _ ?_
  k_fill
  dsimp only [lawAr, lawEnv, lawBody, lawScope, lawDef, PySem.Challenge.pw_ez0283_01, List.getLast?, List.getLast, List.take, List.drop]
  repeat' ((fail_if_success (with_reducible show wpAny _ _ (subscriptTail _ _ (Value.ref 294) _) _ _ _)); first | walk1 | (k_unfold; (try dsimp only)))
  try dsimp only
  refine item_listV (x := .ref 291) (h294.at fun o e => F.keep _ _ e) (by decide) (by decide) rfl ?_
  repeat' ((fail_if_success (with_reducible show wpAny _ _ (subscriptTail _ _ (Value.ref 291) _) _ _ _)); first | walk1 | (k_unfold; (try dsimp only)))
  try dsimp only
  k_dflt (refine' slice_upto (ls := lsA) ?F ?N ?l ?h0 ?hz ?_ ?s)
  case F => k_asm
  case N => k_asm
  case l => exact hA.at fun o e => F.keep _ _ e
  case h0 => exact Int.fmod_nonneg_of_pos _ (by decide)
  case hz => rw [← List.length_map (f := (·.1)), eA]; decide
  case s => with_unfolding_all rfl
  intro D1 h1 F1 N1 l1
  k_lt l1
  try dsimp only
  repeat' ((fail_if_success (with_reducible show wpAny _ _ (subscriptTail _ _ (Value.ref 294) _) _ _ _)); first | walk1 | (k_unfold; (try dsimp only)))
  try dsimp only
  refine item_listV (x := .ref 292) (h294.at fun o e => F1.keep _ _ e) (by decide) (by decide) rfl ?_
  repeat' ((fail_if_success (with_reducible show wpAny _ _ (subscriptTail _ _ (Value.ref 292) _) _ _ _)); first | walk1 | (k_unfold; (try dsimp only)))
  try dsimp only
  k_dflt (refine' slice_upto (ls := lsB) ?F ?N ?l ?h0 ?hz ?_ ?s)
  case F => k_asm
  case N => k_asm
  case l => exact hB.at fun o e => F1.keep _ _ e
  case h0 => exact Int.fmod_nonneg_of_pos _ (by decide)
  case hz => rw [← List.length_map (f := (·.1)), eB]; decide
  case s => with_unfolding_all rfl
  intro D2 h2 F2 N2 l2
  k_lt l2
  try dsimp only
  repeat' ((fail_if_success (with_reducible show wpAny _ _ (PySem.call (Value.builtin "str.join") _) _ _ _)); first | walk1 | (k_unfold; (try dsimp only)))
  try dsimp only
  have okb : OkRow (startB.take (o.fmod 10).toNat) := okBB.take _
  have hl2 : (lsB.take (o.fmod 10).toNat).map (·.1) = startB.take (o.fmod 10).toNat := by rw [List.map_take, eB]
  refine SC.join (News.isList (n := 0) N2 (by k_mem)) hl2 okb.joinOk ?_
  intro jt jk
  try dsimp only
  have hjl := okb.join_len
  repeat' ((fail_if_success (with_reducible show wpAny _ _ (PySem.call (Value.ref 322) _) _ _ _)); first | walk1 | (k_unfold; (try dsimp only)))
  try dsimp only
  ktr_call (t_cut w (Txt.join "," (startB.take (o.fmod 10).toNat)) _ (fun c hc => (okb.join_plain c hc).1) (by omega)) 0
  · trivial
  intro h3 tk3 nw3 v3 F3 N3 l3 ⟨P, lsb, nb, e1, e2, e3⟩
  subst e1 e3
  simp only [List.cons_append, List.nil_append] at N3
  try dsimp only
  repeat' ((fail_if_success (with_reducible show wpAny _ _ (subscriptTail _ _ (Value.ref 294) _) _ _ _)); first | walk1 | (k_unfold; (try dsimp only)))
  try dsimp only
  refine item_listV (x := .ref 293) (h294.at fun o e => F3.keep _ _ e) (by decide) (by decide) rfl ?_
  repeat' ((fail_if_success (with_reducible show wpAny _ _ (subscriptTail _ _ (Value.ref 293) _) _ _ _)); first | walk1 | (k_unfold; (try dsimp only)))
  try dsimp only
  k_dflt (refine' slice_upto (ls := lsC) ?F ?N ?l ?h0 ?hz ?_ ?s)
  case F => k_asm
  case N => k_asm
  case l => exact hC.at fun o e => F3.keep _ _ e
  case h0 => exact Int.fmod_nonneg_of_pos _ (by decide)
  case hz => rw [← List.length_map (f := (·.1)), eC]; decide
  case s => with_unfolding_all rfl
  intro D4 h4 F4 N4 l4
  try dsimp only
  k_steps
  try dsimp only
  rename (_ < _ ∧ _) => l5
  have q3 := (l3 _ (List.mem_cons_self ..)).2.1
  have q4 := l4 _ (List.mem_cons_self ..)
  rename News _ _ _ _ => N9
  have N8 := news_drop (news := [(_, listOf #[.ref D1, .ref P, .ref D4] 0), (D4, listOf (strValues (lsC.take ((z.fdiv 7).fmod 7).toNat)).toArray 0), (P, listOf (strValues lsb).toArray nb), (D1, listOf (strValues (lsA.take (z.fmod 7).toNat)).toArray 0)]) N9 (by
    intro p hp
    simp only [List.mem_cons, List.not_mem_nil, or_false] at hp
    rcases hp with rfl | rfl | rfl | rfl
    · exact .head _
    · exact .tail _ (.head _)
    · exact .tail _ (.tail _ (.head _))
    · exact .tail _ (.tail _ (.tail _ (.tail _ (.head _)))))
  exact ret _ _ _ _ _ _ _ _ _ _ _ _ _ (by assumption) N8 q3 q4 l5.1 (by rw [List.map_take, eA]; rfl) e2 (by rw [List.map_take, eC]; rfl)
end

end Mine
end
section
open PySem PySem.W PyProof.Rows PySem.Calls Builtin Builtin.ObjectAttr
namespace Mine
set_option maxRecDepth 100000
set_option maxHeartbeats 8000000
local macro_rules | `(tactic| walk_at "getAttr ref") => `(tactic| (k_here; k_dflt (refine' hk_bound ?k1 ?k2 ?k3 ?k4 ?k5 ?kh ?k6 ?k7 ?k8 ?k9 ?k10 ?k11 ?k12 ?_; (case k4 => k_inst); (case k1 => k_asm); (case k2 => k_asm); (case k3 => k_asm); (case k5 => k_is); (case kh => k_is); (case k6 => k_is); (case k7 => k_is); (case k8 => k_is); (case k9 => k_is); (case k10 => k_is); (case k11 => decide +kernel); (case k12 => k_get); k_whole); intro q' h' F' N' l1; (try k_lt l1); (try k_sweep)))
local macro_rules | `(tactic| walk_at "getAttr ref") => `(tactic| (k_here; k_dflt (refine' hk_own ?k1 ?k2 ?k3 ?k4 ?k5 ?k6 ?k7 ?k8 ?k9 ?_; (case k1 => k_asm); (case k2 => k_asm); (case k3 => k_inst); (case k4 => k_is); (case k5 => k_is); (case k6 => k_is); (case k7 => k_is); (case k8 => k_get); (case k9 => k_handed); k_whole)))
local macro_rules | `(tactic| walk_at "getMethod ref") => `(tactic| (k_here; k_dflt (refine' hk_method ?k1 ?k2 ?k3 ?k4 ?k5 ?_; (case k1 => k_asm); (case k2 => k_asm); (case k3 => k_inst); (case k4 => k_is); (case k5 => k_is); k_whole)))
local macro_rules | `(tactic| ktr_enter) => `(tactic| (refine' code_def ?k1 ?k2 ?k3 ?k4 ?k5 ?kA ?kF ?kK ?k6 ?k7 ?k8 ?k9 ?kB ?_ ?c2 ?c3 ?c4 ?c5; (case kA => exact rfl); (case kF => exact rfl); (case kK => first | assumption | exact rfl); (case k1 => k_asm); (case k2 => k_asm); (case k3 => k_asm); (case k4 => k_asm); (case k5 => k_asm); (case k6 => k_is); (case k7 => k_is); (case k8 => ktr_room); (case k9 => first | exact BindsTo.of_eq rfl | exact binds_K (by k_in) rfl (by k_is) rfl rfl rfl); (case c5 => decide); (case kB => exact locs rfl); (case c2 => exact rfl); (case c3 => exact rfl); (case c4 => exact rfl); k_whole; intro g' L' h' FG' F' N' B' X' T'; (try dsimp only); (try k_lift B'); (try k_fold)))
local macro_rules | `(tactic| ktr_call $c:term 0) => `(tactic| (refine wpAny_call ?_; k_dflt (refine' ct_use $c ?k1 ?k2 ?k3 ?k4 ?k5 ?kK ?kd ?ku ?kp ?_; (case k1 => k_asm); (case k2 => k_asm); (case k3 => k_asm); (case k4 => k_asm); (case k5 => k_asm); (case kK => first | assumption | exact rfl); (case kd => ktr_room); (case ku => ktr_units))))
local macro_rules | `(tactic| ktr_call $c:term 1) => `(tactic| (refine' call_meth ?N ?q ?_; (case N => k_asm); (case q => k_mem); k_dflt (refine' ct_use $c ?k1 ?k2 ?k3 ?k4 ?k5 ?kK ?kd ?ku ?kp ?_; (case k1 => k_asm); (case k2 => k_asm); (case k3 => k_asm); (case k4 => k_asm); (case k5 => k_asm); (case kK => first | assumption | exact rfl); (case kd => ktr_room); (case ku => ktr_units))))
local macro_rules | `(tactic| k_mem) => `(tactic| first | assumption | exact List.mem_cons_self .. | (refine' List.mem_cons_of_mem _ ?_; k_mem))
local macro_rules | `(tactic| kst_same) => `(tactic| (intro z h1 h2 h3; (simp only [List.forall_mem_cons, List.not_mem_nil, false_implies, implies_true, and_true, ne_eq] at h2); (simp only [List.contains_cons, List.contains_nil, Bool.or_false, Bool.or_eq_false_iff, beq_eq_false_iff_ne, ne_eq] at h3); (simp [kstB, h1, h2, h3]; done)))
local macro_rules | `(tactic| kby_size) => `(tactic| (rw [PySem.sizeLine_eq]; omega))
local macro_rules | `(tactic| walk_at "call builtin:str.lstrip") => `(tactic| (k_here; (refine KXw.lstrip (by assumption) (by kby_size) ?_); intro _ _))
local macro_rules | `(tactic| walk_at "call builtin:str.strip") => `(tactic| (k_here; (refine KXw.strip (by assumption) (by kby_size) ?_); intro _ _))
local macro_rules | `(tactic| walk_at "call builtin:str.strip") => `(tactic| (k_here; (refine KXw.stripChars (by assumption) (by kby_size) ?_); intro _ _))
local macro_rules | `(tactic| walk_at "call builtin:str.upper") => `(tactic| (k_here; (refine KXw.upper (by assumption) (by decide +kernel) ?_); intro _ _))
local macro_rules | `(tactic| walk_at "call builtin:str.partition") => `(tactic| (k_here; (refine KXpa.partition (by k_asm) (by k_asm) (by decide) (by assumption) (by assumption) (by assumption) (by kby_size) ?_); intro D' _ _ _ _ _ F' N' l1; (try k_lt l1)))
local macro_rules | `(tactic| walk_at "call builtin:str.split") => `(tactic| (k_here; (refine KSpl.split1 (by k_asm) (by k_asm) (by decide) ?_ (by kby_size)); intro D' _ _ _ _ _ F' N' l1; (try k_lt l1)))
local macro_rules | `(tactic| walk_at "call type:list") => `(tactic| (k_here; (with_reducible show wpAny _ _ (call (Value.type _) [Value.ref _]) _ _ _); (refine' list_copyK ?k1 ?k2 ?k3 ?_ ?z; (case k1 => k_asm); (case k2 => k_asm); (case k3 => exact News.isList (by k_asm) (by k_mem)); (case z => (rw [List.size_toArray, strValues_len, PySem.sizeLine_eq]; omega)); k_whole); intro D' c' h' F' N' l1; (try k_lt l1); (try k_sweep)))
--FROM ML3
section
variable {w : World} {base h₀ : Heap} {mean : ExcName → Option Value} {mg mb : Str → Option Value} {L fa : Addr} {cd : Value} {s : Shared} {S R r1 r2 r3 : Addr} {ls1 ls2 ls3 : List (Str × Tok)} {n n1 n2 n3 : Nat} {Q : Flow → Shared → Prop} {E : Value → Shared → Prop} {news : Led} {rest : Str → Option Value}
theorem l_copies (K0 : Below callerA base [] base) (X : Frag.In (Mine.hd.heap_39 w.params) base) (T : Top VW LO mean mg mb base) (z o : Int) (t u : Tok)
    (F : Fr base L s.heap (fun x => if x = "rows" then some (.ref R) else if x = "other" then some (.int o u) else if x = "size" then some (.int z t) else if x = "script" then some (.ref S) else none))
    (N : News base L s.heap [(R, listOf #[.ref r1, .ref r2, .ref r3] n), (r3, listOf (strValues ls3).toArray n3), (r2, listOf (strValues ls2).toArray n2), (r1, listOf (strValues ls1).toArray n1)])
    (d1 : @LT.lt Nat _ r1 r2) (d2 : @LT.lt Nat _ r2 r3) (d3 : @LT.lt Nat _ r3 R) (z1 : ls1.length ≤ 9) (z2 : ls2.length ≤ 9) (z3 : ls3.length ≤ 9)
    (ret : ∀ (H h1 h3 KP p1 p3 : Addr) (c1 c2 c3 c4 c5 c6 : Nat) h' tk', Fr base L h' (fun x => if x = "kept" then some (.ref KP) else if x = "handed" then some (.ref H) else if x = "rows" then some (.ref R) else if x = "other" then some (.int o u) else if x = "size" then some (.int z t) else if x = "script" then some (.ref S) else none) →
      News base L h' [(KP, listOf #[.ref p1, .ref p3] c1), (p3, listOf (strValues ls3).toArray c2), (p1, listOf (strValues ls1).toArray c3), (H, listOf #[.ref h1, .ref h3] c4), (h3, listOf (strValues ls3).toArray c5), (h1, listOf (strValues ls1).toArray c6), (R, listOf #[.ref r1, .ref r2, .ref r3] n), (r3, listOf (strValues ls3).toArray n3), (r2, listOf (strValues ls2).toArray n2), (r1, listOf (strValues ls1).toArray n1)] →
      (@LT.lt Nat _ R h1) → (@LT.lt Nat _ h1 h3) → (@LT.lt Nat _ h3 H) → (@LT.lt Nat _ H p1) → (@LT.lt Nat _ p1 p3) → (@LT.lt Nat _ p3 KP) → Q .next { s with heap := h', toks := tk' }) :
    wpAny (model PG w) (lawAr L fa cd) (execs ((lawBody.drop 3).take 2) (lawEnv L fa cd)) Q E s := by
  refine fillit _ ?_
  k_fill
  dsimp only [lawAr, lawEnv, lawBody, lawScope, lawDef, PySem.Challenge.pw_ez0283_01, List.getLast?, List.getLast, List.take, List.drop]
  repeat' ((fail_if_success (with_reducible show wpAny _ _ (subscriptTail _ _ (Value.ref R) _) _ _ _)); first | walk1 | (k_unfold; (try dsimp only)))
  try dsimp only
  rename News base L _ _ => NJ
  refine item_listV (items := #[.ref r1, .ref r2, .ref r3]) (x := .ref r1) (News.isList (n := n) NJ (by k_mem)) (by decide) (by decide) rfl ?_
  repeat' ((fail_if_success (with_reducible show wpAny _ _ (subscriptTail _ _ (Value.ref R) _) _ _ _)); first | walk1 | (k_unfold; (try dsimp only)))
  try dsimp only
  rename News base L _ _ => NJ
  refine item_listV (items := #[.ref r1, .ref r2, .ref r3]) (x := .ref r3) (News.isList (n := n) NJ (by k_mem)) (by decide) (by decide) rfl ?_
  repeat' ((fail_if_success (with_reducible show wpAny _ _ (subscriptTail _ _ (Value.ref R) _) _ _ _)); first | walk1 | (k_unfold; (try dsimp only)))
  try dsimp only
  rename News base L _ _ => NJ
  refine item_listV (items := #[.ref r1, .ref r2, .ref r3]) (x := .ref r1) (News.isList (n := n) NJ (by k_mem)) (by decide) (by decide) rfl ?_
  repeat' ((fail_if_success (with_reducible show wpAny _ _ (subscriptTail _ _ (Value.ref R) _) _ _ _)); first | walk1 | (k_unfold; (try dsimp only)))
  try dsimp only
  rename News base L _ _ => NJ
  refine item_listV (items := #[.ref r1, .ref r2, .ref r3]) (x := .ref r3) (News.isList (n := n) NJ (by k_mem)) (by decide) (by decide) rfl ?_
  k_steps
  try dsimp only
  exact ret _ _ _ _ _ _ _ _ _ _ _ _ _ _ (by assumption) (by assumption) (by omega) (by omega) (by omega) (by omega) (by omega) (by omega)
end

end Mine
end
section
open PySem PySem.W PyProof.Rows PySem.Calls Builtin Builtin.ObjectAttr
namespace Mine
set_option maxRecDepth 100000
set_option maxHeartbeats 8000000
local macro_rules | `(tactic| walk_at "getAttr ref") => `(tactic| (k_here; k_dflt (refine' hk_bound ?k1 ?k2 ?k3 ?k4 ?k5 ?kh ?k6 ?k7 ?k8 ?k9 ?k10 ?k11 ?k12 ?_; (case k4 => k_inst); (case k1 => k_asm); (case k2 => k_asm); (case k3 => k_asm); (case k5 => k_is); (case kh => k_is); (case k6 => k_is); (case k7 => k_is); (case k8 => k_is); (case k9 => k_is); (case k10 => k_is); (case k11 => decide +kernel); (case k12 => k_get); k_whole); intro q' h' F' N' l1; (try k_lt l1); (try k_sweep)))
local macro_rules | `(tactic| walk_at "getAttr ref") => `(tactic| (k_here; k_dflt (refine' hk_own ?k1 ?k2 ?k3 ?k4 ?k5 ?k6 ?k7 ?k8 ?k9 ?_; (case k1 => k_asm); (case k2 => k_asm); (case k3 => k_inst); (case k4 => k_is); (case k5 => k_is); (case k6 => k_is); (case k7 => k_is); (case k8 => k_get); (case k9 => k_handed); k_whole)))
local macro_rules | `(tactic| walk_at "getMethod ref") => `(tactic| (k_here; k_dflt (refine' hk_method ?k1 ?k2 ?k3 ?k4 ?k5 ?_; (case k1 => k_asm); (case k2 => k_asm); (case k3 => k_inst); (case k4 => k_is); (case k5 => k_is); k_whole)))
local macro_rules | `(tactic| ktr_enter) => `(tactic| (refine' code_def ?k1 ?k2 ?k3 ?k4 ?k5 ?kA ?kF ?kK ?k6 ?k7 ?k8 ?k9 ?kB ?_ ?c2 ?c3 ?c4 ?c5; (case kA => exact rfl); (case kF => exact rfl); (case kK => first | assumption | exact rfl); (case k1 => k_asm); (case k2 => k_asm); (case k3 => k_asm); (case k4 => k_asm); (case k5 => k_asm); (case k6 => k_is); (case k7 => k_is); (case k8 => ktr_room); (case k9 => first | exact BindsTo.of_eq rfl | exact binds_K (by k_in) rfl (by k_is) rfl rfl rfl); (case c5 => decide); (case kB => exact locs rfl); (case c2 => exact rfl); (case c3 => exact rfl); (case c4 => exact rfl); k_whole; intro g' L' h' FG' F' N' B' X' T'; (try dsimp only); (try k_lift B'); (try k_fold)))
local macro_rules | `(tactic| ktr_call $c:term 0) => `(tactic| (refine wpAny_call ?_; k_dflt (refine' ct_use $c ?k1 ?k2 ?k3 ?k4 ?k5 ?kK ?kd ?ku ?kp ?_; (case k1 => k_asm); (case k2 => k_asm); (case k3 => k_asm); (case k4 => k_asm); (case k5 => k_asm); (case kK => first | assumption | exact rfl); (case kd => ktr_room); (case ku => ktr_units))))
local macro_rules | `(tactic| ktr_call $c:term 1) => `(tactic| (refine' call_meth ?N ?q ?_; (case N => k_asm); (case q => k_mem); k_dflt (refine' ct_use $c ?k1 ?k2 ?k3 ?k4 ?k5 ?kK ?kd ?ku ?kp ?_; (case k1 => k_asm); (case k2 => k_asm); (case k3 => k_asm); (case k4 => k_asm); (case k5 => k_asm); (case kK => first | assumption | exact rfl); (case kd => ktr_room); (case ku => ktr_units))))
local macro_rules | `(tactic| k_mem) => `(tactic| first | assumption | exact List.mem_cons_self .. | (refine' List.mem_cons_of_mem _ ?_; k_mem))
local macro_rules | `(tactic| kst_same) => `(tactic| (intro z h1 h2 h3; (simp only [List.forall_mem_cons, List.not_mem_nil, false_implies, implies_true, and_true, ne_eq] at h2); (simp only [List.contains_cons, List.contains_nil, Bool.or_false, Bool.or_eq_false_iff, beq_eq_false_iff_ne, ne_eq] at h3); (simp [kstB, h1, h2, h3]; done)))
local macro_rules | `(tactic| kby_size) => `(tactic| (rw [PySem.sizeLine_eq]; omega))
local macro_rules | `(tactic| walk_at "call builtin:str.lstrip") => `(tactic| (k_here; (refine KXw.lstrip (by assumption) (by kby_size) ?_); intro _ _))
local macro_rules | `(tactic| walk_at "call builtin:str.strip") => `(tactic| (k_here; (refine KXw.strip (by assumption) (by kby_size) ?_); intro _ _))
local macro_rules | `(tactic| walk_at "call builtin:str.strip") => `(tactic| (k_here; (refine KXw.stripChars (by assumption) (by kby_size) ?_); intro _ _))
local macro_rules | `(tactic| walk_at "call builtin:str.upper") => `(tactic| (k_here; (refine KXw.upper (by assumption) (by decide +kernel) ?_); intro _ _))
local macro_rules | `(tactic| walk_at "call builtin:str.partition") => `(tactic| (k_here; (refine KXpa.partition (by k_asm) (by k_asm) (by decide) (by assumption) (by assumption) (by assumption) (by kby_size) ?_); intro D' _ _ _ _ _ F' N' l1; (try k_lt l1)))
local macro_rules | `(tactic| walk_at "call builtin:str.split") => `(tactic| (k_here; (refine KSpl.split1 (by k_asm) (by k_asm) (by decide) ?_ (by kby_size)); intro D' _ _ _ _ _ F' N' l1; (try k_lt l1)))
--FROM ML4
section
variable {w : World} {base h₀ : Heap} {mean : ExcName → Option Value} {mg mb : Str → Option Value} {L fa : Addr} {cd : Value} {s : Shared} {S R r1 r2 r3 : Addr} {ls1 ls2 ls3 : List (Str × Tok)} {n n1 n2 n3 : Nat} {Q : Flow → Shared → Prop} {E : Value → Shared → Prop} {news : Led} {rest : Str → Option Value}
theorem l_read (K0 : Below callerA base [] base) (X : Frag.In (Mine.hd.heap_39 w.params) base) (T : Top VW LO mean mg mb base)
    (F : Fr base L s.heap (fun x => if x = "rows" then some (.ref R) else rest x)) (N : News base L s.heap news) (hR : (R, listOf #[.ref r1, .ref r2, .ref r3] n) ∈ news) (h2 : (r2, listOf (strValues ls2).toArray n2) ∈ news)
    (rb : List Str) (okb : OkRow rb) (eb : ls2.map (·.1) = rb) (ecut : cutT (Txt.join "," rb) = rb)
    (ret : ∀ (x2 d2 dx2 : Addr) q1 q2 q3 q4 q5 c lsd h' tk', Fr base L h' (fun x => if x = "read" then some (.ref x2) else if x = "rows" then some (.ref R) else rest x) →
      News base L h' ([(d2, listOf (strValues lsd).toArray c), (x2, instObj 274 dx2), (dx2, msgDict w.params q1 q2 q3 q4 q5 "II" "DTM" d2)] ++ news) → (∀ p ∈ [(d2, listOf (strValues lsd).toArray c), (x2, instObj 274 dx2), (dx2, msgDict w.params q1 q2 q3 q4 q5 "II" "DTM" d2)], AllLt p.1 news) → lsd.map (·.1) = rb → Q .next { s with heap := h', toks := tk' }) :
    wpAny (model PG w) (lawAr L fa cd) (execs ((lawBody.drop 5).take 1) (lawEnv L fa cd)) Q E s := by
  refine fillit _ ?_
  k_fill
  dsimp only [lawAr, lawEnv, lawBody, lawScope, lawDef, PySem.Challenge.pw_ez0283_01, List.getLast?, List.getLast, List.take, List.drop]
  repeat' ((fail_if_success (with_reducible show wpAny _ _ (PySem.call (Value.ref 301) _) _ _ _)); first | walk1 | (k_unfold; (try dsimp only)))
  try dsimp only
  ktr_call (t_heads w) 0
  · trivial
  intro h9 tk9 nw9 v9 F9 N9 l9 ⟨lh, lsh, nh, e1, e2, e3⟩
  subst e1 e3
  simp only [List.cons_append, List.nil_append] at N9
  try dsimp only
  replace e2 : lsh.map (·.1) = [Str.ofString "GPWPL,", Str.ofString "IIDTM,", Str.ofString "GPWPL,"] := e2
  obtain ⟨t1, lsa, rfl, e3⟩ := KSpl.cons_of e2
  obtain ⟨t2, lsb, rfl, e4⟩ := KSpl.cons_of e3
  obtain ⟨t3, lsc, rfl, e5⟩ := KSpl.cons_of e4
  obtain rfl := KSpl.nil_of e5
  clear e2 e3 e4 e5
  repeat' ((fail_if_success (with_reducible show wpAny _ _ (subscriptTail _ _ (Value.ref R) _) _ _ _)); first | walk1 | (k_unfold; (try dsimp only)))
  try dsimp only
  refine item_listV (x := .ref r2) (News.isList N9 (.tail _ hR)) (by decide) (by decide) rfl ?_
  repeat' ((fail_if_success (with_reducible show wpAny _ _ (PySem.call (Value.builtin "str.join") _) _ _ _)); first | walk1 | (k_unfold; (try dsimp only)))
  try dsimp only
  rename News _ _ _ _ => NJ
  refine SC.join (News.isList NJ (.tail _ h2)) eb okb.joinOk ?_
  intro jt jk
  try dsimp only
  have hjl := okb.join_len
  repeat' ((fail_if_success (with_reducible show wpAny _ _ (PySem.call (Value.ref 315) _) _ _ _)); first | walk1 | (k_unfold; (try dsimp only)))
  try dsimp only
  ktr_call (t_line w (bodyT "IIDTM," rb) _ (fun c hc => (body_plain okb (by decide +kernel) c hc).1) (Nat.le_trans (bodyT_len okb (by decide)) (by decide))) 0
  · trivial
  intro h8 tk8 nw8 v8 F8 N8 l8 ⟨e1, kk8, e2⟩
  subst e1 e2
  simp only [List.nil_append] at N8
  try dsimp only
  repeat' ((fail_if_success (with_reducible show wpAny _ _ (PySem.call (Value.ref 117) _) _ _ _)); first | walk1 | (k_unfold; (try dsimp only)))
  try dsimp only
  rename Obj.IsDictOf _ _ _ => hdo
  rename (_ == sysModules) = false => hlo
  ktr_call (t_parseD w _ _ hdo hlo rb okb _) 0
  · k_mem
  intro h7 tk7 nw7 v7 F7 N7 l7 ⟨x2, d2, dx2, q1, q2, q3, q4, q5, c, lsd, e1, e2, e3⟩
  subst e1 e2
  rw [ecut] at e3
  have N6 := news_drop (news := [(d2, listOf (strValues lsd).toArray c), (x2, instObj 274 dx2), (dx2, msgDict w.params q1 q2 q3 q4 q5 "II" "DTM" d2)] ++ news) N7 (by
    intro p hp
    rcases List.mem_append.mp hp with hp | hp
    · exact List.mem_append_left _ hp
    · exact List.mem_append_right _ (by repeat (first | exact hp | refine List.mem_cons_of_mem _ ?_)))
  have l6 : ∀ p ∈ [(d2, listOf (strValues lsd).toArray c), (x2, instObj 274 dx2), (dx2, msgDict w.params q1 q2 q3 q4 q5 "II" "DTM" d2)], AllLt p.1 news := by
    intro p hp
    have := l7 p hp
    simp only [AllLt] at this
    simp only [this]
  clear N7 l7
  try dsimp only
  k_steps
  try dsimp only
  exact ret _ _ _ _ _ _ _ _ _ _ _ _ (by assumption) (by assumption) l6 e3
end

end Mine
end
section
open PySem PySem.W PyProof.Rows PySem.Calls Builtin Builtin.ObjectAttr
namespace Mine
set_option maxRecDepth 100000
set_option maxHeartbeats 8000000
local macro_rules | `(tactic| walk_at "getAttr ref") => `(tactic| (k_here; k_dflt (refine' hk_bound ?k1 ?k2 ?k3 ?k4 ?k5 ?kh ?k6 ?k7 ?k8 ?k9 ?k10 ?k11 ?k12 ?_; (case k4 => k_inst); (case k1 => k_asm); (case k2 => k_asm); (case k3 => k_asm); (case k5 => k_is); (case kh => k_is); (case k6 => k_is); (case k7 => k_is); (case k8 => k_is); (case k9 => k_is); (case k10 => k_is); (case k11 => decide +kernel); (case k12 => k_get); k_whole); intro q' h' F' N' l1; (try k_lt l1); (try k_sweep)))
local macro_rules | `(tactic| walk_at "getAttr ref") => `(tactic| (k_here; k_dflt (refine' hk_own ?k1 ?k2 ?k3 ?k4 ?k5 ?k6 ?k7 ?k8 ?k9 ?_; (case k1 => k_asm); (case k2 => k_asm); (case k3 => k_inst); (case k4 => k_is); (case k5 => k_is); (case k6 => k_is); (case k7 => k_is); (case k8 => k_get); (case k9 => k_handed); k_whole)))
local macro_rules | `(tactic| walk_at "getMethod ref") => `(tactic| (k_here; k_dflt (refine' hk_method ?k1 ?k2 ?k3 ?k4 ?k5 ?_; (case k1 => k_asm); (case k2 => k_asm); (case k3 => k_inst); (case k4 => k_is); (case k5 => k_is); k_whole)))
local macro_rules | `(tactic| ktr_enter) => `(tactic| (refine' code_def ?k1 ?k2 ?k3 ?k4 ?k5 ?kA ?kF ?kK ?k6 ?k7 ?k8 ?k9 ?kB ?_ ?c2 ?c3 ?c4 ?c5; (case kA => exact rfl); (case kF => exact rfl); (case kK => first | assumption | exact rfl); (case k1 => k_asm); (case k2 => k_asm); (case k3 => k_asm); (case k4 => k_asm); (case k5 => k_asm); (case k6 => k_is); (case k7 => k_is); (case k8 => ktr_room); (case k9 => first | exact BindsTo.of_eq rfl | exact binds_K (by k_in) rfl (by k_is) rfl rfl rfl); (case c5 => decide); (case kB => exact locs rfl); (case c2 => exact rfl); (case c3 => exact rfl); (case c4 => exact rfl); k_whole; intro g' L' h' FG' F' N' B' X' T'; (try dsimp only); (try k_lift B'); (try k_fold)))
local macro_rules | `(tactic| ktr_call $c:term 0) => `(tactic| (refine wpAny_call ?_; k_dflt (refine' ct_use $c ?k1 ?k2 ?k3 ?k4 ?k5 ?kK ?kd ?ku ?kp ?_; (case k1 => k_asm); (case k2 => k_asm); (case k3 => k_asm); (case k4 => k_asm); (case k5 => k_asm); (case kK => first | assumption | exact rfl); (case kd => ktr_room); (case ku => ktr_units))))
local macro_rules | `(tactic| ktr_call $c:term 1) => `(tactic| (refine' call_meth ?N ?q ?_; (case N => k_asm); (case q => k_mem); k_dflt (refine' ct_use $c ?k1 ?k2 ?k3 ?k4 ?k5 ?kK ?kd ?ku ?kp ?_; (case k1 => k_asm); (case k2 => k_asm); (case k3 => k_asm); (case k4 => k_asm); (case k5 => k_asm); (case kK => first | assumption | exact rfl); (case kd => ktr_room); (case ku => ktr_units))))
local macro_rules | `(tactic| k_mem) => `(tactic| first | assumption | exact List.mem_cons_self .. | (refine' List.mem_cons_of_mem _ ?_; k_mem))
local macro_rules | `(tactic| kst_same) => `(tactic| (intro z h1 h2 h3; (simp only [List.forall_mem_cons, List.not_mem_nil, false_implies, implies_true, and_true, ne_eq] at h2); (simp only [List.contains_cons, List.contains_nil, Bool.or_false, Bool.or_eq_false_iff, beq_eq_false_iff_ne, ne_eq] at h3); (simp [kstB, h1, h2, h3]; done)))
local macro_rules | `(tactic| kby_size) => `(tactic| (rw [PySem.sizeLine_eq]; omega))
local macro_rules | `(tactic| walk_at "call builtin:str.lstrip") => `(tactic| (k_here; (refine KXw.lstrip (by assumption) (by kby_size) ?_); intro _ _))
local macro_rules | `(tactic| walk_at "call builtin:str.strip") => `(tactic| (k_here; (refine KXw.strip (by assumption) (by kby_size) ?_); intro _ _))
local macro_rules | `(tactic| walk_at "call builtin:str.strip") => `(tactic| (k_here; (refine KXw.stripChars (by assumption) (by kby_size) ?_); intro _ _))
local macro_rules | `(tactic| walk_at "call builtin:str.upper") => `(tactic| (k_here; (refine KXw.upper (by assumption) (by decide +kernel) ?_); intro _ _))
local macro_rules | `(tactic| walk_at "call builtin:str.partition") => `(tactic| (k_here; (refine KXpa.partition (by k_asm) (by k_asm) (by decide) (by assumption) (by assumption) (by assumption) (by kby_size) ?_); intro D' _ _ _ _ _ F' N' l1; (try k_lt l1)))
local macro_rules | `(tactic| walk_at "call builtin:str.split") => `(tactic| (k_here; (refine KSpl.split1 (by k_asm) (by k_asm) (by decide) ?_ (by kby_size)); intro D' _ _ _ _ _ F' N' l1; (try k_lt l1)))
--FROM ML5
section
variable {w : World} {base h₀ : Heap} {mean : ExcName → Option Value} {mg mb : Str → Option Value} {L fa : Addr} {cd : Value} {s : Shared} {S R r1 r2 r3 : Addr} {ls1 ls2 ls3 : List (Str × Tok)} {n n1 n2 n3 : Nat} {Q : Flow → Shared → Prop} {E : Value → Shared → Prop} {news : Led} {rest : Str → Option Value}
theorem l_msgs (K0 : Below callerA base [] base) (X : Frag.In (Mine.hd.heap_39 w.params) base) (T : Top VW LO mean mg mb base) {H h1 h3 x2 : Addr} {ra rc : List Str}
    (F : Fr base L s.heap (fun x => if x = "read" then some (.ref x2) else if x = "handed" then some (.ref H) else rest x)) (N : News base L s.heap news) (hH : (H, listOf #[.ref h1, .ref h3] n) ∈ news) (hh1 : (h1, listOf (strValues ls1).toArray n1) ∈ news) (hh3 : (h3, listOf (strValues ls3).toArray n3) ∈ news)
    (z1 : ls1.length ≤ 9) (z3 : ls3.length ≤ 9) (ea : ls1.map (·.1) = ra) (ec : ls3.map (·.1) = rc)
    (ret : ∀ (M x1 d1 dx1 x3 d3 dx3 : Addr) q1 q2 q3 q4 q5 c1 p1 p2 p3 p4 p5 c3 c h' tk', Fr base L h' (fun x => if x = "msgs" then some (.ref M) else if x = "read" then some (.ref x2) else if x = "handed" then some (.ref H) else rest x) →
      News base L h' ((M, listOf #[.ref x1, .ref x2, .ref x3] c) :: ([(d3, listOf (strValues ls3).toArray c3), (x3, instObj 253 dx3), (dx3, msgDict w.params p1 p2 p3 p4 p5 "GP" "WPL" d3)] ++ ([(d1, listOf (strValues ls1).toArray c1), (x1, instObj 253 dx1), (dx1, msgDict w.params q1 q2 q3 q4 q5 "GP" "WPL" d1)] ++ news))) → (∀ p ∈ ([(d3, listOf (strValues ls3).toArray c3), (x3, instObj 253 dx3), (dx3, msgDict w.params p1 p2 p3 p4 p5 "GP" "WPL" d3)] ++ ([(d1, listOf (strValues ls1).toArray c1), (x1, instObj 253 dx1), (dx1, msgDict w.params q1 q2 q3 q4 q5 "GP" "WPL" d1)] ++ news)), p.1 < M) →
      (∀ p ∈ [(d3, listOf (strValues ls3).toArray c3), (x3, instObj 253 dx3), (dx3, msgDict w.params p1 p2 p3 p4 p5 "GP" "WPL" d3)], AllLt p.1 ([(d1, listOf (strValues ls1).toArray c1), (x1, instObj 253 dx1), (dx1, msgDict w.params q1 q2 q3 q4 q5 "GP" "WPL" d1)] ++ news)) → (∀ p ∈ [(d1, listOf (strValues ls1).toArray c1), (x1, instObj 253 dx1), (dx1, msgDict w.params q1 q2 q3 q4 q5 "GP" "WPL" d1)], AllLt p.1 news) → Q .next { s with heap := h', toks := tk' }) :
    wpAny (model PG w) (lawAr L fa cd) (execs ((lawBody.drop 6).take 1) (lawEnv L fa cd)) Q E s := by
  refine fillit _ ?_
  k_fill
  dsimp only [lawAr, lawEnv, lawBody, lawScope, lawDef, PySem.Challenge.pw_ez0283_01, List.getLast?, List.getLast, List.take, List.drop]
  repeat' ((fail_if_success (with_reducible show wpAny _ _ (subscriptTail _ _ (Value.ref H) _) _ _ _)); first | walk1 | (k_unfold; (try dsimp only)))
  try dsimp only
  rename News _ _ _ _ => NJ
  refine item_listV (x := .ref h1) (News.isList NJ hH) (by decide) (by decide) rfl ?_
  repeat' ((fail_if_success (with_reducible show wpAny _ _ (PySem.call (Value.ref 253) _) _ _ _)); first | walk1 | (k_unfold; (try dsimp only)))
  try dsimp only
  ktr_call (t_newSW w h1 ea n1 _ _) 0
  · exact ⟨hh1, by rw [strValues_len]; omega⟩
  intro h7 tk7 nw7 v7 F7 N7 l7 ⟨x1, d1, dx1, q1, q2, q3, q4, q5, c1, e1, e2⟩
  subst e1 e2
  try dsimp only
  repeat' ((fail_if_success (with_reducible show wpAny _ _ (subscriptTail _ _ (Value.ref H) _) _ _ _)); first | walk1 | (k_unfold; (try dsimp only)))
  try dsimp only
  refine item_listV (x := .ref h3) (News.isList N7 (List.mem_append_right _ hH)) (by decide) (by decide) rfl ?_
  repeat' ((fail_if_success (with_reducible show wpAny _ _ (PySem.call (Value.ref 253) _) _ _ _)); first | walk1 | (k_unfold; (try dsimp only)))
  try dsimp only
  ktr_call (t_newSW w h3 ec n3 _ _) 0
  · exact ⟨List.mem_append_right _ hh3, by rw [strValues_len]; omega⟩
  intro h8 tk8 nw8 v8 F8 N8 l8 ⟨x3, d3, dx3, p1, p2, p3, p4, p5, c3, e1, e2⟩
  subst e1 e2
  try dsimp only
  k_steps
  try dsimp only
  exact ret _ _ _ _ _ _ _ _ _ _ _ _ _ _ _ _ _ _ _ _ _ _ (by assumption) (by assumption) (by assumption) l8 l7
end

end Mine
end
section
open PySem PySem.W PyProof.Rows PySem.Calls Builtin Builtin.ObjectAttr
namespace Mine
set_option maxRecDepth 100000
set_option maxHeartbeats 8000000
local macro_rules | `(tactic| walk_at "getAttr ref") => `(tactic| (k_here; k_dflt (refine' hk_bound ?k1 ?k2 ?k3 ?k4 ?k5 ?kh ?k6 ?k7 ?k8 ?k9 ?k10 ?k11 ?k12 ?_; (case k4 => k_inst); (case k1 => k_asm); (case k2 => k_asm); (case k3 => k_asm); (case k5 => k_is); (case kh => k_is); (case k6 => k_is); (case k7 => k_is); (case k8 => k_is); (case k9 => k_is); (case k10 => k_is); (case k11 => decide +kernel); (case k12 => k_get); k_whole); intro q' h' F' N' l1; (try k_lt l1); (try k_sweep)))
local macro_rules | `(tactic| walk_at "getAttr ref") => `(tactic| (k_here; k_dflt (refine' hk_own ?k1 ?k2 ?k3 ?k4 ?k5 ?k6 ?k7 ?k8 ?k9 ?_; (case k1 => k_asm); (case k2 => k_asm); (case k3 => k_inst); (case k4 => k_is); (case k5 => k_is); (case k6 => k_is); (case k7 => k_is); (case k8 => k_get); (case k9 => k_handed); k_whole)))
local macro_rules | `(tactic| walk_at "getMethod ref") => `(tactic| (k_here; k_dflt (refine' hk_method ?k1 ?k2 ?k3 ?k4 ?k5 ?_; (case k1 => k_asm); (case k2 => k_asm); (case k3 => k_inst); (case k4 => k_is); (case k5 => k_is); k_whole)))
local macro_rules | `(tactic| ktr_enter) => `(tactic| (refine' code_def ?k1 ?k2 ?k3 ?k4 ?k5 ?kA ?kF ?kK ?k6 ?k7 ?k8 ?k9 ?kB ?_ ?c2 ?c3 ?c4 ?c5; (case kA => exact rfl); (case kF => exact rfl); (case kK => first | assumption | exact rfl); (case k1 => k_asm); (case k2 => k_asm); (case k3 => k_asm); (case k4 => k_asm); (case k5 => k_asm); (case k6 => k_is); (case k7 => k_is); (case k8 => ktr_room); (case k9 => first | exact BindsTo.of_eq rfl | exact binds_K (by k_in) rfl (by k_is) rfl rfl rfl); (case c5 => decide); (case kB => exact locs rfl); (case c2 => exact rfl); (case c3 => exact rfl); (case c4 => exact rfl); k_whole; intro g' L' h' FG' F' N' B' X' T'; (try dsimp only); (try k_lift B'); (try k_fold)))
local macro_rules | `(tactic| ktr_call $c:term 0) => `(tactic| (refine wpAny_call ?_; k_dflt (refine' ct_use $c ?k1 ?k2 ?k3 ?k4 ?k5 ?kK ?kd ?ku ?kp ?_; (case k1 => k_asm); (case k2 => k_asm); (case k3 => k_asm); (case k4 => k_asm); (case k5 => k_asm); (case kK => first | assumption | exact rfl); (case kd => ktr_room); (case ku => ktr_units))))
local macro_rules | `(tactic| ktr_call $c:term 1) => `(tactic| (refine' call_meth ?N ?q ?_; (case N => k_asm); (case q => k_mem); k_dflt (refine' ct_use $c ?k1 ?k2 ?k3 ?k4 ?k5 ?kK ?kd ?ku ?kp ?_; (case k1 => k_asm); (case k2 => k_asm); (case k3 => k_asm); (case k4 => k_asm); (case k5 => k_asm); (case kK => first | assumption | exact rfl); (case kd => ktr_room); (case ku => ktr_units))))
local macro_rules | `(tactic| k_mem) => `(tactic| first | assumption | exact List.mem_cons_self .. | (refine' List.mem_cons_of_mem _ ?_; k_mem))
local macro_rules | `(tactic| kst_same) => `(tactic| (intro z h1 h2 h3; (simp only [List.forall_mem_cons, List.not_mem_nil, false_implies, implies_true, and_true, ne_eq] at h2); (simp only [List.contains_cons, List.contains_nil, Bool.or_false, Bool.or_eq_false_iff, beq_eq_false_iff_ne, ne_eq] at h3); (simp [kstB, h1, h2, h3]; done)))
local macro_rules | `(tactic| kby_size) => `(tactic| (rw [PySem.sizeLine_eq]; omega))
local macro_rules | `(tactic| walk_at "call builtin:str.lstrip") => `(tactic| (k_here; (refine KXw.lstrip (by assumption) (by kby_size) ?_); intro _ _))
local macro_rules | `(tactic| walk_at "call builtin:str.strip") => `(tactic| (k_here; (refine KXw.strip (by assumption) (by kby_size) ?_); intro _ _))
local macro_rules | `(tactic| walk_at "call builtin:str.strip") => `(tactic| (k_here; (refine KXw.stripChars (by assumption) (by kby_size) ?_); intro _ _))
local macro_rules | `(tactic| walk_at "call builtin:str.upper") => `(tactic| (k_here; (refine KXw.upper (by assumption) (by decide +kernel) ?_); intro _ _))
local macro_rules | `(tactic| walk_at "call builtin:str.partition") => `(tactic| (k_here; (refine KXpa.partition (by k_asm) (by k_asm) (by decide) (by assumption) (by assumption) (by assumption) (by kby_size) ?_); intro D' _ _ _ _ _ F' N' l1; (try k_lt l1)))
local macro_rules | `(tactic| walk_at "call builtin:str.split") => `(tactic| (k_here; (refine KSpl.split1 (by k_asm) (by k_asm) (by decide) ?_ (by kby_size)); intro D' _ _ _ _ _ F' N' l1; (try k_lt l1)))
local macro_rules | `(tactic| walk_at "callWith ref") => `(tactic| (k_here; k_dflt (refine' callWith_M ?k1 ?k2 ?k3 ?k4 ?_; (case k1 => k_asm); (case k2 => k_asm); (case k3 => k_mem); (case k4 => k_is); k_whole)))
--FROM ML6
def namesDat (r1 r2 r3 : List Str) : Dat := .list [.list ((List.range 5).map fun i => .str (r1.getD i "")), .list ((List.range 8).map fun i => .str (r2.getD i "")), .list ((List.range 5).map fun i => .str (r3.getD i ""))]
def bareDat (r1 r2 r3 : List Str) : Dat := .list [.str (bodyT "GPWPL," r1), .str (bodyT "IIDTM," r2), .str (bodyT "GPWPL," r3)]
def lineDat (r1 r2 r3 : List Str) : Dat := .list [.str (lineT (bodyT "GPWPL," r1)), .str (lineT (bodyT "IIDTM," r2)), .str (lineT (bodyT "GPWPL," r3))]
section
variable {w : World} {base h₀ : Heap} {mean : ExcName → Option Value} {mg mb : Str → Option Value} {L fa : Addr} {cd : Value} {s : Shared} {S R r1 r2 r3 : Addr} {ls1 ls2 ls3 : List (Str × Tok)} {n n1 n2 n3 : Nat} {Q : Flow → Shared → Prop} {E : Value → Shared → Prop} {news : Led} {rest : Str → Option Value}
theorem l_told (K0 : Below callerA base [] base) (X : Frag.In (Mine.hd.heap_39 w.params) base) (T : Top VW LO mean mg mb base) {M x1 x2 x3 : Addr} (r1 r2 r3 : List Str) (hr1 : OkRow r1) (hr2 : OkRow r2) (hr3 : OkRow r3)
    (F : Fr base L s.heap (fun x => if x = "msgs" then some (.ref M) else rest x)) (N : News base L s.heap news) (hM : (M, listOf #[.ref x1, .ref x2, .ref x3] n) ∈ news)
    (m1 : HasMsg w.params news x1 253 "GP" "WPL" r1) (m2 : HasMsg w.params news x2 274 "II" "DTM" r2) (m3 : HasMsg w.params news x3 253 "GP" "WPL" r3)
    (ret : ∀ (Tt : Addr) c new vs h' tk', Fr base L h' (fun x => if x = "told" then some (.ref Tt) else if x = "msgs" then some (.ref M) else rest x) →
      News base L h' ((Tt, listOf (List.toArray vs) c) :: (new ++ news)) → (∀ p ∈ new, ∀ q ∈ news, q.1 ≠ p.1) → (∀ p ∈ new ++ news, p.1 < Tt) → DatAll new vs [namesDat r1 r2 r3, bareDat r1 r2 r3, lineDat r1 r2 r3] → Q .next { s with heap := h', toks := tk' }) :
    wpAny (model PG w) (lawAr L fa cd) (execs ((lawBody.drop 7).take 1) (lawEnv L fa cd)) Q E s := by
  refine fillit _ ?_
  k_fill
  dsimp only [lawAr, lawEnv, lawBody, lawScope, lawDef, PySem.Challenge.pw_ez0283_01, List.getLast?, List.getLast, List.take, List.drop]
  repeat' ((fail_if_success (with_reducible show wpAny _ _ (subscriptTail _ _ (Value.ref M) _) _ _ _)); first | walk1 | (k_unfold; (try dsimp only)))
  try dsimp only
  refine item_listV (x := .ref x1) (News.isList N hM) (by decide) (by decide) rfl ?_
  repeat' ((fail_if_success (with_reducible show wpAny _ _ (subscriptTail _ _ (Value.ref M) _) _ _ _)); first | walk1 | (k_unfold; (try dsimp only)))
  try dsimp only
  refine item_listV (x := .ref x2) (News.isList N hM) (by decide) (by decide) rfl ?_
  repeat' ((fail_if_success (with_reducible show wpAny _ _ (subscriptTail _ _ (Value.ref M) _) _ _ _)); first | walk1 | (k_unfold; (try dsimp only)))
  try dsimp only
  refine item_listV (x := .ref x3) (News.isList N hM) (by decide) (by decide) rfl ?_
  repeat' ((fail_if_success (with_reducible show wpAny _ _ (PySem.call (Value.ref 336) _) _ _ _)); first | walk1 | (k_unfold; (try dsimp only)))
  try dsimp only
  ktr_call (t_names w x1 x2 x3 r1 r2 r3 hr1 hr2 hr3) 0
  · exact ⟨m1, m2, m3⟩
  intro h7 tk7 nwA vA F7 N7 lA dA
  try dsimp only
  repeat' ((fail_if_success (with_reducible show wpAny _ _ (PySem.call (Value.ref 341) _) _ _ _)); first | walk1 | (k_unfold; (try dsimp only)))
  try dsimp only
  refine wpAny_call ?_
  k_dflt (refine' cto_use (t_barel w M x1 x2 x3 n r1 r2 r3 hr1 hr2 hr3) ?k1z1 ?k2z1 ?k3z1 ?k4z1 ?k5z1 ?kKz1 ?kdz1 ?kuz1 ?kpz1 ?_; (case k1z1 => k_asm); (case k2z1 => k_asm); (case k3z1 => k_asm); (case k4z1 => k_asm); (case k5z1 => k_asm); (case kKz1 => first | assumption | exact rfl); (case kdz1 => ktr_room); (case kuz1 => ktr_units))
  · have sA : ∀ p ∈ news, p ∈ nwA ++ news := fun p hp => List.mem_append_right _ hp
    exact ⟨sA _ hM, m1.mono sA, m2.mono sA, m3.mono sA⟩
  intro h8 tk8 nwB vB F8 N8 lB dB
  try dsimp only
  have vA' := dA.handed
  have vB' := dB.handed
  obtain ⟨Ld, hLd⟩ : ∃ Ld, Ld = nwB ++ (nwA ++ news) := ⟨_, rfl⟩
  rw [← hLd] at N8
  have sub : ∀ p ∈ news, p ∈ Ld := fun p hp => hLd ▸ List.mem_append_right _ (List.mem_append_right _ hp)
  replace hM := sub _ hM
  replace m1 := m1.mono sub
  replace m2 := m2.mono sub
  replace m3 := m3.mono sub
  have m1' := m1
  have m2' := m2
  have m3' := m3
  obtain ⟨l1, dx1, a1, b1, c1, d1, e1, ls1, n1, hx1, hdx1, hl1, hls1⟩ := m1'
  obtain ⟨l2, dx2, a2, b2, c2, d2, e2, ls2, n2, hx2, hdx2, hl2, hls2⟩ := m2'
  obtain ⟨l3, dx3, a3, b3, c3, d3, e3, ls3, n3, hx3, hdx3, hl3, hls3⟩ := m3'
  unfold msgDict at hdx1 hdx2 hdx3
  repeat' ((fail_if_success (with_reducible show wpAny _ _ (PySem.call (Value.ref _) _) _ _ _)); first | walk1 | (k_unfold; (try dsimp only)))
  try dsimp only
  ktr_call (h_fullW w x1 r1 hr1) 1
  · exact HasMsg.mono m1 (by intro p hp; repeat (first | exact hp | refine List.mem_cons_of_mem _ ?_))
  intro h9 tk9 nw9 v9 F9 N9 _ ⟨e1, kk9, e2⟩
  subst e1 e2
  simp only [List.nil_append] at N9
  try dsimp only
  repeat' ((fail_if_success (with_reducible show LCg.CompEnd _ _ _ _ _ _ _ _ _ _ _ _ _ _)); first | walk1 | (k_unfold; (try dsimp only)))
  try dsimp only
  refine LCg.CompEnd.intro (by assumption) (by assumption) Ld ?sub ?off ?src ?_
  case sub => intro p hp; repeat (first | exact hp | refine List.mem_cons_of_mem _ ?_)
  case off => assumption
  case src => exact Or.inr ⟨_, hM, rfl, _, rfl⟩
  repeat' ((fail_if_success (with_reducible show wpAny _ _ (PySem.call (Value.ref _) _) _ _ _)); first | walk1 | (k_unfold; (try dsimp only)))
  try dsimp only
  ktr_call (h_fullD w x2 r2 hr2) 1
  · exact HasMsg.mono m2 (by intro p hp; repeat (first | exact hp | refine List.mem_cons_of_mem _ ?_))
  intro h9 tk9 nw9 v9 F9 N9 _ ⟨e1, kk9, e2⟩
  subst e1 e2
  simp only [List.nil_append] at N9
  try dsimp only
  repeat' ((fail_if_success (with_reducible show LCg.CompEnd _ _ _ _ _ _ _ _ _ _ _ _ _ _)); first | walk1 | (k_unfold; (try dsimp only)))
  try dsimp only
  refine LCg.CompEnd.intro (by assumption) (by assumption) Ld ?sub ?off ?src ?_
  case sub => intro p hp; repeat (first | exact hp | refine List.mem_cons_of_mem _ ?_)
  case off => assumption
  case src => exact Or.inr ⟨_, hM, rfl, _, rfl⟩
  repeat' ((fail_if_success (with_reducible show wpAny _ _ (PySem.call (Value.ref _) _) _ _ _)); first | walk1 | (k_unfold; (try dsimp only)))
  try dsimp only
  ktr_call (h_fullW w x3 r3 hr3) 1
  · exact HasMsg.mono m3 (by intro p hp; repeat (first | exact hp | refine List.mem_cons_of_mem _ ?_))
  intro h9 tk9 nw9 v9 F9 N9 _ ⟨e1, kk9, e2⟩
  subst e1 e2
  simp only [List.nil_append] at N9
  try dsimp only
  repeat' ((fail_if_success (with_reducible show LCg.CompEnd _ _ _ _ _ _ _ _ _ _ _ _ _ _)); first | walk1 | (k_unfold; (try dsimp only)))
  try dsimp only
  refine LCg.CompEnd.intro (by assumption) (by assumption) Ld ?sub ?off ?src ?_
  case sub => intro p hp; repeat (first | exact hp | refine List.mem_cons_of_mem _ ?_)
  case off => assumption
  case src => exact Or.inr ⟨_, hM, rfl, _, rfl⟩
  k_steps
  try dsimp only
  rename LCg.Off1 _ Ld => oD
  rename (_ < _ ∧ _) => qT
  rename News _ _ _ _ => N9
  subst hLd
  have oD' := off1_mem oD
  have qT' := kst_ltOf qT.2
  refine ret _ _ ((_, _) :: (nwB ++ nwA)) [vA, vB, .ref _] _ _ (by assumption) (by rw [List.cons_append, List.append_assoc]; exact N9) ?f ?l (.cons (dA.mono fun p hp => .tail _ (List.mem_append_right _ hp)) (.cons (dB.mono fun p hp => .tail _ (List.mem_append_left _ hp)) (.cons (.list (List.mem_cons_self ..) (.cons (.str _ _) (.cons (.str _ _) (.cons (.str _ _) .nil)))) .nil)))
  case f =>
    intro p hp q hq
    rcases List.mem_cons.mp hp with rfl | hp
    · exact oD' q (List.mem_append_right _ (List.mem_append_right _ hq))
    rcases List.mem_append.mp hp with hp | hp
    · exact lB p hp q (List.mem_append_right _ hq)
    · exact off_alt (lA p hp) q hq
  case l =>
    intro p hp
    rcases List.mem_cons.mp hp with rfl | hp
    · exact qT.1
    · refine qT' p ?_
      have hp' : p ∈ (nwB ++ nwA) ++ news := hp
      rw [List.append_assoc] at hp'
      exact hp'
end

end Mine
end
section
open PySem PySem.W PyProof.Rows PySem.Calls Builtin Builtin.ObjectAttr
namespace Mine
set_option maxRecDepth 100000
set_option maxHeartbeats 8000000
local macro_rules | `(tactic| walk_at "getAttr ref") => `(tactic| (k_here; k_dflt (refine' hk_bound ?k1 ?k2 ?k3 ?k4 ?k5 ?kh ?k6 ?k7 ?k8 ?k9 ?k10 ?k11 ?k12 ?_; (case k4 => k_inst); (case k1 => k_asm); (case k2 => k_asm); (case k3 => k_asm); (case k5 => k_is); (case kh => k_is); (case k6 => k_is); (case k7 => k_is); (case k8 => k_is); (case k9 => k_is); (case k10 => k_is); (case k11 => decide +kernel); (case k12 => k_get); k_whole); intro q' h' F' N' l1; (try k_lt l1); (try k_sweep)))
local macro_rules | `(tactic| walk_at "getAttr ref") => `(tactic| (k_here; k_dflt (refine' hk_own ?k1 ?k2 ?k3 ?k4 ?k5 ?k6 ?k7 ?k8 ?k9 ?_; (case k1 => k_asm); (case k2 => k_asm); (case k3 => k_inst); (case k4 => k_is); (case k5 => k_is); (case k6 => k_is); (case k7 => k_is); (case k8 => k_get); (case k9 => k_handed); k_whole)))
local macro_rules | `(tactic| walk_at "getMethod ref") => `(tactic| (k_here; k_dflt (refine' hk_method ?k1 ?k2 ?k3 ?k4 ?k5 ?_; (case k1 => k_asm); (case k2 => k_asm); (case k3 => k_inst); (case k4 => k_is); (case k5 => k_is); k_whole)))
local macro_rules | `(tactic| ktr_enter) => `(tactic| (refine' code_def ?k1 ?k2 ?k3 ?k4 ?k5 ?kA ?kF ?kK ?k6 ?k7 ?k8 ?k9 ?kB ?_ ?c2 ?c3 ?c4 ?c5; (case kA => exact rfl); (case kF => exact rfl); (case kK => first | assumption | exact rfl); (case k1 => k_asm); (case k2 => k_asm); (case k3 => k_asm); (case k4 => k_asm); (case k5 => k_asm); (case k6 => k_is); (case k7 => k_is); (case k8 => ktr_room); (case k9 => first | exact BindsTo.of_eq rfl | exact binds_K (by k_in) rfl (by k_is) rfl rfl rfl); (case c5 => decide); (case kB => exact locs rfl); (case c2 => exact rfl); (case c3 => exact rfl); (case c4 => exact rfl); k_whole; intro g' L' h' FG' F' N' B' X' T'; (try dsimp only); (try k_lift B'); (try k_fold)))
local macro_rules | `(tactic| ktr_call $c:term 0) => `(tactic| (refine wpAny_call ?_; k_dflt (refine' ct_use $c ?k1 ?k2 ?k3 ?k4 ?k5 ?kK ?kd ?ku ?kp ?_; (case k1 => k_asm); (case k2 => k_asm); (case k3 => k_asm); (case k4 => k_asm); (case k5 => k_asm); (case kK => first | assumption | exact rfl); (case kd => ktr_room); (case ku => ktr_units))))
local macro_rules | `(tactic| ktr_call $c:term 1) => `(tactic| (refine' call_meth ?N ?q ?_; (case N => k_asm); (case q => k_mem); k_dflt (refine' ct_use $c ?k1 ?k2 ?k3 ?k4 ?k5 ?kK ?kd ?ku ?kp ?_; (case k1 => k_asm); (case k2 => k_asm); (case k3 => k_asm); (case k4 => k_asm); (case k5 => k_asm); (case kK => first | assumption | exact rfl); (case kd => ktr_room); (case ku => ktr_units))))
local macro_rules | `(tactic| k_mem) => `(tactic| first | assumption | exact List.mem_cons_self .. | (refine' List.mem_cons_of_mem _ ?_; k_mem))
local macro_rules | `(tactic| kst_same) => `(tactic| (intro z h1 h2 h3; (simp only [List.forall_mem_cons, List.not_mem_nil, false_implies, implies_true, and_true, ne_eq] at h2); (simp only [List.contains_cons, List.contains_nil, Bool.or_false, Bool.or_eq_false_iff, beq_eq_false_iff_ne, ne_eq] at h3); (simp [kstB, h1, h2, h3]; done)))
local macro_rules | `(tactic| kby_size) => `(tactic| (rw [PySem.sizeLine_eq]; omega))
local macro_rules | `(tactic| walk_at "call builtin:str.lstrip") => `(tactic| (k_here; (refine KXw.lstrip (by assumption) (by kby_size) ?_); intro _ _))
local macro_rules | `(tactic| walk_at "call builtin:str.strip") => `(tactic| (k_here; (refine KXw.strip (by assumption) (by kby_size) ?_); intro _ _))
local macro_rules | `(tactic| walk_at "call builtin:str.strip") => `(tactic| (k_here; (refine KXw.stripChars (by assumption) (by kby_size) ?_); intro _ _))
local macro_rules | `(tactic| walk_at "call builtin:str.upper") => `(tactic| (k_here; (refine KXw.upper (by assumption) (by decide +kernel) ?_); intro _ _))
local macro_rules | `(tactic| walk_at "call builtin:str.partition") => `(tactic| (k_here; (refine KXpa.partition (by k_asm) (by k_asm) (by decide) (by assumption) (by assumption) (by assumption) (by kby_size) ?_); intro D' _ _ _ _ _ F' N' l1; (try k_lt l1)))
local macro_rules | `(tactic| walk_at "call builtin:str.split") => `(tactic| (k_here; (refine KSpl.split1 (by k_asm) (by k_asm) (by decide) ?_ (by kby_size)); intro D' _ _ _ _ _ F' N' l1; (try k_lt l1)))
--FROM ML7
theorem dat_list {news : Led} {v : Value} {ds : List Dat} (h : DatIn news v (.list ds)) : ∃ l vs n, v = .ref l ∧ (l, listOf (List.toArray vs) n) ∈ news ∧ DatAll news vs ds := by
  cases h with
  | list hm hd => exact ⟨_, _, _, rfl, hm, hd⟩
section
variable {w : World} {base h₀ : Heap} {mean : ExcName → Option Value} {mg mb : Str → Option Value} {L fa : Addr} {cd : Value} {s : Shared} {S R r1 r2 r3 : Addr} {ls1 ls2 ls3 : List (Str × Tok)} {n n1 n2 n3 : Nat} {Q : Flow → Shared → Prop} {E : Value → Shared → Prop} {news : Led} {rest : Str → Option Value}
theorem l_due (K0 : Below callerA base [] base) (X : Frag.In (Mine.hd.heap_39 w.params) base) (T : Top VW LO mean mg mb base) {ls4 : List (Str × Tok)} (ra rb rc : List Str) (hra : OkRow ra) (hrb : OkRow rb) (hrc : OkRow rc)
    (F : Fr base L s.heap (fun x => if x = "rows" then some (.ref R) else rest x)) (N : News base L s.heap news) (hR : (R, listOf [.ref r1, .ref r2, .ref r3].toArray n) ∈ news)
    (h1 : (r1, listOf (strValues ls1).toArray n1) ∈ news) (h2 : (r2, listOf (strValues ls2).toArray n2) ∈ news) (h3 : (r3, listOf (strValues ls3).toArray n3) ∈ news) (ea : ls1.map (·.1) = ra) (eb : ls2.map (·.1) = rb) (ec : ls3.map (·.1) = rc)
    (ret : ∀ (Tt : Addr) c new vs h' tk', Fr base L h' (fun x => if x = "due" then some (.ref Tt) else if x = "rows" then some (.ref R) else rest x) →
      News base L h' ((Tt, listOf (List.toArray vs) c) :: (new ++ news)) → (∀ p ∈ new, ∀ q ∈ news, q.1 ≠ p.1) → (∀ p ∈ new ++ news, p.1 < Tt) → DatAll new vs [namesDat ra rb rc, bareDat ra rb rc, lineDat ra rb rc] → Q .next { s with heap := h', toks := tk' }) :
    wpAny (model PG w) (lawAr L fa cd) (execs ((lawBody.drop 8).take 1) (lawEnv L fa cd)) Q E s := by
  refine fillit _ ?_
  k_fill
  dsimp only [lawAr, lawEnv, lawBody, lawScope, lawDef, PySem.Challenge.pw_ez0283_01, List.getLast?, List.getLast, List.take, List.drop]
  repeat' ((fail_if_success (with_reducible show wpAny _ _ (PySem.call (Value.ref 346) _) _ _ _)); first | walk1 | (k_unfold; (try dsimp only)))
  try dsimp only
  refine wpAny_call ?_
  k_dflt (refine' cto_use (t_duen w R r1 r2 r3 n n1 n2 n3 ls1 ls2 ls3 ra rb rc hra hrb hrc ea eb ec) ?k1z1 ?k2z1 ?k3z1 ?k4z1 ?k5z1 ?kKz1 ?kdz1 ?kuz1 ?kpz1 ?_; (case k1z1 => k_asm); (case k2z1 => k_asm); (case k3z1 => k_asm); (case k4z1 => k_asm); (case k5z1 => k_asm); (case kKz1 => first | assumption | exact rfl); (case kdz1 => ktr_room); (case kuz1 => ktr_units))
  · exact ⟨hR, h1, h2, h3⟩
  intro h7 tk7 nwA vA F7 N7 lA dA
  try dsimp only
  repeat' ((fail_if_success (with_reducible show wpAny _ _ (PySem.call (Value.ref 351) _) _ _ _)); first | walk1 | (k_unfold; (try dsimp only)))
  try dsimp only
  refine wpAny_call ?_
  k_dflt (refine' cto_use (t_dueb w R r1 r2 r3 n n1 n2 n3 ls1 ls2 ls3 ra rb rc hra hrb hrc ea eb ec) (news := nwA ++ news) ?k1z2 ?k2z2 ?k3z2 ?k4z2 ?k5z2 ?kKz2 ?kdz2 ?kuz2 ?kpz2 ?_; (case k1z2 => k_asm); (case k2z2 => k_asm); (case k3z2 => k_asm); (case k4z2 => k_asm); (case k5z2 => k_asm); (case kKz2 => first | assumption | exact rfl); (case kdz2 => ktr_room); (case kuz2 => ktr_units))
  · have sA : ∀ p ∈ news, p ∈ nwA ++ news := fun p hp => List.mem_append_right _ hp
    exact ⟨sA _ hR, sA _ h1, sA _ h2, sA _ h3⟩
  intro h8 tk8 nwB vB F8 N8 lB dB
  try dsimp only
  repeat' ((fail_if_success (with_reducible show wpAny _ _ (PySem.eval (PySem.Expr.ListComp _ _ _ _) _) _ _ _)); first | walk1 | (k_unfold; (try dsimp only)))
  try dsimp only
  refine LCg.ListComp_U (F₀ := by k_asm) (by with_unfolding_all rfl) (by decide) (by rfl) (by decide) (by rfl) ?_
  repeat' ((fail_if_success (with_reducible show wpAny _ _ (PySem.call (Value.ref 351) _) _ _ _)); first | walk1 | (k_unfold; (try dsimp only)))
  try dsimp only
  refine wpAny_call ?_
  k_dflt (refine' cto_use (t_dueb w R r1 r2 r3 n n1 n2 n3 ls1 ls2 ls3 ra rb rc hra hrb hrc ea eb ec) (news := nwB ++ (nwA ++ news)) ?k1z3 ?k2z3 ?k3z3 ?k4z3 ?k5z3 ?kKz3 ?kdz3 ?kuz3 ?kpz3 ?_; (case k1z3 => k_asm); (case k2z3 => k_asm); (case k3z3 => k_asm); (case k4z3 => k_asm); (case k5z3 => k_asm); (case kKz3 => first | assumption | exact rfl); (case kdz3 => ktr_room); (case kuz3 => ktr_units))
  · have sA : ∀ p ∈ news, p ∈ nwB ++ (nwA ++ news) := fun p hp => List.mem_append_right _ (List.mem_append_right _ hp)
    exact ⟨sA _ hR, sA _ h1, sA _ h2, sA _ h3⟩
  intro h6 tk6 nwC vC F6 N6 lC dC
  try dsimp only
  have vA' := dA.handed
  have vB' := dB.handed
  obtain ⟨P, vsP, nP, rfl, hP, dP⟩ := dat_list dC
  obtain ⟨lz, rfl, hz⟩ := dat_strs (row := [bodyT "GPWPL," ra, bodyT "IIDTM," rb, bodyT "GPWPL," rc]) dP
  obtain ⟨t1, lsa, rfl, z3⟩ := KSpl.cons_of hz
  obtain ⟨t2, lsb, rfl, z4⟩ := KSpl.cons_of z3
  obtain ⟨t3, lsc, rfl, z5⟩ := KSpl.cons_of z4
  obtain rfl := KSpl.nil_of z5
  clear hz z3 z4 z5 dP
  obtain ⟨Ld, hLd⟩ : ∃ Ld, Ld = nwC ++ (nwB ++ (nwA ++ news)) := ⟨_, rfl⟩
  rw [← hLd] at N6
  have sub : ∀ p ∈ news, p ∈ Ld := fun p hp => hLd ▸ List.mem_append_right _ (List.mem_append_right _ (List.mem_append_right _ hp))
  replace hP : (P, listOf (strValues [(bodyT "GPWPL," ra, t1), (bodyT "IIDTM," rb, t2), (bodyT "GPWPL," rc, t3)]).toArray nP) ∈ Ld := hLd ▸ List.mem_append_left _ hP
  repeat' ((fail_if_success (with_reducible show wpAny _ _ (PySem.call (Value.ref 315) _) _ _ _)); first | walk1 | (k_unfold; (try dsimp only)))
  try dsimp only
  ktr_call (t_line w (bodyT "GPWPL," ra) _ (fun c hc => (body_plain hra (by decide +kernel) c hc).1) (Nat.le_trans (bodyT_len hra (by decide)) (by decide))) 0
  · trivial
  intro h9 tk9 nw9 v9 F9 N9 _ ⟨e1, kk9, e2⟩
  subst e1 e2
  simp only [List.nil_append] at N9
  try dsimp only
  repeat' ((fail_if_success (with_reducible show LCg.CompEnd _ _ _ _ _ _ _ _ _ _ _ _ _ _)); first | walk1 | (k_unfold; (try dsimp only)))
  try dsimp only
  refine LCg.CompEnd.intro (by assumption) (by assumption) Ld ?sub ?off ?src ?_
  case sub => intro p hp; repeat (first | exact hp | refine List.mem_cons_of_mem _ ?_)
  case off => assumption
  case src => exact Or.inr ⟨_, hP, rfl, _, rfl⟩
  repeat' ((fail_if_success (with_reducible show wpAny _ _ (PySem.call (Value.ref 315) _) _ _ _)); first | walk1 | (k_unfold; (try dsimp only)))
  try dsimp only
  ktr_call (t_line w (bodyT "IIDTM," rb) _ (fun c hc => (body_plain hrb (by decide +kernel) c hc).1) (Nat.le_trans (bodyT_len hrb (by decide)) (by decide))) 0
  · trivial
  intro h9 tk9 nw9 v9 F9 N9 _ ⟨e1, kk9, e2⟩
  subst e1 e2
  simp only [List.nil_append] at N9
  try dsimp only
  repeat' ((fail_if_success (with_reducible show LCg.CompEnd _ _ _ _ _ _ _ _ _ _ _ _ _ _)); first | walk1 | (k_unfold; (try dsimp only)))
  try dsimp only
  refine LCg.CompEnd.intro (by assumption) (by assumption) Ld ?sub ?off ?src ?_
  case sub => intro p hp; repeat (first | exact hp | refine List.mem_cons_of_mem _ ?_)
  case off => assumption
  case src => exact Or.inr ⟨_, hP, rfl, _, rfl⟩
  repeat' ((fail_if_success (with_reducible show wpAny _ _ (PySem.call (Value.ref 315) _) _ _ _)); first | walk1 | (k_unfold; (try dsimp only)))
  try dsimp only
  ktr_call (t_line w (bodyT "GPWPL," rc) _ (fun c hc => (body_plain hrc (by decide +kernel) c hc).1) (Nat.le_trans (bodyT_len hrc (by decide)) (by decide))) 0
  · trivial
  intro h9 tk9 nw9 v9 F9 N9 _ ⟨e1, kk9, e2⟩
  subst e1 e2
  simp only [List.nil_append] at N9
  try dsimp only
  repeat' ((fail_if_success (with_reducible show LCg.CompEnd _ _ _ _ _ _ _ _ _ _ _ _ _ _)); first | walk1 | (k_unfold; (try dsimp only)))
  try dsimp only
  refine LCg.CompEnd.intro (by assumption) (by assumption) Ld ?sub ?off ?src ?_
  case sub => intro p hp; repeat (first | exact hp | refine List.mem_cons_of_mem _ ?_)
  case off => assumption
  case src => exact Or.inr ⟨_, hP, rfl, _, rfl⟩
  k_steps
  try dsimp only
  rename LCg.Off1 _ Ld => oD
  rename (_ < _ ∧ _) => qT
  rename News _ _ _ _ => N9
  subst hLd
  have oD' := off1_mem oD
  have qT' := kst_ltOf qT.2
  refine ret _ _ ((_, _) :: (nwC ++ (nwB ++ nwA))) [vA, vB, .ref _] _ _ (by assumption) (by rw [List.cons_append, List.append_assoc, List.append_assoc]; exact N9) ?f ?l (.cons (dA.mono fun p hp => .tail _ (List.mem_append_right _ (List.mem_append_right _ hp))) (.cons (dB.mono fun p hp => .tail _ (List.mem_append_right _ (List.mem_append_left _ hp))) (.cons (.list (List.mem_cons_self ..) (.cons (.str _ _) (.cons (.str _ _) (.cons (.str _ _) .nil)))) .nil)))
  case f =>
    intro p hp q hq
    rcases List.mem_cons.mp hp with rfl | hp
    · exact oD' q (List.mem_append_right _ (List.mem_append_right _ (List.mem_append_right _ hq)))
    rcases List.mem_append.mp hp with hp | hp
    · exact lC p hp q (List.mem_append_right _ (List.mem_append_right _ hq))
    rcases List.mem_append.mp hp with hp | hp
    · exact lB p hp q (List.mem_append_right _ hq)
    · exact lA p hp q hq
  case l =>
    intro p hp
    rcases List.mem_cons.mp hp with rfl | hp
    · exact qT.1
    · refine qT' p ?_
      have hp' : p ∈ (nwC ++ (nwB ++ nwA)) ++ news := hp
      rw [List.append_assoc, List.append_assoc] at hp'
      exact hp'
end

end Mine
end
section
open PySem PySem.W PyProof.Rows PySem.Calls Builtin Builtin.ObjectAttr
namespace Mine
set_option maxRecDepth 100000
set_option maxHeartbeats 8000000
local macro_rules | `(tactic| walk_at "getAttr ref") => `(tactic| (k_here; k_dflt (refine' hk_bound ?k1 ?k2 ?k3 ?k4 ?k5 ?kh ?k6 ?k7 ?k8 ?k9 ?k10 ?k11 ?k12 ?_; (case k4 => k_inst); (case k1 => k_asm); (case k2 => k_asm); (case k3 => k_asm); (case k5 => k_is); (case kh => k_is); (case k6 => k_is); (case k7 => k_is); (case k8 => k_is); (case k9 => k_is); (case k10 => k_is); (case k11 => decide +kernel); (case k12 => k_get); k_whole); intro q' h' F' N' l1; (try k_lt l1); (try k_sweep)))
local macro_rules | `(tactic| walk_at "getAttr ref") => `(tactic| (k_here; k_dflt (refine' hk_own ?k1 ?k2 ?k3 ?k4 ?k5 ?k6 ?k7 ?k8 ?k9 ?_; (case k1 => k_asm); (case k2 => k_asm); (case k3 => k_inst); (case k4 => k_is); (case k5 => k_is); (case k6 => k_is); (case k7 => k_is); (case k8 => k_get); (case k9 => k_handed); k_whole)))
local macro_rules | `(tactic| walk_at "getMethod ref") => `(tactic| (k_here; k_dflt (refine' hk_method ?k1 ?k2 ?k3 ?k4 ?k5 ?_; (case k1 => k_asm); (case k2 => k_asm); (case k3 => k_inst); (case k4 => k_is); (case k5 => k_is); k_whole)))
local macro_rules | `(tactic| ktr_enter) => `(tactic| (refine' code_def ?k1 ?k2 ?k3 ?k4 ?k5 ?kA ?kF ?kK ?k6 ?k7 ?k8 ?k9 ?kB ?_ ?c2 ?c3 ?c4 ?c5; (case kA => exact rfl); (case kF => exact rfl); (case kK => first | assumption | exact rfl); (case k1 => k_asm); (case k2 => k_asm); (case k3 => k_asm); (case k4 => k_asm); (case k5 => k_asm); (case k6 => k_is); (case k7 => k_is); (case k8 => ktr_room); (case k9 => first | exact BindsTo.of_eq rfl | exact binds_K (by k_in) rfl (by k_is) rfl rfl rfl); (case c5 => decide); (case kB => exact locs rfl); (case c2 => exact rfl); (case c3 => exact rfl); (case c4 => exact rfl); k_whole; intro g' L' h' FG' F' N' B' X' T'; (try dsimp only); (try k_lift B'); (try k_fold)))
local macro_rules | `(tactic| ktr_call $c:term 0) => `(tactic| (refine wpAny_call ?_; k_dflt (refine' ct_use $c ?k1 ?k2 ?k3 ?k4 ?k5 ?kK ?kd ?ku ?kp ?_; (case k1 => k_asm); (case k2 => k_asm); (case k3 => k_asm); (case k4 => k_asm); (case k5 => k_asm); (case kK => first | assumption | exact rfl); (case kd => ktr_room); (case ku => ktr_units))))
local macro_rules | `(tactic| ktr_call $c:term 1) => `(tactic| (refine' call_meth ?N ?q ?_; (case N => k_asm); (case q => k_mem); k_dflt (refine' ct_use $c ?k1 ?k2 ?k3 ?k4 ?k5 ?kK ?kd ?ku ?kp ?_; (case k1 => k_asm); (case k2 => k_asm); (case k3 => k_asm); (case k4 => k_asm); (case k5 => k_asm); (case kK => first | assumption | exact rfl); (case kd => ktr_room); (case ku => ktr_units))))
local macro_rules | `(tactic| k_mem) => `(tactic| first | assumption | exact List.mem_cons_self .. | (refine' List.mem_cons_of_mem _ ?_; k_mem))
local macro_rules | `(tactic| kst_same) => `(tactic| (intro z h1 h2 h3; (simp only [List.forall_mem_cons, List.not_mem_nil, false_implies, implies_true, and_true, ne_eq] at h2); (simp only [List.contains_cons, List.contains_nil, Bool.or_false, Bool.or_eq_false_iff, beq_eq_false_iff_ne, ne_eq] at h3); (simp [kstB, h1, h2, h3]; done)))
local macro_rules | `(tactic| kby_size) => `(tactic| (rw [PySem.sizeLine_eq]; omega))
local macro_rules | `(tactic| walk_at "call builtin:str.lstrip") => `(tactic| (k_here; (refine KXw.lstrip (by assumption) (by kby_size) ?_); intro _ _))
local macro_rules | `(tactic| walk_at "call builtin:str.strip") => `(tactic| (k_here; (refine KXw.strip (by assumption) (by kby_size) ?_); intro _ _))
local macro_rules | `(tactic| walk_at "call builtin:str.strip") => `(tactic| (k_here; (refine KXw.stripChars (by assumption) (by kby_size) ?_); intro _ _))
local macro_rules | `(tactic| walk_at "call builtin:str.upper") => `(tactic| (k_here; (refine KXw.upper (by assumption) (by decide +kernel) ?_); intro _ _))
local macro_rules | `(tactic| walk_at "call builtin:str.partition") => `(tactic| (k_here; (refine KXpa.partition (by k_asm) (by k_asm) (by decide) (by assumption) (by assumption) (by assumption) (by kby_size) ?_); intro D' _ _ _ _ _ F' N' l1; (try k_lt l1)))
local macro_rules | `(tactic| walk_at "call builtin:str.split") => `(tactic| (k_here; (refine KSpl.split1 (by k_asm) (by k_asm) (by decide) ?_ (by kby_size)); intro D' _ _ _ _ _ F' N' l1; (try k_lt l1)))
--FROM ML8
theorem vals_at : ∀ {vs : List Value} {xs : List Str}, ValsOf vs xs → ∀ {j : Nat}, j < xs.length → ∃ v x, vs[j]? = some v ∧ ValOf v x ∧ x ∈ xs
  | _, _, .nil, j, h => absurd h (Nat.not_lt_zero _)
  | _, _, .cons (v := v) (x := x) a _, 0, _ => ⟨v, x, rfl, a, .head _⟩
  | _, _, .cons _ r, j + 1, h => by
    obtain ⟨v, x, e, a, b⟩ := vals_at r (j := j) (by simpa using h)
    exact ⟨v, x, e, a, .tail _ b⟩
theorem ValOf.handed {v : Value} {x : Str} (h : ValOf v x) : handedIn v = true := by cases h <;> rfl
section
variable {w : World} {base h₀ : Heap} {mean : ExcName → Option Value} {mg mb : Str → Option Value} {L fa : Addr} {cd : Value} {s : Shared} {S R r1 r2 r3 : Addr} {ls1 ls2 ls3 : List (Str × Tok)} {n n1 n2 n3 : Nat} {Q : Flow → Shared → Prop} {E : Value → Shared → Prop} {news : Led} {rest : Str → Option Value}
theorem l_pick (K0 : Below callerA base [] base) (X : Frag.In (Mine.hd.heap_39 w.params) base) (T : Top VW LO mean mg mb base) {nb ki : Int} {tn tk : Tok}
    (F : Fr base L s.heap (fun x => if x = "number" then some (.int nb tn) else if x = "k" then some (.int ki tk) else rest x)) (N : News base L s.heap news) 
    (ret : ∀ (wh pl : Int) (tw tp : Tok) vl tx h' tk', Fr base L h' (fun x => if x = "place" then some (.int pl tp) else if x = "value" then some vl else if x = "which" then some (.int wh tw) else if x = "number" then some (.int nb tn) else if x = "k" then some (.int ki tk) else rest x) → News base L h' news →
      0 ≤ wh → wh < 3 → 0 ≤ pl → (wh = 1 → pl < 8) → (wh ≠ 1 → pl < 5) → ValOf vl tx → tx ∈ valsT → Q .next { s with heap := h', toks := tk' }) :
    wpAny (model PG w) (lawAr L fa cd) (execs (loopBody.take 3) (lawEnv L fa cd)) Q E s := by
  refine fillit _ ?_
  k_fill
  dsimp only [lawAr, lawEnv, loopBody, lawBody, lawScope, lawDef, PySem.Challenge.pw_ez0283_01, List.getLast?, List.getLast, List.getElem?_cons_succ, List.getElem?_cons_zero, List.take, List.drop]
  repeat' ((fail_if_success (with_reducible show wpAny _ _ (PySem.call (Value.ref 308) _) _ _ _)); first | walk1 | (k_unfold; (try dsimp only)))
  try dsimp only
  ktr_call (t_values w) 0
  · trivial
  intro h9 tk9 nw9 v9 F9 N9 l9 ⟨lv, vsv, nv, e1, hv, e3⟩
  subst e1 e3
  simp only [List.cons_append, List.nil_append] at N9
  try dsimp only
  repeat' ((fail_if_success (with_reducible show wpAny _ _ (subscriptTail _ _ (Value.ref _) _) _ _ _)); first | walk1 | (k_unfold; (try dsimp only)))
  try dsimp only
  have j0 : 0 ≤ (nb.fdiv 15).fmod 9 := Int.fmod_nonneg_of_pos _ (by decide)
  have j9 : (nb.fdiv 15).fmod 9 < 9 := Int.fmod_lt_of_pos _ (by decide)
  obtain ⟨vl, tx, hvl, hval, htx⟩ := vals_at hv (j := ((nb.fdiv 15).fmod 9).toNat) (by show _ < 9; omega)
  have hh := hval.handed
  refine item_listV (x := vl) (News.isList N9 (List.mem_cons_self ..)) j0 (by omega) (by simpa using hvl) ?_
  have w0 : 0 ≤ (nb.fdiv 5).fmod 3 := Int.fmod_nonneg_of_pos _ (by decide)
  have w3 : (nb.fdiv 5).fmod 3 < 3 := Int.fmod_lt_of_pos _ (by decide)
  have p0 : 0 ≤ nb.fmod 8 := Int.fmod_nonneg_of_pos _ (by decide)
  have p8 : nb.fmod 8 < 8 := Int.fmod_lt_of_pos _ (by decide)
  have q0 : 0 ≤ nb.fmod 5 := Int.fmod_nonneg_of_pos _ (by decide)
  have q5 : nb.fmod 5 < 5 := Int.fmod_lt_of_pos _ (by decide)
  k_steps
  · try dsimp only
    rename News _ _ _ _ => N8
    exact ret _ _ _ _ vl tx _ _ (by assumption) (news_drop N8 fun p hp => .tail _ hp) w0 w3 (by omega) (fun _ => by omega) (fun _ => by omega) hval htx
  · try dsimp only
    rename News _ _ _ _ => N8
    exact ret _ _ _ _ vl tx _ _ (by assumption) (news_drop N8 fun p hp => .tail _ hp) w0 w3 (by omega) (fun _ => by omega) (fun _ => by omega) hval htx
end

end Mine
end
section
open PySem PySem.W PyProof.Rows PySem.Calls Builtin Builtin.ObjectAttr
namespace Mine
set_option maxRecDepth 100000
set_option maxHeartbeats 8000000
local macro_rules | `(tactic| walk_at "getAttr ref") => `(tactic| (k_here; k_dflt (refine' hk_bound ?k1 ?k2 ?k3 ?k4 ?k5 ?kh ?k6 ?k7 ?k8 ?k9 ?k10 ?k11 ?k12 ?_; (case k4 => k_inst); (case k1 => k_asm); (case k2 => k_asm); (case k3 => k_asm); (case k5 => k_is); (case kh => k_is); (case k6 => k_is); (case k7 => k_is); (case k8 => k_is); (case k9 => k_is); (case k10 => k_is); (case k11 => decide +kernel); (case k12 => k_get); k_whole); intro q' h' F' N' l1; (try k_lt l1); (try k_sweep)))
local macro_rules | `(tactic| walk_at "getAttr ref") => `(tactic| (k_here; k_dflt (refine' hk_own ?k1 ?k2 ?k3 ?k4 ?k5 ?k6 ?k7 ?k8 ?k9 ?_; (case k1 => k_asm); (case k2 => k_asm); (case k3 => k_inst); (case k4 => k_is); (case k5 => k_is); (case k6 => k_is); (case k7 => k_is); (case k8 => k_get); (case k9 => k_handed); k_whole)))
local macro_rules | `(tactic| walk_at "getMethod ref") => `(tactic| (k_here; k_dflt (refine' hk_method ?k1 ?k2 ?k3 ?k4 ?k5 ?_; (case k1 => k_asm); (case k2 => k_asm); (case k3 => k_inst); (case k4 => k_is); (case k5 => k_is); k_whole)))
local macro_rules | `(tactic| ktr_enter) => `(tactic| (refine' code_def ?k1 ?k2 ?k3 ?k4 ?k5 ?kA ?kF ?kK ?k6 ?k7 ?k8 ?k9 ?kB ?_ ?c2 ?c3 ?c4 ?c5; (case kA => exact rfl); (case kF => exact rfl); (case kK => first | assumption | exact rfl); (case k1 => k_asm); (case k2 => k_asm); (case k3 => k_asm); (case k4 => k_asm); (case k5 => k_asm); (case k6 => k_is); (case k7 => k_is); (case k8 => ktr_room); (case k9 => first | exact BindsTo.of_eq rfl | exact binds_K (by k_in) rfl (by k_is) rfl rfl rfl); (case c5 => decide); (case kB => exact locs rfl); (case c2 => exact rfl); (case c3 => exact rfl); (case c4 => exact rfl); k_whole; intro g' L' h' FG' F' N' B' X' T'; (try dsimp only); (try k_lift B'); (try k_fold)))
local macro_rules | `(tactic| ktr_call $c:term 0) => `(tactic| (refine wpAny_call ?_; k_dflt (refine' ct_use $c ?k1 ?k2 ?k3 ?k4 ?k5 ?kK ?kd ?ku ?kp ?_; (case k1 => k_asm); (case k2 => k_asm); (case k3 => k_asm); (case k4 => k_asm); (case k5 => k_asm); (case kK => first | assumption | exact rfl); (case kd => ktr_room); (case ku => ktr_units))))
local macro_rules | `(tactic| ktr_call $c:term 1) => `(tactic| (refine' call_meth ?N ?q ?_; (case N => k_asm); (case q => k_mem); k_dflt (refine' ct_use $c ?k1 ?k2 ?k3 ?k4 ?k5 ?kK ?kd ?ku ?kp ?_; (case k1 => k_asm); (case k2 => k_asm); (case k3 => k_asm); (case k4 => k_asm); (case k5 => k_asm); (case kK => first | assumption | exact rfl); (case kd => ktr_room); (case ku => ktr_units))))
local macro_rules | `(tactic| k_mem) => `(tactic| first | assumption | exact List.mem_cons_self .. | (refine' List.mem_cons_of_mem _ ?_; k_mem))
local macro_rules | `(tactic| kst_same) => `(tactic| (intro z h1 h2 h3; (simp only [List.forall_mem_cons, List.not_mem_nil, false_implies, implies_true, and_true, ne_eq] at h2); (simp only [List.contains_cons, List.contains_nil, Bool.or_false, Bool.or_eq_false_iff, beq_eq_false_iff_ne, ne_eq] at h3); (simp [kstB, h1, h2, h3]; done)))
local macro_rules | `(tactic| kby_size) => `(tactic| (rw [PySem.sizeLine_eq]; omega))
local macro_rules | `(tactic| walk_at "call builtin:str.lstrip") => `(tactic| (k_here; (refine KXw.lstrip (by assumption) (by kby_size) ?_); intro _ _))
local macro_rules | `(tactic| walk_at "call builtin:str.strip") => `(tactic| (k_here; (refine KXw.strip (by assumption) (by kby_size) ?_); intro _ _))
local macro_rules | `(tactic| walk_at "call builtin:str.strip") => `(tactic| (k_here; (refine KXw.stripChars (by assumption) (by kby_size) ?_); intro _ _))
local macro_rules | `(tactic| walk_at "call builtin:str.upper") => `(tactic| (k_here; (refine KXw.upper (by assumption) (by decide +kernel) ?_); intro _ _))
local macro_rules | `(tactic| walk_at "call builtin:str.partition") => `(tactic| (k_here; (refine KXpa.partition (by k_asm) (by k_asm) (by decide) (by assumption) (by assumption) (by assumption) (by kby_size) ?_); intro D' _ _ _ _ _ F' N' l1; (try k_lt l1)))
local macro_rules | `(tactic| walk_at "call builtin:str.split") => `(tactic| (k_here; (refine KSpl.split1 (by k_asm) (by k_asm) (by decide) ?_ (by kby_size)); intro D' _ _ _ _ _ F' N' l1; (try k_lt l1)))
--FROM MM1
theorem updF_app {d : Addr} {o : Obj} {r st : Led} {g : Obj → Led} (h : ∀ p ∈ st, p.1 ≠ d) (U : UpdF d o r g) : UpdF d o (st ++ r) (fun o' => st ++ g o') := by
  induction st with
  | nil => exact U
  | cons p st ih => exact .tail (h p (.head _)) (ih fun q hq => h q (.tail _ hq))
/-- the addresses of the law's own things -/
structure Ads where
  T : Addr
  U : Addr
  R : Addr
  r1 : Addr
  r2 : Addr
  r3 : Addr
  H : Addr
  h1 : Addr
  h3 : Addr
  KP : Addr
  p1 : Addr
  p3 : Addr
  M : Addr
  x1 : Addr
  x2 : Addr
  x3 : Addr
  dx1 : Addr
  dx2 : Addr
  dx3 : Addr
  d1 : Addr
  d2 : Addr
  d3 : Addr
/-- those that the run turns -/
def MU (a : Ads) : List Addr := [a.T, a.U, a.r1, a.r2, a.r3, a.d1, a.d2, a.d3]
def muL (a : Ads) (oT oU o1 o2 o3 e1 e2 e3 : Obj) : Led := [(a.T, oT), (a.U, oU), (a.r1, o1), (a.r2, o2), (a.r3, o3), (a.d1, e1), (a.d2, e2), (a.d3, e3)]
structure Dif (a : Ads) : Prop where
  n01 : a.T ≠ a.U
  n02 : a.T ≠ a.r1
  n03 : a.T ≠ a.r2
  n04 : a.T ≠ a.r3
  n05 : a.T ≠ a.d1
  n06 : a.T ≠ a.d2
  n07 : a.T ≠ a.d3
  n12 : a.U ≠ a.r1
  n13 : a.U ≠ a.r2
  n14 : a.U ≠ a.r3
  n15 : a.U ≠ a.d1
  n16 : a.U ≠ a.d2
  n17 : a.U ≠ a.d3
  n23 : a.r1 ≠ a.r2
  n24 : a.r1 ≠ a.r3
  n25 : a.r1 ≠ a.d1
  n26 : a.r1 ≠ a.d2
  n27 : a.r1 ≠ a.d3
  n34 : a.r2 ≠ a.r3
  n35 : a.r2 ≠ a.d1
  n36 : a.r2 ≠ a.d2
  n37 : a.r2 ≠ a.d3
  n45 : a.r3 ≠ a.d1
  n46 : a.r3 ≠ a.d2
  n47 : a.r3 ≠ a.d3
  n56 : a.d1 ≠ a.d2
  n57 : a.d1 ≠ a.d3
  n67 : a.d2 ≠ a.d3
theorem muT {a : Ads} (d : Dif a) {oT oU o1 o2 o3 e1 e2 e3 : Obj} : UpdF a.T oT (muL a oT oU o1 o2 o3 e1 e2 e3) (fun o => muL a o oU o1 o2 o3 e1 e2 e3) := by
  unfold muL
  refine .head ?_
  intro p hp
  simp only [List.mem_cons, List.not_mem_nil, or_false] at hp
  rcases hp with rfl | rfl | rfl | rfl | rfl | rfl | rfl
  · exact Ne.symm d.n01
  · exact Ne.symm d.n02
  · exact Ne.symm d.n03
  · exact Ne.symm d.n04
  · exact Ne.symm d.n05
  · exact Ne.symm d.n06
  · exact Ne.symm d.n07
theorem stMuT {a : Ads} (d : Dif a) {st : Led} (h : ∀ p ∈ st, p.1 ∉ MU a) {oT oU o1 o2 o3 e1 e2 e3 : Obj} : UpdF a.T oT (st ++ muL a oT oU o1 o2 o3 e1 e2 e3) (fun o => st ++ muL a o oU o1 o2 o3 e1 e2 e3) := updF_app (fun p hp e => h p hp (by rw [e]; simp [MU])) (muT d)
theorem muU {a : Ads} (d : Dif a) {oT oU o1 o2 o3 e1 e2 e3 : Obj} : UpdF a.U oU (muL a oT oU o1 o2 o3 e1 e2 e3) (fun o => muL a oT o o1 o2 o3 e1 e2 e3) := by
  unfold muL
  refine .tail d.n01 (.head ?_)
  intro p hp
  simp only [List.mem_cons, List.not_mem_nil, or_false] at hp
  rcases hp with rfl | rfl | rfl | rfl | rfl | rfl
  · exact Ne.symm d.n12
  · exact Ne.symm d.n13
  · exact Ne.symm d.n14
  · exact Ne.symm d.n15
  · exact Ne.symm d.n16
  · exact Ne.symm d.n17
theorem stMuU {a : Ads} (d : Dif a) {st : Led} (h : ∀ p ∈ st, p.1 ∉ MU a) {oT oU o1 o2 o3 e1 e2 e3 : Obj} : UpdF a.U oU (st ++ muL a oT oU o1 o2 o3 e1 e2 e3) (fun o => st ++ muL a oT o o1 o2 o3 e1 e2 e3) := updF_app (fun p hp e => h p hp (by rw [e]; simp [MU])) (muU d)
theorem mur1 {a : Ads} (d : Dif a) {oT oU o1 o2 o3 e1 e2 e3 : Obj} : UpdF a.r1 o1 (muL a oT oU o1 o2 o3 e1 e2 e3) (fun o => muL a oT oU o o2 o3 e1 e2 e3) := by
  unfold muL
  refine .tail d.n02 (.tail d.n12 (.head ?_))
  intro p hp
  simp only [List.mem_cons, List.not_mem_nil, or_false] at hp
  rcases hp with rfl | rfl | rfl | rfl | rfl
  · exact Ne.symm d.n23
  · exact Ne.symm d.n24
  · exact Ne.symm d.n25
  · exact Ne.symm d.n26
  · exact Ne.symm d.n27
theorem stMur1 {a : Ads} (d : Dif a) {st : Led} (h : ∀ p ∈ st, p.1 ∉ MU a) {oT oU o1 o2 o3 e1 e2 e3 : Obj} : UpdF a.r1 o1 (st ++ muL a oT oU o1 o2 o3 e1 e2 e3) (fun o => st ++ muL a oT oU o o2 o3 e1 e2 e3) := updF_app (fun p hp e => h p hp (by rw [e]; simp [MU])) (mur1 d)
theorem mur2 {a : Ads} (d : Dif a) {oT oU o1 o2 o3 e1 e2 e3 : Obj} : UpdF a.r2 o2 (muL a oT oU o1 o2 o3 e1 e2 e3) (fun o => muL a oT oU o1 o o3 e1 e2 e3) := by
  unfold muL
  refine .tail d.n03 (.tail d.n13 (.tail d.n23 (.head ?_)))
  intro p hp
  simp only [List.mem_cons, List.not_mem_nil, or_false] at hp
  rcases hp with rfl | rfl | rfl | rfl
  · exact Ne.symm d.n34
  · exact Ne.symm d.n35
  · exact Ne.symm d.n36
  · exact Ne.symm d.n37
theorem stMur2 {a : Ads} (d : Dif a) {st : Led} (h : ∀ p ∈ st, p.1 ∉ MU a) {oT oU o1 o2 o3 e1 e2 e3 : Obj} : UpdF a.r2 o2 (st ++ muL a oT oU o1 o2 o3 e1 e2 e3) (fun o => st ++ muL a oT oU o1 o o3 e1 e2 e3) := updF_app (fun p hp e => h p hp (by rw [e]; simp [MU])) (mur2 d)
theorem mur3 {a : Ads} (d : Dif a) {oT oU o1 o2 o3 e1 e2 e3 : Obj} : UpdF a.r3 o3 (muL a oT oU o1 o2 o3 e1 e2 e3) (fun o => muL a oT oU o1 o2 o e1 e2 e3) := by
  unfold muL
  refine .tail d.n04 (.tail d.n14 (.tail d.n24 (.tail d.n34 (.head ?_))))
  intro p hp
  simp only [List.mem_cons, List.not_mem_nil, or_false] at hp
  rcases hp with rfl | rfl | rfl
  · exact Ne.symm d.n45
  · exact Ne.symm d.n46
  · exact Ne.symm d.n47
theorem stMur3 {a : Ads} (d : Dif a) {st : Led} (h : ∀ p ∈ st, p.1 ∉ MU a) {oT oU o1 o2 o3 e1 e2 e3 : Obj} : UpdF a.r3 o3 (st ++ muL a oT oU o1 o2 o3 e1 e2 e3) (fun o => st ++ muL a oT oU o1 o2 o e1 e2 e3) := updF_app (fun p hp e => h p hp (by rw [e]; simp [MU])) (mur3 d)
theorem mud1 {a : Ads} (d : Dif a) {oT oU o1 o2 o3 e1 e2 e3 : Obj} : UpdF a.d1 e1 (muL a oT oU o1 o2 o3 e1 e2 e3) (fun o => muL a oT oU o1 o2 o3 o e2 e3) := by
  unfold muL
  refine .tail d.n05 (.tail d.n15 (.tail d.n25 (.tail d.n35 (.tail d.n45 (.head ?_)))))
  intro p hp
  simp only [List.mem_cons, List.not_mem_nil, or_false] at hp
  rcases hp with rfl | rfl
  · exact Ne.symm d.n56
  · exact Ne.symm d.n57
theorem stMud1 {a : Ads} (d : Dif a) {st : Led} (h : ∀ p ∈ st, p.1 ∉ MU a) {oT oU o1 o2 o3 e1 e2 e3 : Obj} : UpdF a.d1 e1 (st ++ muL a oT oU o1 o2 o3 e1 e2 e3) (fun o => st ++ muL a oT oU o1 o2 o3 o e2 e3) := updF_app (fun p hp e => h p hp (by rw [e]; simp [MU])) (mud1 d)
theorem mud2 {a : Ads} (d : Dif a) {oT oU o1 o2 o3 e1 e2 e3 : Obj} : UpdF a.d2 e2 (muL a oT oU o1 o2 o3 e1 e2 e3) (fun o => muL a oT oU o1 o2 o3 e1 o e3) := by
  unfold muL
  refine .tail d.n06 (.tail d.n16 (.tail d.n26 (.tail d.n36 (.tail d.n46 (.tail d.n56 (.head ?_))))))
  intro p hp
  simp only [List.mem_cons, List.not_mem_nil, or_false] at hp
  rcases hp with rfl
  · exact Ne.symm d.n67
theorem stMud2 {a : Ads} (d : Dif a) {st : Led} (h : ∀ p ∈ st, p.1 ∉ MU a) {oT oU o1 o2 o3 e1 e2 e3 : Obj} : UpdF a.d2 e2 (st ++ muL a oT oU o1 o2 o3 e1 e2 e3) (fun o => st ++ muL a oT oU o1 o2 o3 e1 o e3) := updF_app (fun p hp e => h p hp (by rw [e]; simp [MU])) (mud2 d)
theorem mud3 {a : Ads} (d : Dif a) {oT oU o1 o2 o3 e1 e2 e3 : Obj} : UpdF a.d3 e3 (muL a oT oU o1 o2 o3 e1 e2 e3) (fun o => muL a oT oU o1 o2 o3 e1 e2 o) := by
  unfold muL
  refine .tail d.n07 (.tail d.n17 (.tail d.n27 (.tail d.n37 (.tail d.n47 (.tail d.n57 (.tail d.n67 (.head ?_)))))))
  intro p hp
  cases hp
theorem stMud3 {a : Ads} (d : Dif a) {st : Led} (h : ∀ p ∈ st, p.1 ∉ MU a) {oT oU o1 o2 o3 e1 e2 e3 : Obj} : UpdF a.d3 e3 (st ++ muL a oT oU o1 o2 o3 e1 e2 e3) (fun o => st ++ muL a oT oU o1 o2 o3 e1 e2 o) := updF_app (fun p hp e => h p hp (by rw [e]; simp [MU])) (mud3 d)
/-- what stays: the lists of lists, the messages, what was told -/
structure Sta (P : Params) (a : Ads) (ra rc : List Str) (st : Led) : Prop where
  off : ∀ p ∈ st, p.1 ∉ MU a
  dif : Dif a
  hR : ∃ n, (a.R, listOf #[.ref a.r1, .ref a.r2, .ref a.r3] n) ∈ st
  hH : ∃ n, (a.H, listOf #[.ref a.h1, .ref a.h3] n) ∈ st
  hh1 : ∃ ls n, (a.h1, listOf (strValues ls).toArray n) ∈ st ∧ ls.map (·.1) = ra
  hh3 : ∃ ls n, (a.h3, listOf (strValues ls).toArray n) ∈ st ∧ ls.map (·.1) = rc
  hKP : ∃ n, (a.KP, listOf #[.ref a.p1, .ref a.p3] n) ∈ st
  hp1 : ∃ ls n, (a.p1, listOf (strValues ls).toArray n) ∈ st ∧ ls.map (·.1) = ra
  hp3 : ∃ ls n, (a.p3, listOf (strValues ls).toArray n) ∈ st ∧ ls.map (·.1) = rc
  hM : ∃ n, (a.M, listOf #[.ref a.x1, .ref a.x2, .ref a.x3] n) ∈ st
  hx1 : (a.x1, instObj 253 a.dx1) ∈ st
  hx2 : (a.x2, instObj 274 a.dx2) ∈ st
  hx3 : (a.x3, instObj 253 a.dx3) ∈ st
  hd1 : ∃ k1 v1 k2 v2 k3, (a.dx1, msgDict P k1 v1 k2 v2 k3 "GP" "WPL" a.d1) ∈ st
  hd2 : ∃ k1 v1 k2 v2 k3, (a.dx2, msgDict P k1 v1 k2 v2 k3 "II" "DTM" a.d2) ∈ st
  hd3 : ∃ k1 v1 k2 v2 k3, (a.dx3, msgDict P k1 v1 k2 v2 k3 "GP" "WPL" a.d3) ∈ st
theorem Sta.grow {P : Params} {a : Ads} {ra rc : List Str} {st st' : Led} (S : Sta P a ra rc st) (hs : ∀ p ∈ st, p ∈ st') (off : ∀ p ∈ st', p.1 ∉ MU a) : Sta P a ra rc st' where
  off := off
  dif := S.dif
  hR := let ⟨n, h⟩ := S.hR; ⟨n, hs _ h⟩
  hH := let ⟨n, h⟩ := S.hH; ⟨n, hs _ h⟩
  hKP := let ⟨n, h⟩ := S.hKP; ⟨n, hs _ h⟩
  hM := let ⟨n, h⟩ := S.hM; ⟨n, hs _ h⟩
  hh1 := let ⟨ls, n, h, e⟩ := S.hh1; ⟨ls, n, hs _ h, e⟩
  hh3 := let ⟨ls, n, h, e⟩ := S.hh3; ⟨ls, n, hs _ h, e⟩
  hp1 := let ⟨ls, n, h, e⟩ := S.hp1; ⟨ls, n, hs _ h, e⟩
  hp3 := let ⟨ls, n, h, e⟩ := S.hp3; ⟨ls, n, hs _ h, e⟩
  hx1 := hs _ S.hx1
  hx2 := hs _ S.hx2
  hx3 := hs _ S.hx3
  hd1 := let ⟨k1, v1, k2, v2, k3, h⟩ := S.hd1; ⟨k1, v1, k2, v2, k3, hs _ h⟩
  hd2 := let ⟨k1, v1, k2, v2, k3, h⟩ := S.hd2; ⟨k1, v1, k2, v2, k3, hs _ h⟩
  hd3 := let ⟨k1, v1, k2, v2, k3, h⟩ := S.hd3; ⟨k1, v1, k2, v2, k3, hs _ h⟩
/-- the names of the law's frame -/
abbrev lawM (a : Ads) (rest : Str → Option Value) : Str → Option Value := fun x => if x = "due" then some (.ref a.U) else if x = "told" then some (.ref a.T) else if x = "msgs" then some (.ref a.M) else if x = "kept" then some (.ref a.KP) else if x = "handed" then some (.ref a.H) else if x = "rows" then some (.ref a.R) else rest x
theorem lawM_self {a : Ads} {m : Str → Option Value} (h1 : m "due" = some (.ref a.U)) (h2 : m "told" = some (.ref a.T)) (h3 : m "msgs" = some (.ref a.M)) (h4 : m "kept" = some (.ref a.KP)) (h5 : m "handed" = some (.ref a.H)) (h6 : m "rows" = some (.ref a.R)) : m = lawM a m := by
  funext x
  unfold lawM
  split
  · subst x; exact h1
  split
  · subst x; exact h2
  split
  · subst x; exact h3
  split
  · subst x; exact h4
  split
  · subst x; exact h5
  split
  · subst x; exact h6
  rfl
section
variable {w : World} {A : Around} {E : Value → Shared → Prop} {s : Shared} {h₀ : Heap} {L T : Addr} {m : Str → Option Value} {news : Led} {g : Obj → Led}
theorem told_app {vs : List Value} {n : Nat} {x : Value} {Q : Value → Shared → Prop} (F : Fr h₀ L s.heap m) (N : News h₀ L s.heap news) (U : UpdF T (listOf vs.toArray n) news g) (hsz : vs.length ≤ 1000)
    (h : ∀ h', Fr h₀ L h' m → News h₀ L h' (g (listOf (vs ++ [x]).toArray (n + 1))) → Q .none { s with heap := h' }) : wpAny (model PG w) A (call (.builtin "list.append") [.ref T, x]) Q E s := by
  have U' := updF_upd U (listOf (vs ++ [x]).toArray (n + 1))
  rw [← List.push_toArray] at U' h
  exact append_K F N U' h (by rw [List.size_toArray, sizeLine_eq]; omega)
end

end Mine
end
section
open PySem PySem.W PyProof.Rows PySem.Calls Builtin Builtin.ObjectAttr
namespace Mine
set_option maxRecDepth 100000
set_option maxHeartbeats 8000000
local macro_rules | `(tactic| walk_at "getAttr ref") => `(tactic| (k_here; k_dflt (refine' hk_bound ?k1 ?k2 ?k3 ?k4 ?k5 ?kh ?k6 ?k7 ?k8 ?k9 ?k10 ?k11 ?k12 ?_; (case k4 => k_inst); (case k1 => k_asm); (case k2 => k_asm); (case k3 => k_asm); (case k5 => k_is); (case kh => k_is); (case k6 => k_is); (case k7 => k_is); (case k8 => k_is); (case k9 => k_is); (case k10 => k_is); (case k11 => decide +kernel); (case k12 => k_get); k_whole); intro q' h' F' N' l1; (try k_lt l1); (try k_sweep)))
local macro_rules | `(tactic| walk_at "getAttr ref") => `(tactic| (k_here; k_dflt (refine' hk_own ?k1 ?k2 ?k3 ?k4 ?k5 ?k6 ?k7 ?k8 ?k9 ?_; (case k1 => k_asm); (case k2 => k_asm); (case k3 => k_inst); (case k4 => k_is); (case k5 => k_is); (case k6 => k_is); (case k7 => k_is); (case k8 => k_get); (case k9 => k_handed); k_whole)))
local macro_rules | `(tactic| walk_at "getMethod ref") => `(tactic| (k_here; k_dflt (refine' hk_method ?k1 ?k2 ?k3 ?k4 ?k5 ?_; (case k1 => k_asm); (case k2 => k_asm); (case k3 => k_inst); (case k4 => k_is); (case k5 => k_is); k_whole)))
local macro_rules | `(tactic| ktr_enter) => `(tactic| (refine' code_def ?k1 ?k2 ?k3 ?k4 ?k5 ?kA ?kF ?kK ?k6 ?k7 ?k8 ?k9 ?kB ?_ ?c2 ?c3 ?c4 ?c5; (case kA => exact rfl); (case kF => exact rfl); (case kK => first | assumption | exact rfl); (case k1 => k_asm); (case k2 => k_asm); (case k3 => k_asm); (case k4 => k_asm); (case k5 => k_asm); (case k6 => k_is); (case k7 => k_is); (case k8 => ktr_room); (case k9 => first | exact BindsTo.of_eq rfl | exact binds_K (by k_in) rfl (by k_is) rfl rfl rfl); (case c5 => decide); (case kB => exact locs rfl); (case c2 => exact rfl); (case c3 => exact rfl); (case c4 => exact rfl); k_whole; intro g' L' h' FG' F' N' B' X' T'; (try dsimp only); (try k_lift B'); (try k_fold)))
local macro_rules | `(tactic| ktr_call $c:term 0) => `(tactic| (refine wpAny_call ?_; k_dflt (refine' ct_use $c ?k1 ?k2 ?k3 ?k4 ?k5 ?kK ?kd ?ku ?kp ?_; (case k1 => k_asm); (case k2 => k_asm); (case k3 => k_asm); (case k4 => k_asm); (case k5 => k_asm); (case kK => first | assumption | exact rfl); (case kd => ktr_room); (case ku => ktr_units))))
local macro_rules | `(tactic| ktr_call $c:term 1) => `(tactic| (refine' call_meth ?N ?q ?_; (case N => k_asm); (case q => k_mem); k_dflt (refine' ct_use $c ?k1 ?k2 ?k3 ?k4 ?k5 ?kK ?kd ?ku ?kp ?_; (case k1 => k_asm); (case k2 => k_asm); (case k3 => k_asm); (case k4 => k_asm); (case k5 => k_asm); (case kK => first | assumption | exact rfl); (case kd => ktr_room); (case ku => ktr_units))))
local macro_rules | `(tactic| k_mem) => `(tactic| first | assumption | exact List.mem_cons_self .. | (refine' List.mem_cons_of_mem _ ?_; k_mem))
local macro_rules | `(tactic| kst_same) => `(tactic| (intro z h1 h2 h3; (simp only [List.forall_mem_cons, List.not_mem_nil, false_implies, implies_true, and_true, ne_eq] at h2); (simp only [List.contains_cons, List.contains_nil, Bool.or_false, Bool.or_eq_false_iff, beq_eq_false_iff_ne, ne_eq] at h3); (simp [kstB, h1, h2, h3]; done)))
local macro_rules | `(tactic| kby_size) => `(tactic| (rw [PySem.sizeLine_eq]; omega))
local macro_rules | `(tactic| walk_at "call builtin:str.lstrip") => `(tactic| (k_here; (refine KXw.lstrip (by assumption) (by kby_size) ?_); intro _ _))
local macro_rules | `(tactic| walk_at "call builtin:str.strip") => `(tactic| (k_here; (refine KXw.strip (by assumption) (by kby_size) ?_); intro _ _))
local macro_rules | `(tactic| walk_at "call builtin:str.strip") => `(tactic| (k_here; (refine KXw.stripChars (by assumption) (by kby_size) ?_); intro _ _))
local macro_rules | `(tactic| walk_at "call builtin:str.upper") => `(tactic| (k_here; (refine KXw.upper (by assumption) (by decide +kernel) ?_); intro _ _))
local macro_rules | `(tactic| walk_at "call builtin:str.partition") => `(tactic| (k_here; (refine KXpa.partition (by k_asm) (by k_asm) (by decide) (by assumption) (by assumption) (by assumption) (by kby_size) ?_); intro D' _ _ _ _ _ F' N' l1; (try k_lt l1)))
local macro_rules | `(tactic| walk_at "call builtin:str.split") => `(tactic| (k_here; (refine KSpl.split1 (by k_asm) (by k_asm) (by decide) ?_ (by kby_size)); intro D' _ _ _ _ _ F' N' l1; (try k_lt l1)))
--FROM MM0
abbrev turnM (a : Ads) (rest : Str → Option Value) (nb ki wh pl : Int) (tn tk tw tp : Tok) (vl : Value) : Str → Option Value := fun x => if x = "place" then some (.int pl tp) else if x = "value" then some vl else if x = "which" then some (.int wh tw) else if x = "number" then some (.int nb tn) else if x = "k" then some (.int ki tk) else lawM a rest x
/-- what a set tells -/
def toldT (pl : Int) (row : List Str) : Str := if pl.toNat < row.length then "set" else "refused"
section
variable {w : World} {base : Heap} {mean : ExcName → Option Value} {mg mb : Str → Option Value} {L fa : Addr} {cd : Value} {s : Shared} {Q : Flow → Shared → Prop} {E : Value → Shared → Prop} {rest : Str → Option Value} {a : Ads} {ra rc : List Str} {st : Led} {nb ki pl : Int} {tn tk tw tp : Tok} {vl : Value} {tx : Str}
theorem l_set1 (K0 : Below callerA base [] base) (X : Frag.In (Mine.hd.heap_39 w.params) base) (T : Top VW LO mean mg mb base) (S : Sta w.params a ra rc st) (p0 : 0 ≤ pl) (p5 : pl < 5) (hv : ValOf vl tx) {vT : List Value} {nT n : Nat} {oU o1 o2 o3 e2 e3 : Obj} {ls : List (Str × Tok)} (row : List Str) (hr : OkRow row) (hls : ls.map (·.1) = row) (hz : vT.length ≤ 1000)
    (F : Fr base L s.heap (turnM a rest nb ki 0 pl tn tk tw tp vl)) (N : News base L s.heap (st ++ muL a (listOf vT.toArray nT) oU o1 o2 o3 (listOf (strValues ls).toArray n) e2 e3))
    (ret : ∀ ls' (kt : Tok) h' tk', ls'.map (·.1) = row.set pl.toNat tx → Fr base L h' (turnM a rest nb ki 0 pl tn tk tw tp vl) → News base L h' (st ++ muL a (listOf (vT ++ [Value.str (toldT pl row) kt]).toArray (nT + 1)) oU o1 o2 o3 (listOf (strValues ls').toArray n) e2 e3) → Q .next { s with heap := h', toks := tk' }) :
    wpAny (model PG w) (lawAr L fa cd) (execs ((loopBody.drop 3).take 1) (lawEnv L fa cd)) Q E s := by
  refine fillit _ ?_
  k_fill
  dsimp only [lawAr, lawEnv, loopBody, lawBody, lawScope, lawDef, PySem.Challenge.pw_ez0283_01, List.getLast?, List.getLast, List.getElem?_cons_succ, List.getElem?_cons_zero, List.take, List.drop]
  obtain ⟨nM, hM⟩ := S.hM
  have hx := S.hx1
  obtain ⟨k1, v1, k2, v2, k3, hd⟩ := S.hd1
  have U1 := stMud1 S.dif S.off (oT := listOf vT.toArray nT) (oU := oU) (o1 := o1) (o2 := o2) (o3 := o3) (e1 := (listOf (strValues ls).toArray n)) (e2 := e2) (e3 := e3)
  have UT := fun o => stMuT S.dif S.off (oT := listOf vT.toArray nT) (oU := oU) (o1 := o1) (o2 := o2) (o3 := o3) (e1 := o) (e2 := e2) (e3 := e3)
  have hv' := hv.handed
  obtain ⟨Ld, hLd⟩ : ∃ Ld, st ++ muL a (listOf vT.toArray nT) oU o1 o2 o3 (listOf (strValues ls).toArray n) e2 e3 = Ld := ⟨_, rfl⟩
  rw [hLd] at N U1
  have hT : (a.T, listOf vT.toArray nT) ∈ Ld := hLd ▸ updF_mem (UT _)
  have sub : ∀ p ∈ st, p ∈ Ld := fun p hp => hLd ▸ List.mem_append_left _ hp
  delta turnM lawM at F ret
  repeat' ((fail_if_success (with_reducible show wpAny _ _ (subscriptTail _ _ (Value.ref a.M) _) _ _ _)); first | walk1 | (k_unfold; (try dsimp only)))
  try dsimp only
  refine item_listV (x := .ref a.x1) (News.isList N (sub _ hM)) (by decide) (by decide) rfl ?_
  repeat' ((fail_if_success (with_reducible show wpAny _ _ (PySem.call (Value.ref 283) _) _ _ _)); first | walk1 | (k_unfold; (try dsimp only)))
  try dsimp only
  ktr_call (t_wpl w) 0
  · trivial
  intro h9 tk9 nw9 v9 F9 N9 l9 ⟨ln, lsn, nn, e1, hn, e3⟩
  subst e1 e3
  simp only [List.cons_append, List.nil_append] at N9
  try dsimp only
  repeat' ((fail_if_success (with_reducible show wpAny _ _ (subscriptTail _ _ (Value.ref ln) _) _ _ _)); first | walk1 | (k_unfold; (try dsimp only)))
  try dsimp only
  obtain ⟨nm, tnm, hnm1, hnm2⟩ := strs_at hn (i := pl.toNat) (by show _ < 5; omega)
  rw [Int.toNat_natCast] at hnm1
  have hnm3 : namesW[pl.toNat]? = some nm := by
    have hl : pl.toNat < namesW.length := by show _ < 5; omega
    rw [List.getD_eq_getElem?_getD, List.getElem?_eq_getElem hl] at hnm2
    rw [List.getElem?_eq_getElem hl]
    exact congrArg some hnm2
  refine item_listV (x := .str nm tnm) (News.isList N9 (List.mem_cons_self ..)) p0 (by omega) hnm1 ?_
  have N8 : News base L h9 Ld := news_drop N9 fun p hp => .tail _ hp
  clear N9
  repeat' ((fail_if_success (with_reducible show wpAny _ _ (PySem.call (Value.ref 329) _) _ _ _)); first | walk1 | (k_unfold; (try dsimp only)))
  try dsimp only
  refine wpAny_call ?_
  k_dflt (refine' cts_use (t_setW w a.x1 a.d1 a.dx1 k1 v1 k2 v2 k3 tnm tnm ls n (fun o => st ++ muL a (listOf vT.toArray nT) oU o1 o2 o3 o e2 e3) row hr hls nm pl.toNat hnm3 vl tx hv) (news := Ld) ?k1z1 ?k2z1 ?k3z1 ?k4z1 ?k5z1 ?kKz1 ?kdz1 ?kuz1 ?kXz1 ?kTz1 ?kpz1 ?_; (case k1z1 => k_asm); (case k2z1 => k_asm); (case k3z1 => k_asm); (case k4z1 => k_asm); (case k5z1 => k_asm); (case kXz1 => k_asm); (case kTz1 => k_asm); (case kKz1 => first | assumption | exact rfl); (case kdz1 => ktr_room); (case kuz1 => ktr_units))
  · exact ⟨⟨sub _ hx, sub _ hd⟩, U1⟩
  intro h7 tk7 nw7 v7 F7 N7 hpost
  try dsimp only
  rcases hpost with ⟨hlt, ⟨kt, rfl⟩, k9, rfl⟩ | ⟨hge, ⟨kt, rfl⟩, rfl⟩
  · repeat' ((fail_if_success (with_reducible show wpAny _ _ (PySem.call (Value.builtin "list.append") _) _ _ _)); first | walk1 | (k_unfold; (try dsimp only)))
    try dsimp only
    refine told_app F7 N7 (UT _) hz ?_
    intro h6 F6 N6
    try dsimp only
    k_steps
    try dsimp only
    have ht : toldT pl row = Str.ofString "set" := if_pos hlt
    exact ret (ls.set pl.toNat (tx, k9)) kt _ _ (by rw [List.map_set, hls]) (by assumption) (by rw [ht]; assumption)
  · repeat' ((fail_if_success (with_reducible show wpAny _ _ (PySem.call (Value.builtin "list.append") _) _ _ _)); first | walk1 | (k_unfold; (try dsimp only)))
    try dsimp only
    subst hLd
    refine told_app F7 N7 (UT _) hz ?_
    intro h6 F6 N6
    try dsimp only
    k_steps
    try dsimp only
    have ht : toldT pl row = Str.ofString "refused" := if_neg (by omega)
    exact ret ls kt _ _ (by rw [hls, List.set_eq_of_length_le hge]) (by assumption) (by rw [ht]; assumption)
theorem l_set2 (K0 : Below callerA base [] base) (X : Frag.In (Mine.hd.heap_39 w.params) base) (T : Top VW LO mean mg mb base) (S : Sta w.params a ra rc st) (p0 : 0 ≤ pl) (p5 : pl < 8) (hv : ValOf vl tx) {vT : List Value} {nT n : Nat} {oU o1 o2 o3 e1 e3 : Obj} {ls : List (Str × Tok)} (row : List Str) (hr : OkRow row) (hls : ls.map (·.1) = row) (hz : vT.length ≤ 1000)
    (F : Fr base L s.heap (turnM a rest nb ki 1 pl tn tk tw tp vl)) (N : News base L s.heap (st ++ muL a (listOf vT.toArray nT) oU o1 o2 o3 e1 (listOf (strValues ls).toArray n) e3))
    (ret : ∀ ls' (kt : Tok) h' tk', ls'.map (·.1) = row.set pl.toNat tx → Fr base L h' (turnM a rest nb ki 1 pl tn tk tw tp vl) → News base L h' (st ++ muL a (listOf (vT ++ [Value.str (toldT pl row) kt]).toArray (nT + 1)) oU o1 o2 o3 e1 (listOf (strValues ls').toArray n) e3) → Q .next { s with heap := h', toks := tk' }) :
    wpAny (model PG w) (lawAr L fa cd) (execs ((loopBody.drop 3).take 1) (lawEnv L fa cd)) Q E s := by
  refine fillit _ ?_
  k_fill
  dsimp only [lawAr, lawEnv, loopBody, lawBody, lawScope, lawDef, PySem.Challenge.pw_ez0283_01, List.getLast?, List.getLast, List.getElem?_cons_succ, List.getElem?_cons_zero, List.take, List.drop]
  obtain ⟨nM, hM⟩ := S.hM
  have hx := S.hx2
  obtain ⟨k1, v1, k2, v2, k3, hd⟩ := S.hd2
  have U1 := stMud2 S.dif S.off (oT := listOf vT.toArray nT) (oU := oU) (o1 := o1) (o2 := o2) (o3 := o3) (e1 := e1) (e2 := (listOf (strValues ls).toArray n)) (e3 := e3)
  have UT := fun o => stMuT S.dif S.off (oT := listOf vT.toArray nT) (oU := oU) (o1 := o1) (o2 := o2) (o3 := o3) (e1 := e1) (e2 := o) (e3 := e3)
  have hv' := hv.handed
  obtain ⟨Ld, hLd⟩ : ∃ Ld, st ++ muL a (listOf vT.toArray nT) oU o1 o2 o3 e1 (listOf (strValues ls).toArray n) e3 = Ld := ⟨_, rfl⟩
  rw [hLd] at N U1
  have hT : (a.T, listOf vT.toArray nT) ∈ Ld := hLd ▸ updF_mem (UT _)
  have sub : ∀ p ∈ st, p ∈ Ld := fun p hp => hLd ▸ List.mem_append_left _ hp
  delta turnM lawM at F ret
  repeat' ((fail_if_success (with_reducible show wpAny _ _ (subscriptTail _ _ (Value.ref a.M) _) _ _ _)); first | walk1 | (k_unfold; (try dsimp only)))
  try dsimp only
  refine item_listV (x := .ref a.x2) (News.isList N (sub _ hM)) (by decide) (by decide) rfl ?_
  repeat' ((fail_if_success (with_reducible show wpAny _ _ (PySem.call (Value.ref 290) _) _ _ _)); first | walk1 | (k_unfold; (try dsimp only)))
  try dsimp only
  ktr_call (t_dtm w) 0
  · trivial
  intro h9 tk9 nw9 v9 F9 N9 l9 ⟨ln, lsn, nn, e1, hn, e3⟩
  subst e1 e3
  simp only [List.cons_append, List.nil_append] at N9
  try dsimp only
  repeat' ((fail_if_success (with_reducible show wpAny _ _ (subscriptTail _ _ (Value.ref ln) _) _ _ _)); first | walk1 | (k_unfold; (try dsimp only)))
  try dsimp only
  obtain ⟨nm, tnm, hnm1, hnm2⟩ := strs_at hn (i := pl.toNat) (by show _ < 8; omega)
  rw [Int.toNat_natCast] at hnm1
  have hnm3 : namesD[pl.toNat]? = some nm := by
    have hl : pl.toNat < namesD.length := by show _ < 8; omega
    rw [List.getD_eq_getElem?_getD, List.getElem?_eq_getElem hl] at hnm2
    rw [List.getElem?_eq_getElem hl]
    exact congrArg some hnm2
  refine item_listV (x := .str nm tnm) (News.isList N9 (List.mem_cons_self ..)) p0 (by omega) hnm1 ?_
  have N8 : News base L h9 Ld := news_drop N9 fun p hp => .tail _ hp
  clear N9
  repeat' ((fail_if_success (with_reducible show wpAny _ _ (PySem.call (Value.ref 329) _) _ _ _)); first | walk1 | (k_unfold; (try dsimp only)))
  try dsimp only
  refine wpAny_call ?_
  k_dflt (refine' cts_use (t_setD w a.x2 a.d2 a.dx2 k1 v1 k2 v2 k3 tnm tnm ls n (fun o => st ++ muL a (listOf vT.toArray nT) oU o1 o2 o3 e1 o e3) row hr hls nm pl.toNat hnm3 vl tx hv) (news := Ld) ?k1z2 ?k2z2 ?k3z2 ?k4z2 ?k5z2 ?kKz2 ?kdz2 ?kuz2 ?kXz2 ?kTz2 ?kpz2 ?_; (case k1z2 => k_asm); (case k2z2 => k_asm); (case k3z2 => k_asm); (case k4z2 => k_asm); (case k5z2 => k_asm); (case kXz2 => k_asm); (case kTz2 => k_asm); (case kKz2 => first | assumption | exact rfl); (case kdz2 => ktr_room); (case kuz2 => ktr_units))
  · exact ⟨⟨sub _ hx, sub _ hd⟩, U1⟩
  intro h7 tk7 nw7 v7 F7 N7 hpost
  try dsimp only
  rcases hpost with ⟨hlt, ⟨kt, rfl⟩, k9, rfl⟩ | ⟨hge, ⟨kt, rfl⟩, rfl⟩
  · repeat' ((fail_if_success (with_reducible show wpAny _ _ (PySem.call (Value.builtin "list.append") _) _ _ _)); first | walk1 | (k_unfold; (try dsimp only)))
    try dsimp only
    refine told_app F7 N7 (UT _) hz ?_
    intro h6 F6 N6
    try dsimp only
    k_steps
    try dsimp only
    have ht : toldT pl row = Str.ofString "set" := if_pos hlt
    exact ret (ls.set pl.toNat (tx, k9)) kt _ _ (by rw [List.map_set, hls]) (by assumption) (by rw [ht]; assumption)
  · repeat' ((fail_if_success (with_reducible show wpAny _ _ (PySem.call (Value.builtin "list.append") _) _ _ _)); first | walk1 | (k_unfold; (try dsimp only)))
    try dsimp only
    subst hLd
    refine told_app F7 N7 (UT _) hz ?_
    intro h6 F6 N6
    try dsimp only
    k_steps
    try dsimp only
    have ht : toldT pl row = Str.ofString "refused" := if_neg (by omega)
    exact ret ls kt _ _ (by rw [hls, List.set_eq_of_length_le hge]) (by assumption) (by rw [ht]; assumption)
theorem l_set3 (K0 : Below callerA base [] base) (X : Frag.In (Mine.hd.heap_39 w.params) base) (T : Top VW LO mean mg mb base) (S : Sta w.params a ra rc st) (p0 : 0 ≤ pl) (p5 : pl < 5) (hv : ValOf vl tx) {vT : List Value} {nT n : Nat} {oU o1 o2 o3 e1 e2 : Obj} {ls : List (Str × Tok)} (row : List Str) (hr : OkRow row) (hls : ls.map (·.1) = row) (hz : vT.length ≤ 1000)
    (F : Fr base L s.heap (turnM a rest nb ki 2 pl tn tk tw tp vl)) (N : News base L s.heap (st ++ muL a (listOf vT.toArray nT) oU o1 o2 o3 e1 e2 (listOf (strValues ls).toArray n)))
    (ret : ∀ ls' (kt : Tok) h' tk', ls'.map (·.1) = row.set pl.toNat tx → Fr base L h' (turnM a rest nb ki 2 pl tn tk tw tp vl) → News base L h' (st ++ muL a (listOf (vT ++ [Value.str (toldT pl row) kt]).toArray (nT + 1)) oU o1 o2 o3 e1 e2 (listOf (strValues ls').toArray n)) → Q .next { s with heap := h', toks := tk' }) :
    wpAny (model PG w) (lawAr L fa cd) (execs ((loopBody.drop 3).take 1) (lawEnv L fa cd)) Q E s := by
  refine fillit _ ?_
  k_fill
  dsimp only [lawAr, lawEnv, loopBody, lawBody, lawScope, lawDef, PySem.Challenge.pw_ez0283_01, List.getLast?, List.getLast, List.getElem?_cons_succ, List.getElem?_cons_zero, List.take, List.drop]
  obtain ⟨nM, hM⟩ := S.hM
  have hx := S.hx3
  obtain ⟨k1, v1, k2, v2, k3, hd⟩ := S.hd3
  have U1 := stMud3 S.dif S.off (oT := listOf vT.toArray nT) (oU := oU) (o1 := o1) (o2 := o2) (o3 := o3) (e1 := e1) (e2 := e2) (e3 := (listOf (strValues ls).toArray n))
  have UT := fun o => stMuT S.dif S.off (oT := listOf vT.toArray nT) (oU := oU) (o1 := o1) (o2 := o2) (o3 := o3) (e1 := e1) (e2 := e2) (e3 := o)
  have hv' := hv.handed
  obtain ⟨Ld, hLd⟩ : ∃ Ld, st ++ muL a (listOf vT.toArray nT) oU o1 o2 o3 e1 e2 (listOf (strValues ls).toArray n) = Ld := ⟨_, rfl⟩
  rw [hLd] at N U1
  have hT : (a.T, listOf vT.toArray nT) ∈ Ld := hLd ▸ updF_mem (UT _)
  have sub : ∀ p ∈ st, p ∈ Ld := fun p hp => hLd ▸ List.mem_append_left _ hp
  delta turnM lawM at F ret
  repeat' ((fail_if_success (with_reducible show wpAny _ _ (subscriptTail _ _ (Value.ref a.M) _) _ _ _)); first | walk1 | (k_unfold; (try dsimp only)))
  try dsimp only
  refine item_listV (x := .ref a.x3) (News.isList N (sub _ hM)) (by decide) (by decide) rfl ?_
  repeat' ((fail_if_success (with_reducible show wpAny _ _ (PySem.call (Value.ref 283) _) _ _ _)); first | walk1 | (k_unfold; (try dsimp only)))
  try dsimp only
  ktr_call (t_wpl w) 0
  · trivial
  intro h9 tk9 nw9 v9 F9 N9 l9 ⟨ln, lsn, nn, e1, hn, e3⟩
  subst e1 e3
  simp only [List.cons_append, List.nil_append] at N9
  try dsimp only
  repeat' ((fail_if_success (with_reducible show wpAny _ _ (subscriptTail _ _ (Value.ref ln) _) _ _ _)); first | walk1 | (k_unfold; (try dsimp only)))
  try dsimp only
  obtain ⟨nm, tnm, hnm1, hnm2⟩ := strs_at hn (i := pl.toNat) (by show _ < 5; omega)
  rw [Int.toNat_natCast] at hnm1
  have hnm3 : namesW[pl.toNat]? = some nm := by
    have hl : pl.toNat < namesW.length := by show _ < 5; omega
    rw [List.getD_eq_getElem?_getD, List.getElem?_eq_getElem hl] at hnm2
    rw [List.getElem?_eq_getElem hl]
    exact congrArg some hnm2
  refine item_listV (x := .str nm tnm) (News.isList N9 (List.mem_cons_self ..)) p0 (by omega) hnm1 ?_
  have N8 : News base L h9 Ld := news_drop N9 fun p hp => .tail _ hp
  clear N9
  repeat' ((fail_if_success (with_reducible show wpAny _ _ (PySem.call (Value.ref 329) _) _ _ _)); first | walk1 | (k_unfold; (try dsimp only)))
  try dsimp only
  refine wpAny_call ?_
  k_dflt (refine' cts_use (t_setW w a.x3 a.d3 a.dx3 k1 v1 k2 v2 k3 tnm tnm ls n (fun o => st ++ muL a (listOf vT.toArray nT) oU o1 o2 o3 e1 e2 o) row hr hls nm pl.toNat hnm3 vl tx hv) (news := Ld) ?k1z3 ?k2z3 ?k3z3 ?k4z3 ?k5z3 ?kKz3 ?kdz3 ?kuz3 ?kXz3 ?kTz3 ?kpz3 ?_; (case k1z3 => k_asm); (case k2z3 => k_asm); (case k3z3 => k_asm); (case k4z3 => k_asm); (case k5z3 => k_asm); (case kXz3 => k_asm); (case kTz3 => k_asm); (case kKz3 => first | assumption | exact rfl); (case kdz3 => ktr_room); (case kuz3 => ktr_units))
  · exact ⟨⟨sub _ hx, sub _ hd⟩, U1⟩
  intro h7 tk7 nw7 v7 F7 N7 hpost
  try dsimp only
  rcases hpost with ⟨hlt, ⟨kt, rfl⟩, k9, rfl⟩ | ⟨hge, ⟨kt, rfl⟩, rfl⟩
  · repeat' ((fail_if_success (with_reducible show wpAny _ _ (PySem.call (Value.builtin "list.append") _) _ _ _)); first | walk1 | (k_unfold; (try dsimp only)))
    try dsimp only
    refine told_app F7 N7 (UT _) hz ?_
    intro h6 F6 N6
    try dsimp only
    k_steps
    try dsimp only
    have ht : toldT pl row = Str.ofString "set" := if_pos hlt
    exact ret (ls.set pl.toNat (tx, k9)) kt _ _ (by rw [List.map_set, hls]) (by assumption) (by rw [ht]; assumption)
  · repeat' ((fail_if_success (with_reducible show wpAny _ _ (PySem.call (Value.builtin "list.append") _) _ _ _)); first | walk1 | (k_unfold; (try dsimp only)))
    try dsimp only
    subst hLd
    refine told_app F7 N7 (UT _) hz ?_
    intro h6 F6 N6
    try dsimp only
    k_steps
    try dsimp only
    have ht : toldT pl row = Str.ofString "refused" := if_neg (by omega)
    exact ret ls kt _ _ (by rw [hls, List.set_eq_of_length_le hge]) (by assumption) (by rw [ht]; assumption)
end

end Mine
end
section
open PySem PySem.W PyProof.Rows PySem.Calls Builtin Builtin.ObjectAttr
namespace Mine
set_option maxRecDepth 100000
set_option maxHeartbeats 8000000
local macro_rules | `(tactic| walk_at "getAttr ref") => `(tactic| (k_here; k_dflt (refine' hk_bound ?k1 ?k2 ?k3 ?k4 ?k5 ?kh ?k6 ?k7 ?k8 ?k9 ?k10 ?k11 ?k12 ?_; (case k4 => k_inst); (case k1 => k_asm); (case k2 => k_asm); (case k3 => k_asm); (case k5 => k_is); (case kh => k_is); (case k6 => k_is); (case k7 => k_is); (case k8 => k_is); (case k9 => k_is); (case k10 => k_is); (case k11 => decide +kernel); (case k12 => k_get); k_whole); intro q' h' F' N' l1; (try k_lt l1); (try k_sweep)))
local macro_rules | `(tactic| walk_at "getAttr ref") => `(tactic| (k_here; k_dflt (refine' hk_own ?k1 ?k2 ?k3 ?k4 ?k5 ?k6 ?k7 ?k8 ?k9 ?_; (case k1 => k_asm); (case k2 => k_asm); (case k3 => k_inst); (case k4 => k_is); (case k5 => k_is); (case k6 => k_is); (case k7 => k_is); (case k8 => k_get); (case k9 => k_handed); k_whole)))
local macro_rules | `(tactic| walk_at "getMethod ref") => `(tactic| (k_here; k_dflt (refine' hk_method ?k1 ?k2 ?k3 ?k4 ?k5 ?_; (case k1 => k_asm); (case k2 => k_asm); (case k3 => k_inst); (case k4 => k_is); (case k5 => k_is); k_whole)))
local macro_rules | `(tactic| ktr_enter) => `(tactic| (refine' code_def ?k1 ?k2 ?k3 ?k4 ?k5 ?kA ?kF ?kK ?k6 ?k7 ?k8 ?k9 ?kB ?_ ?c2 ?c3 ?c4 ?c5; (case kA => exact rfl); (case kF => exact rfl); (case kK => first | assumption | exact rfl); (case k1 => k_asm); (case k2 => k_asm); (case k3 => k_asm); (case k4 => k_asm); (case k5 => k_asm); (case k6 => k_is); (case k7 => k_is); (case k8 => ktr_room); (case k9 => first | exact BindsTo.of_eq rfl | exact binds_K (by k_in) rfl (by k_is) rfl rfl rfl); (case c5 => decide); (case kB => exact locs rfl); (case c2 => exact rfl); (case c3 => exact rfl); (case c4 => exact rfl); k_whole; intro g' L' h' FG' F' N' B' X' T'; (try dsimp only); (try k_lift B'); (try k_fold)))
local macro_rules | `(tactic| ktr_call $c:term 0) => `(tactic| (refine wpAny_call ?_; k_dflt (refine' ct_use $c ?k1 ?k2 ?k3 ?k4 ?k5 ?kK ?kd ?ku ?kp ?_; (case k1 => k_asm); (case k2 => k_asm); (case k3 => k_asm); (case k4 => k_asm); (case k5 => k_asm); (case kK => first | assumption | exact rfl); (case kd => ktr_room); (case ku => ktr_units))))
local macro_rules | `(tactic| ktr_call $c:term 1) => `(tactic| (refine' call_meth ?N ?q ?_; (case N => k_asm); (case q => k_mem); k_dflt (refine' ct_use $c ?k1 ?k2 ?k3 ?k4 ?k5 ?kK ?kd ?ku ?kp ?_; (case k1 => k_asm); (case k2 => k_asm); (case k3 => k_asm); (case k4 => k_asm); (case k5 => k_asm); (case kK => first | assumption | exact rfl); (case kd => ktr_room); (case ku => ktr_units))))
local macro_rules | `(tactic| k_mem) => `(tactic| first | assumption | exact List.mem_cons_self .. | (refine' List.mem_cons_of_mem _ ?_; k_mem))
local macro_rules | `(tactic| kst_same) => `(tactic| (intro z h1 h2 h3; (simp only [List.forall_mem_cons, List.not_mem_nil, false_implies, implies_true, and_true, ne_eq] at h2); (simp only [List.contains_cons, List.contains_nil, Bool.or_false, Bool.or_eq_false_iff, beq_eq_false_iff_ne, ne_eq] at h3); (simp [kstB, h1, h2, h3]; done)))
local macro_rules | `(tactic| kby_size) => `(tactic| (rw [PySem.sizeLine_eq]; omega))
local macro_rules | `(tactic| walk_at "call builtin:str.lstrip") => `(tactic| (k_here; (refine KXw.lstrip (by assumption) (by kby_size) ?_); intro _ _))
local macro_rules | `(tactic| walk_at "call builtin:str.strip") => `(tactic| (k_here; (refine KXw.strip (by assumption) (by kby_size) ?_); intro _ _))
local macro_rules | `(tactic| walk_at "call builtin:str.strip") => `(tactic| (k_here; (refine KXw.stripChars (by assumption) (by kby_size) ?_); intro _ _))
local macro_rules | `(tactic| walk_at "call builtin:str.upper") => `(tactic| (k_here; (refine KXw.upper (by assumption) (by decide +kernel) ?_); intro _ _))
local macro_rules | `(tactic| walk_at "call builtin:str.partition") => `(tactic| (k_here; (refine KXpa.partition (by k_asm) (by k_asm) (by decide) (by assumption) (by assumption) (by assumption) (by kby_size) ?_); intro D' _ _ _ _ _ F' N' l1; (try k_lt l1)))
local macro_rules | `(tactic| walk_at "call builtin:str.split") => `(tactic| (k_here; (refine KSpl.split1 (by k_asm) (by k_asm) (by decide) ?_ (by kby_size)); intro D' _ _ _ _ _ F' N' l1; (try k_lt l1)))
--FROM MM2
section
variable {w : World} {base : Heap} {mean : ExcName → Option Value} {mg mb : Str → Option Value} {L fa : Addr} {cd : Value} {s : Shared} {Q : Flow → Shared → Prop} {E : Value → Shared → Prop} {rest : Str → Option Value} {a : Ads} {ra rc : List Str} {st : Led} {nb ki pl : Int} {tn tk tw tp : Tok} {vl : Value} {tx : Str}
theorem set_strs' {ls : List (Str × Tok)} {k : Int} {tx : Str} {tok : Tok} (hi : k.toNat < ls.length) : ki_setL (strValues ls).toArray.toList k.toNat (.str tx tok) = some (strValues (ls.set k.toNat (tx, tok))) := set_strs hi
theorem l_row1 (K0 : Below callerA base [] base) (X : Frag.In (Mine.hd.heap_39 w.params) base) (T : Top VW LO mean mg mb base) (S : Sta w.params a ra rc st) (p0 : 0 ≤ pl) (p5 : pl < 8) (hv : ValOf vl tx) {vU : List Value} {nU n : Nat} {oT e1 e2 e3 o2 o3 : Obj} {ls : List (Str × Tok)} (row : List Str) (hr : OkRow row) (hls : ls.map (·.1) = row) (hz : vU.length ≤ 1000)
    (F : Fr base L s.heap (turnM a rest nb ki 0 pl tn tk tw tp vl)) (N : News base L s.heap (st ++ muL a oT (listOf vU.toArray nU) (listOf (strValues ls).toArray n) o2 o3 e1 e2 e3))
    (ret : ∀ ls' (kt : Tok) h' tk', ls'.map (·.1) = row.set pl.toNat tx → Fr base L h' (turnM a rest nb ki 0 pl tn tk tw tp vl) → News base L h' (st ++ muL a oT (listOf (vU ++ [Value.str (toldT pl row) kt]).toArray (nU + 1)) (listOf (strValues ls').toArray n) o2 o3 e1 e2 e3) → Q .next { s with heap := h', toks := tk' }) :
    wpAny (model PG w) (lawAr L fa cd) (execs ((loopBody.drop 4).take 1) (lawEnv L fa cd)) Q E s := by
  refine fillit _ ?_
  k_fill
  dsimp only [lawAr, lawEnv, loopBody, lawBody, lawScope, lawDef, PySem.Challenge.pw_ez0283_01, List.getLast?, List.getLast, List.getElem?_cons_succ, List.getElem?_cons_zero, List.take, List.drop]
  obtain ⟨nR, hR⟩ := S.hR
  have U1 := stMur1 S.dif S.off (oT := oT) (oU := listOf vU.toArray nU) (o1 := (listOf (strValues ls).toArray n)) (o2 := o2) (o3 := o3) (e1 := e1) (e2 := e2) (e3 := e3)
  have UU := fun o => stMuU S.dif S.off (oT := oT) (oU := listOf vU.toArray nU) (o1 := o) (o2 := o2) (o3 := o3) (e1 := e1) (e2 := e2) (e3 := e3)
  have hv' := hv.handed
  obtain ⟨Ld, hLd⟩ : ∃ Ld, st ++ muL a oT (listOf vU.toArray nU) (listOf (strValues ls).toArray n) o2 o3 e1 e2 e3 = Ld := ⟨_, rfl⟩
  rw [hLd] at N U1
  have hU : (a.U, listOf vU.toArray nU) ∈ Ld := hLd ▸ updF_mem (UU _)
  have hW := updF_mem U1
  have sub : ∀ p ∈ st, p ∈ Ld := fun p hp => hLd ▸ List.mem_append_left _ hp
  have hrl : (strValues ls).length = row.length := by rw [strValues_len, ← hls, List.length_map]
  have hll : ls.length = row.length := by rw [← hls, List.length_map]
  have hfew := hr.few
  delta turnM lawM at F ret
  repeat' ((fail_if_success (with_reducible show wpAny _ _ (subscriptTail _ _ (Value.ref a.R) _) _ _ _)); first | walk1 | (k_unfold; (try dsimp only)))
  try dsimp only
  refine item_listV (x := .ref a.r1) (News.isList N (sub _ hR)) (by decide) (by decide) rfl ?_
  repeat' ((fail_if_success (with_reducible show wpAny _ _ (PySem.call (Value.builtin "len") _) _ _ _)); first | walk1 | (k_unfold; (try dsimp only)))
  try dsimp only
  refine kst_len (us := strValues ls) (k := row.length) N hW hrl (by omega) ?_
  repeat' ((fail_if_success (with_reducible show wpAny _ _ (PySem.call (Value.type "str") _) _ _ _)); (fail_if_success (with_reducible show wpAny _ _ (PySem.call (Value.builtin "list.append") _) _ _ _)); first | walk1 | (k_unfold; (try dsimp only)))
  try dsimp only
  · have hlt : pl.toNat < row.length := by omega
    have ht : toldT pl row = Str.ofString "set" := if_pos hlt
    refine str_val hv ?_
    intro t9v k9v
    try dsimp only
    repeat' ((fail_if_success (with_reducible show wpAny _ _ (subscriptTail _ _ (Value.ref a.R) _) _ _ _)); first | walk1 | (k_unfold; (try dsimp only)))
    try dsimp only
    refine item_listV (x := .ref a.r1) (News.isList N (sub _ hR)) (by decide) (by decide) rfl ?_
    repeat' ((fail_if_success (with_reducible show wpAny _ _ (PySem.setItem (Value.ref _) _ _) _ _ _)); first | walk1 | (k_unfold; (try dsimp only)))
    try dsimp only
    rename News base L _ _ => N9
    rename Fr base L _ _ => F9
    refine ki_set (its := (strValues ls).toArray) (n := n) F9 N9 p0 (by omega) (set_strs' (by omega)) (updF_upd U1 _) ?_
    intro h5 F5 N5
    repeat' ((fail_if_success (with_reducible show wpAny _ _ (PySem.call (Value.builtin "list.append") _) _ _ _)); first | walk1 | (k_unfold; (try dsimp only)))
    try dsimp only
    refine told_app F5 N5 (UU _) hz ?_
    intro h6 F6 N6
    try dsimp only
    k_steps
    try dsimp only
    exact ret (ls.set pl.toNat (_, _)) _ _ _ (by rw [List.map_set, hls]) (by assumption) (by rw [ht]; assumption)
  · have ht : toldT pl row = Str.ofString "refused" := if_neg (by omega)
    subst hLd
    refine told_app F N (UU _) hz ?_
    intro h6 F6 N6
    try dsimp only
    k_steps
    try dsimp only
    exact ret ls _ _ _ (by rw [hls, List.set_eq_of_length_le (by omega)]) (by assumption) (by rw [ht]; assumption)
theorem l_row2 (K0 : Below callerA base [] base) (X : Frag.In (Mine.hd.heap_39 w.params) base) (T : Top VW LO mean mg mb base) (S : Sta w.params a ra rc st) (p0 : 0 ≤ pl) (p5 : pl < 8) (hv : ValOf vl tx) {vU : List Value} {nU n : Nat} {oT e1 e2 e3 o1 o3 : Obj} {ls : List (Str × Tok)} (row : List Str) (hr : OkRow row) (hls : ls.map (·.1) = row) (hz : vU.length ≤ 1000)
    (F : Fr base L s.heap (turnM a rest nb ki 1 pl tn tk tw tp vl)) (N : News base L s.heap (st ++ muL a oT (listOf vU.toArray nU) o1 (listOf (strValues ls).toArray n) o3 e1 e2 e3))
    (ret : ∀ ls' (kt : Tok) h' tk', ls'.map (·.1) = row.set pl.toNat tx → Fr base L h' (turnM a rest nb ki 1 pl tn tk tw tp vl) → News base L h' (st ++ muL a oT (listOf (vU ++ [Value.str (toldT pl row) kt]).toArray (nU + 1)) o1 (listOf (strValues ls').toArray n) o3 e1 e2 e3) → Q .next { s with heap := h', toks := tk' }) :
    wpAny (model PG w) (lawAr L fa cd) (execs ((loopBody.drop 4).take 1) (lawEnv L fa cd)) Q E s := by
  refine fillit _ ?_
  k_fill
  dsimp only [lawAr, lawEnv, loopBody, lawBody, lawScope, lawDef, PySem.Challenge.pw_ez0283_01, List.getLast?, List.getLast, List.getElem?_cons_succ, List.getElem?_cons_zero, List.take, List.drop]
  obtain ⟨nR, hR⟩ := S.hR
  have U1 := stMur2 S.dif S.off (oT := oT) (oU := listOf vU.toArray nU) (o1 := o1) (o2 := (listOf (strValues ls).toArray n)) (o3 := o3) (e1 := e1) (e2 := e2) (e3 := e3)
  have UU := fun o => stMuU S.dif S.off (oT := oT) (oU := listOf vU.toArray nU) (o1 := o1) (o2 := o) (o3 := o3) (e1 := e1) (e2 := e2) (e3 := e3)
  have hv' := hv.handed
  obtain ⟨Ld, hLd⟩ : ∃ Ld, st ++ muL a oT (listOf vU.toArray nU) o1 (listOf (strValues ls).toArray n) o3 e1 e2 e3 = Ld := ⟨_, rfl⟩
  rw [hLd] at N U1
  have hU : (a.U, listOf vU.toArray nU) ∈ Ld := hLd ▸ updF_mem (UU _)
  have hW := updF_mem U1
  have sub : ∀ p ∈ st, p ∈ Ld := fun p hp => hLd ▸ List.mem_append_left _ hp
  have hrl : (strValues ls).length = row.length := by rw [strValues_len, ← hls, List.length_map]
  have hll : ls.length = row.length := by rw [← hls, List.length_map]
  have hfew := hr.few
  delta turnM lawM at F ret
  repeat' ((fail_if_success (with_reducible show wpAny _ _ (subscriptTail _ _ (Value.ref a.R) _) _ _ _)); first | walk1 | (k_unfold; (try dsimp only)))
  try dsimp only
  refine item_listV (x := .ref a.r2) (News.isList N (sub _ hR)) (by decide) (by decide) rfl ?_
  repeat' ((fail_if_success (with_reducible show wpAny _ _ (PySem.call (Value.builtin "len") _) _ _ _)); first | walk1 | (k_unfold; (try dsimp only)))
  try dsimp only
  refine kst_len (us := strValues ls) (k := row.length) N hW hrl (by omega) ?_
  repeat' ((fail_if_success (with_reducible show wpAny _ _ (PySem.call (Value.type "str") _) _ _ _)); (fail_if_success (with_reducible show wpAny _ _ (PySem.call (Value.builtin "list.append") _) _ _ _)); first | walk1 | (k_unfold; (try dsimp only)))
  try dsimp only
  · have hlt : pl.toNat < row.length := by omega
    have ht : toldT pl row = Str.ofString "set" := if_pos hlt
    refine str_val hv ?_
    intro t9v k9v
    try dsimp only
    repeat' ((fail_if_success (with_reducible show wpAny _ _ (subscriptTail _ _ (Value.ref a.R) _) _ _ _)); first | walk1 | (k_unfold; (try dsimp only)))
    try dsimp only
    refine item_listV (x := .ref a.r2) (News.isList N (sub _ hR)) (by decide) (by decide) rfl ?_
    repeat' ((fail_if_success (with_reducible show wpAny _ _ (PySem.setItem (Value.ref _) _ _) _ _ _)); first | walk1 | (k_unfold; (try dsimp only)))
    try dsimp only
    rename News base L _ _ => N9
    rename Fr base L _ _ => F9
    refine ki_set (its := (strValues ls).toArray) (n := n) F9 N9 p0 (by omega) (set_strs' (by omega)) (updF_upd U1 _) ?_
    intro h5 F5 N5
    repeat' ((fail_if_success (with_reducible show wpAny _ _ (PySem.call (Value.builtin "list.append") _) _ _ _)); first | walk1 | (k_unfold; (try dsimp only)))
    try dsimp only
    refine told_app F5 N5 (UU _) hz ?_
    intro h6 F6 N6
    try dsimp only
    k_steps
    try dsimp only
    exact ret (ls.set pl.toNat (_, _)) _ _ _ (by rw [List.map_set, hls]) (by assumption) (by rw [ht]; assumption)
  · have ht : toldT pl row = Str.ofString "refused" := if_neg (by omega)
    subst hLd
    refine told_app F N (UU _) hz ?_
    intro h6 F6 N6
    try dsimp only
    k_steps
    try dsimp only
    exact ret ls _ _ _ (by rw [hls, List.set_eq_of_length_le (by omega)]) (by assumption) (by rw [ht]; assumption)
theorem l_row3 (K0 : Below callerA base [] base) (X : Frag.In (Mine.hd.heap_39 w.params) base) (T : Top VW LO mean mg mb base) (S : Sta w.params a ra rc st) (p0 : 0 ≤ pl) (p5 : pl < 8) (hv : ValOf vl tx) {vU : List Value} {nU n : Nat} {oT e1 e2 e3 o1 o2 : Obj} {ls : List (Str × Tok)} (row : List Str) (hr : OkRow row) (hls : ls.map (·.1) = row) (hz : vU.length ≤ 1000)
    (F : Fr base L s.heap (turnM a rest nb ki 2 pl tn tk tw tp vl)) (N : News base L s.heap (st ++ muL a oT (listOf vU.toArray nU) o1 o2 (listOf (strValues ls).toArray n) e1 e2 e3))
    (ret : ∀ ls' (kt : Tok) h' tk', ls'.map (·.1) = row.set pl.toNat tx → Fr base L h' (turnM a rest nb ki 2 pl tn tk tw tp vl) → News base L h' (st ++ muL a oT (listOf (vU ++ [Value.str (toldT pl row) kt]).toArray (nU + 1)) o1 o2 (listOf (strValues ls').toArray n) e1 e2 e3) → Q .next { s with heap := h', toks := tk' }) :
    wpAny (model PG w) (lawAr L fa cd) (execs ((loopBody.drop 4).take 1) (lawEnv L fa cd)) Q E s := by
  refine fillit _ ?_
  k_fill
  dsimp only [lawAr, lawEnv, loopBody, lawBody, lawScope, lawDef, PySem.Challenge.pw_ez0283_01, List.getLast?, List.getLast, List.getElem?_cons_succ, List.getElem?_cons_zero, List.take, List.drop]
  obtain ⟨nR, hR⟩ := S.hR
  have U1 := stMur3 S.dif S.off (oT := oT) (oU := listOf vU.toArray nU) (o1 := o1) (o2 := o2) (o3 := (listOf (strValues ls).toArray n)) (e1 := e1) (e2 := e2) (e3 := e3)
  have UU := fun o => stMuU S.dif S.off (oT := oT) (oU := listOf vU.toArray nU) (o1 := o1) (o2 := o2) (o3 := o) (e1 := e1) (e2 := e2) (e3 := e3)
  have hv' := hv.handed
  obtain ⟨Ld, hLd⟩ : ∃ Ld, st ++ muL a oT (listOf vU.toArray nU) o1 o2 (listOf (strValues ls).toArray n) e1 e2 e3 = Ld := ⟨_, rfl⟩
  rw [hLd] at N U1
  have hU : (a.U, listOf vU.toArray nU) ∈ Ld := hLd ▸ updF_mem (UU _)
  have hW := updF_mem U1
  have sub : ∀ p ∈ st, p ∈ Ld := fun p hp => hLd ▸ List.mem_append_left _ hp
  have hrl : (strValues ls).length = row.length := by rw [strValues_len, ← hls, List.length_map]
  have hll : ls.length = row.length := by rw [← hls, List.length_map]
  have hfew := hr.few
  delta turnM lawM at F ret
  repeat' ((fail_if_success (with_reducible show wpAny _ _ (subscriptTail _ _ (Value.ref a.R) _) _ _ _)); first | walk1 | (k_unfold; (try dsimp only)))
  try dsimp only
  refine item_listV (x := .ref a.r3) (News.isList N (sub _ hR)) (by decide) (by decide) rfl ?_
  repeat' ((fail_if_success (with_reducible show wpAny _ _ (PySem.call (Value.builtin "len") _) _ _ _)); first | walk1 | (k_unfold; (try dsimp only)))
  try dsimp only
  refine kst_len (us := strValues ls) (k := row.length) N hW hrl (by omega) ?_
  repeat' ((fail_if_success (with_reducible show wpAny _ _ (PySem.call (Value.type "str") _) _ _ _)); (fail_if_success (with_reducible show wpAny _ _ (PySem.call (Value.builtin "list.append") _) _ _ _)); first | walk1 | (k_unfold; (try dsimp only)))
  try dsimp only
  · have hlt : pl.toNat < row.length := by omega
    have ht : toldT pl row = Str.ofString "set" := if_pos hlt
    refine str_val hv ?_
    intro t9v k9v
    try dsimp only
    repeat' ((fail_if_success (with_reducible show wpAny _ _ (subscriptTail _ _ (Value.ref a.R) _) _ _ _)); first | walk1 | (k_unfold; (try dsimp only)))
    try dsimp only
    refine item_listV (x := .ref a.r3) (News.isList N (sub _ hR)) (by decide) (by decide) rfl ?_
    repeat' ((fail_if_success (with_reducible show wpAny _ _ (PySem.setItem (Value.ref _) _ _) _ _ _)); first | walk1 | (k_unfold; (try dsimp only)))
    try dsimp only
    rename News base L _ _ => N9
    rename Fr base L _ _ => F9
    refine ki_set (its := (strValues ls).toArray) (n := n) F9 N9 p0 (by omega) (set_strs' (by omega)) (updF_upd U1 _) ?_
    intro h5 F5 N5
    repeat' ((fail_if_success (with_reducible show wpAny _ _ (PySem.call (Value.builtin "list.append") _) _ _ _)); first | walk1 | (k_unfold; (try dsimp only)))
    try dsimp only
    refine told_app F5 N5 (UU _) hz ?_
    intro h6 F6 N6
    try dsimp only
    k_steps
    try dsimp only
    exact ret (ls.set pl.toNat (_, _)) _ _ _ (by rw [List.map_set, hls]) (by assumption) (by rw [ht]; assumption)
  · have ht : toldT pl row = Str.ofString "refused" := if_neg (by omega)
    subst hLd
    refine told_app F N (UU _) hz ?_
    intro h6 F6 N6
    try dsimp only
    k_steps
    try dsimp only
    exact ret ls _ _ _ (by rw [hls, List.set_eq_of_length_le (by omega)]) (by assumption) (by rw [ht]; assumption)
end

end Mine
end
section
open PySem PySem.W PyProof.Rows PySem.Calls Builtin Builtin.ObjectAttr
namespace Mine
set_option maxRecDepth 100000
set_option maxHeartbeats 8000000
local macro_rules | `(tactic| walk_at "getAttr ref") => `(tactic| (k_here; k_dflt (refine' hk_bound ?k1 ?k2 ?k3 ?k4 ?k5 ?kh ?k6 ?k7 ?k8 ?k9 ?k10 ?k11 ?k12 ?_; (case k4 => k_inst); (case k1 => k_asm); (case k2 => k_asm); (case k3 => k_asm); (case k5 => k_is); (case kh => k_is); (case k6 => k_is); (case k7 => k_is); (case k8 => k_is); (case k9 => k_is); (case k10 => k_is); (case k11 => decide +kernel); (case k12 => k_get); k_whole); intro q' h' F' N' l1; (try k_lt l1); (try k_sweep)))
local macro_rules | `(tactic| walk_at "getAttr ref") => `(tactic| (k_here; k_dflt (refine' hk_own ?k1 ?k2 ?k3 ?k4 ?k5 ?k6 ?k7 ?k8 ?k9 ?_; (case k1 => k_asm); (case k2 => k_asm); (case k3 => k_inst); (case k4 => k_is); (case k5 => k_is); (case k6 => k_is); (case k7 => k_is); (case k8 => k_get); (case k9 => k_handed); k_whole)))
local macro_rules | `(tactic| walk_at "getMethod ref") => `(tactic| (k_here; k_dflt (refine' hk_method ?k1 ?k2 ?k3 ?k4 ?k5 ?_; (case k1 => k_asm); (case k2 => k_asm); (case k3 => k_inst); (case k4 => k_is); (case k5 => k_is); k_whole)))
local macro_rules | `(tactic| ktr_enter) => `(tactic| (refine' code_def ?k1 ?k2 ?k3 ?k4 ?k5 ?kA ?kF ?kK ?k6 ?k7 ?k8 ?k9 ?kB ?_ ?c2 ?c3 ?c4 ?c5; (case kA => exact rfl); (case kF => exact rfl); (case kK => first | assumption | exact rfl); (case k1 => k_asm); (case k2 => k_asm); (case k3 => k_asm); (case k4 => k_asm); (case k5 => k_asm); (case k6 => k_is); (case k7 => k_is); (case k8 => ktr_room); (case k9 => first | exact BindsTo.of_eq rfl | exact binds_K (by k_in) rfl (by k_is) rfl rfl rfl); (case c5 => decide); (case kB => exact locs rfl); (case c2 => exact rfl); (case c3 => exact rfl); (case c4 => exact rfl); k_whole; intro g' L' h' FG' F' N' B' X' T'; (try dsimp only); (try k_lift B'); (try k_fold)))
local macro_rules | `(tactic| ktr_call $c:term 0) => `(tactic| (refine wpAny_call ?_; k_dflt (refine' ct_use $c ?k1 ?k2 ?k3 ?k4 ?k5 ?kK ?kd ?ku ?kp ?_; (case k1 => k_asm); (case k2 => k_asm); (case k3 => k_asm); (case k4 => k_asm); (case k5 => k_asm); (case kK => first | assumption | exact rfl); (case kd => ktr_room); (case ku => ktr_units))))
local macro_rules | `(tactic| ktr_call $c:term 1) => `(tactic| (refine' call_meth ?N ?q ?_; (case N => k_asm); (case q => k_mem); k_dflt (refine' ct_use $c ?k1 ?k2 ?k3 ?k4 ?k5 ?kK ?kd ?ku ?kp ?_; (case k1 => k_asm); (case k2 => k_asm); (case k3 => k_asm); (case k4 => k_asm); (case k5 => k_asm); (case kK => first | assumption | exact rfl); (case kd => ktr_room); (case ku => ktr_units))))
local macro_rules | `(tactic| k_mem) => `(tactic| first | assumption | exact List.mem_cons_self .. | (refine' List.mem_cons_of_mem _ ?_; k_mem))
local macro_rules | `(tactic| kst_same) => `(tactic| (intro z h1 h2 h3; (simp only [List.forall_mem_cons, List.not_mem_nil, false_implies, implies_true, and_true, ne_eq] at h2); (simp only [List.contains_cons, List.contains_nil, Bool.or_false, Bool.or_eq_false_iff, beq_eq_false_iff_ne, ne_eq] at h3); (simp [kstB, h1, h2, h3]; done)))
local macro_rules | `(tactic| kby_size) => `(tactic| (rw [PySem.sizeLine_eq]; omega))
local macro_rules | `(tactic| walk_at "call builtin:str.lstrip") => `(tactic| (k_here; (refine KXw.lstrip (by assumption) (by kby_size) ?_); intro _ _))
local macro_rules | `(tactic| walk_at "call builtin:str.strip") => `(tactic| (k_here; (refine KXw.strip (by assumption) (by kby_size) ?_); intro _ _))
local macro_rules | `(tactic| walk_at "call builtin:str.strip") => `(tactic| (k_here; (refine KXw.stripChars (by assumption) (by kby_size) ?_); intro _ _))
local macro_rules | `(tactic| walk_at "call builtin:str.upper") => `(tactic| (k_here; (refine KXw.upper (by assumption) (by decide +kernel) ?_); intro _ _))
local macro_rules | `(tactic| walk_at "call builtin:str.partition") => `(tactic| (k_here; (refine KXpa.partition (by k_asm) (by k_asm) (by decide) (by assumption) (by assumption) (by assumption) (by kby_size) ?_); intro D' _ _ _ _ _ F' N' l1; (try k_lt l1)))
local macro_rules | `(tactic| walk_at "call builtin:str.split") => `(tactic| (k_here; (refine KSpl.split1 (by k_asm) (by k_asm) (by decide) ?_ (by kby_size)); intro D' _ _ _ _ _ F' N' l1; (try k_lt l1)))
local macro_rules | `(tactic| walk_at "call type:list") => `(tactic| (k_here; (with_reducible show wpAny _ _ (call (Value.type _) [Value.ref _]) _ _ _); (refine' list_copyK ?k1 ?k2 ?k3 ?_ ?z; (case k1 => k_asm); (case k2 => k_asm); (case k3 => exact News.isList (by k_asm) (by k_mem)); (case z => (rw [List.size_toArray, strValues_len, PySem.sizeLine_eq]; omega)); k_whole); intro D' c' h' F' N' l1; (try k_lt l1); (try k_sweep)))
--FROM MM3
def snapBody : List PySem.Stmt := match loopBody[5]? with
  | some (PySem.Stmt.If _ b _ _) => b
  | _ => []
theorem snapBody_len : snapBody.length = 2 := rfl
theorem compEnd_new {h₀ h' : Heap} {L I C D D' : Addr} {m : Str → Option Value} {s₁ : Shared} {o oI oC oD : Obj} {S : Led → Prop} {rst : Value → Led → Prop} {y : Value} {tk : Nat} {R : Led} (F : Fr h₀ L h' m) (N : News h₀ L h' ((D', o) :: (I, oI) :: (C, oC) :: (D, oD) :: R))
    (l : AllLt D' ((I, oI) :: (C, oC) :: (D, oD) :: R)) (off : LCg.Off3 I C D R) (hS : S ((D', o) :: R)) (r : (∀ q ∈ R, q.1 ≠ D') → rst y ((D', o) :: R)) : LCg.CompEnd h₀ L m s₁ I oI C oC D oD S rst y { s₁ with heap := h', toks := tk } := by
  have l' := kst_ltOf l
  refine LCg.CompEnd.intro F N ((D', o) :: R) ?_ ⟨⟨Ne.symm (Nat.ne_of_lt (l' _ (.head _))), Ne.symm (Nat.ne_of_lt (l' _ (.tail _ (.head _)))), Ne.symm (Nat.ne_of_lt (l' _ (.tail _ (.tail _ (.head _)))))⟩, off⟩ hS (r fun q hq => Nat.ne_of_lt (l' q (.tail _ (.tail _ (.tail _ hq)))))
  intro p hp
  rcases List.mem_cons.mp hp with rfl | hp
  · exact .tail _ (.head _)
  rcases List.mem_cons.mp hp with rfl | hp
  · exact .tail _ (.tail _ (.head _))
  rcases List.mem_cons.mp hp with rfl | hp
  · exact .tail _ (.tail _ (.tail _ (.head _)))
  rcases List.mem_cons.mp hp with rfl | hp
  · exact .head _
  · exact .tail _ (.tail _ (.tail _ (.tail _ hp)))
def listD (r : List Str) : Dat := .list (r.map Dat.str)
def snapD (r1 r2 r3 ra rc : List Str) : Dat := .list [.list [listD r1, listD r2, listD r3], .list [listD ra, listD rc]]
theorem listD_in {news : Led} {D : Addr} {ls : List (Str × Tok)} {n : Nat} {r : List Str} (h : (D, listOf (strValues ls).toArray n) ∈ news) (e : ls.map (·.1) = r) : DatIn news (.ref D) (listD r) := .list h (e ▸ strs_dat ls)
theorem app_snap {w : World} {A : Around} {E : Value → Shared → Prop} {s : Shared} {h₀ : Heap} {L T : Addr} {m : Str → Option Value} {Ld : Led} {g : Obj → Led} {vs : List Value} {n : Nat} {x : Value} {Q : Value → Shared → Prop} (nw : Led) (F : Fr h₀ L s.heap m) (N : News h₀ L s.heap (nw ++ Ld)) (fr : ∀ p ∈ nw, ∀ q ∈ Ld, q.1 ≠ p.1)
    (U : UpdF T (listOf vs.toArray n) Ld g) (hsz : vs.length ≤ 1000) (h : ∀ h', Fr h₀ L h' m → News h₀ L h' (nw ++ g (listOf (vs ++ [x]).toArray (n + 1))) → (∀ p ∈ nw, ∀ q ∈ Ld, q.1 ≠ p.1) → Q .none { s with heap := h' }) : wpAny (model PG w) A (call (.builtin "list.append") [.ref T, x]) Q E s :=
  told_app F N (updF_app (fun p hp => Ne.symm (fr p hp _ (updF_mem U))) U) hsz fun h' F' N' => h h' F' N' fr
section
variable {w : World} {base : Heap} {mean : ExcName → Option Value} {mg mb : Str → Option Value} {L fa : Addr} {cd : Value} {s : Shared} {Q : Flow → Shared → Prop} {E : Value → Shared → Prop} {rest : Str → Option Value} {a : Ads} {ra rc : List Str} {st : Led} {nb ki pl : Int} {tn tk tw tp : Tok} {vl : Value} {tx : Str}
theorem l_toldA (K0 : Below callerA base [] base) (X : Frag.In (Mine.hd.heap_39 w.params) base) (T : Top VW LO mean mg mb base) (S : Sta w.params a ra rc st) {vT : List Value} {nT k1 k2 k3 : Nat} {oU o1 o2 o3 : Obj} {c1 c2 c3 : List (Str × Tok)} {r1 r2 r3 : List Str} (z1 : c1.length ≤ 9) (z2 : c2.length ≤ 9) (z3 : c3.length ≤ 9) (za : ra.length ≤ 9) (zc : rc.length ≤ 9) (y1 : c1.map (·.1) = r1) (y2 : c2.map (·.1) = r2) (y3 : c3.map (·.1) = r3) (hz : vT.length ≤ 1000)
    (F : Fr base L s.heap (lawM a rest)) (N : News base L s.heap (st ++ muL a (listOf vT.toArray nT) oU o1 o2 o3 (listOf (strValues c1).toArray k1) (listOf (strValues c2).toArray k2) (listOf (strValues c3).toArray k3)))
    (ret : ∀ nw v h' tk', Fr base L h' (lawM a rest) → News base L h' (nw ++ (st ++ muL a (listOf (vT ++ [v]).toArray (nT + 1)) oU o1 o2 o3 (listOf (strValues c1).toArray k1) (listOf (strValues c2).toArray k2) (listOf (strValues c3).toArray k3))) → (∀ p ∈ nw, ∀ q ∈ st ++ muL a (listOf vT.toArray nT) oU o1 o2 o3 (listOf (strValues c1).toArray k1) (listOf (strValues c2).toArray k2) (listOf (strValues c3).toArray k3), q.1 ≠ p.1) → DatIn nw v (snapD r1 r2 r3 ra rc) → Q .next { s with heap := h', toks := tk' }) :
    wpAny (model PG w) (lawAr L fa cd) (execs (snapBody.take 1) (lawEnv L fa cd)) Q E s := by
  refine fillit _ ?_
  k_fill
  dsimp only [lawAr, lawEnv, snapBody, loopBody, lawBody, lawScope, lawDef, PySem.Challenge.pw_ez0283_01, List.getLast?, List.getLast, List.getElem?_cons_succ, List.getElem?_cons_zero, List.take, List.drop]
  obtain ⟨nM, hM⟩ := S.hM
  obtain ⟨nH, hH⟩ := S.hH
  obtain ⟨lsa, nh1, hh1, ea⟩ := S.hh1
  obtain ⟨lsc, nh3, hh3, ec⟩ := S.hh3
  have hx1 := S.hx1
  have hx2 := S.hx2
  have hx3 := S.hx3
  obtain ⟨p1, p2, p3, p4, p5, hd1⟩ := S.hd1
  obtain ⟨q1, q2, q3, q4, q5, hd2⟩ := S.hd2
  obtain ⟨t1, t2, t3, t4, t5, hd3⟩ := S.hd3
  have za' : lsa.length ≤ 9 := by rw [← ea, List.length_map] at za; exact za
  have zc' : lsc.length ≤ 9 := by rw [← ec, List.length_map] at zc; exact zc
  have UT := stMuT S.dif S.off (oT := listOf vT.toArray nT) (oU := oU) (o1 := o1) (o2 := o2) (o3 := o3) (e1 := listOf (strValues c1).toArray k1) (e2 := listOf (strValues c2).toArray k2) (e3 := listOf (strValues c3).toArray k3)
  have hl1 := updF_mem (stMud1 S.dif S.off (oT := listOf vT.toArray nT) (oU := oU) (o1 := o1) (o2 := o2) (o3 := o3) (e1 := listOf (strValues c1).toArray k1) (e2 := listOf (strValues c2).toArray k2) (e3 := listOf (strValues c3).toArray k3))
  have hl2 := updF_mem (stMud2 S.dif S.off (oT := listOf vT.toArray nT) (oU := oU) (o1 := o1) (o2 := o2) (o3 := o3) (e1 := listOf (strValues c1).toArray k1) (e2 := listOf (strValues c2).toArray k2) (e3 := listOf (strValues c3).toArray k3))
  have hl3 := updF_mem (stMud3 S.dif S.off (oT := listOf vT.toArray nT) (oU := oU) (o1 := o1) (o2 := o2) (o3 := o3) (e1 := listOf (strValues c1).toArray k1) (e2 := listOf (strValues c2).toArray k2) (e3 := listOf (strValues c3).toArray k3))
  have hT := updF_mem UT
  obtain ⟨Ld, hLd⟩ : ∃ Ld, st ++ muL a (listOf vT.toArray nT) oU o1 o2 o3 (listOf (strValues c1).toArray k1) (listOf (strValues c2).toArray k2) (listOf (strValues c3).toArray k3) = Ld := ⟨_, rfl⟩
  rw [hLd] at N hl1 hl2 hl3 hT UT ret
  have sub : ∀ p ∈ st, p ∈ Ld := fun p hp => hLd ▸ List.mem_append_left _ hp
  replace hM := sub _ hM
  replace hH := sub _ hH
  replace hh1 := sub _ hh1
  replace hh3 := sub _ hh3
  replace hx1 := sub _ hx1
  replace hx2 := sub _ hx2
  replace hx3 := sub _ hx3
  replace hd1 := sub _ hd1
  replace hd2 := sub _ hd2
  replace hd3 := sub _ hd3
  unfold msgDict at hd1 hd2 hd3
  delta lawM at F ret
  repeat' ((fail_if_success (with_reducible show LCg.CompEnd _ _ _ _ _ _ _ _ _ _ _ _ _ _)); first | walk1 | (k_unfold; (try dsimp only)))
  try dsimp only
  show LCg.CompEnd _ _ _ _ _ _ _ _ _ _ _ _ _ _
  rename News base L _ _ => N9
  refine compEnd_new (by assumption) N9 (by assumption) (by assumption) (Or.inr ⟨_, by k_mem, rfl, _, rfl⟩) ?_
  intro f1
  repeat' ((fail_if_success (with_reducible show LCg.CompEnd _ _ _ _ _ _ _ _ _ _ _ _ _ _)); first | walk1 | (k_unfold; (try dsimp only)))
  try dsimp only
  show LCg.CompEnd _ _ _ _ _ _ _ _ _ _ _ _ _ _
  rename News base L _ _ => N9
  refine compEnd_new (by assumption) N9 (by assumption) (by assumption) (Or.inr ⟨_, by k_mem, rfl, _, rfl⟩) ?_
  intro f2
  repeat' ((fail_if_success (with_reducible show LCg.CompEnd _ _ _ _ _ _ _ _ _ _ _ _ _ _)); first | walk1 | (k_unfold; (try dsimp only)))
  try dsimp only
  show LCg.CompEnd _ _ _ _ _ _ _ _ _ _ _ _ _ _
  rename News base L _ _ => N9
  refine compEnd_new (by assumption) N9 (by assumption) (by assumption) (Or.inr ⟨_, by k_mem, rfl, _, rfl⟩) ?_
  intro f3
  repeat' ((fail_if_success (with_reducible show LCg.FinE _ _ _ _ _ _ _)); first | walk1 | (k_unfold; (try dsimp only)))
  try dsimp only
  intro DA hA tkA FA NA oA
  replace oA := off1_mem oA
  simp only [List.nil_append, List.cons_append] at NA
  try dsimp only
  repeat' ((fail_if_success (with_reducible show LCg.CompEnd _ _ _ _ _ _ _ _ _ _ _ _ _ _)); first | walk1 | (k_unfold; (try dsimp only)))
  try dsimp only
  show LCg.CompEnd _ _ _ _ _ _ _ _ _ _ _ _ _ _
  rename News base L _ _ => N9
  refine compEnd_new (by assumption) N9 (by assumption) (by assumption) (Or.inr ⟨_, by k_mem, rfl, _, rfl⟩) ?_
  intro f4
  repeat' ((fail_if_success (with_reducible show LCg.CompEnd _ _ _ _ _ _ _ _ _ _ _ _ _ _)); first | walk1 | (k_unfold; (try dsimp only)))
  try dsimp only
  show LCg.CompEnd _ _ _ _ _ _ _ _ _ _ _ _ _ _
  rename News base L _ _ => N9
  refine compEnd_new (by assumption) N9 (by assumption) (by assumption) (Or.inr ⟨_, by k_mem, rfl, _, rfl⟩) ?_
  intro f5
  repeat' ((fail_if_success (with_reducible show LCg.FinE _ _ _ _ _ _ _)); first | walk1 | (k_unfold; (try dsimp only)))
  try dsimp only
  intro DB hB tkB FB NB oB
  replace oB := off1_mem oB
  simp only [List.nil_append, List.cons_append] at NB
  try dsimp only
  repeat' ((fail_if_success (with_reducible show wpAny _ _ (PySem.call (Value.builtin "list.append") _) _ _ _)); first | walk1 | (k_unfold; (try dsimp only)))
  try dsimp only
  rename (_ < _ ∧ _) => lT
  have fT := kst_ltOf lT.2.2.2.2.2.2.2
  rename Fr base L _ _ => F9
  rename News base L _ _ => N9
  refine app_snap [_, _, _, _, _, _, _, _] F9 N9 ?fr UT hz ?_
  case fr =>
    intro p hp q hq
    simp only [List.mem_cons, List.not_mem_nil, or_false] at hp
    rcases hp with rfl | rfl | rfl | rfl | rfl | rfl | rfl | rfl
    · exact Nat.ne_of_lt (fT q hq)
    · exact oB q (.tail _ (.tail _ (.tail _ (.tail _ (.tail _ (.tail _ hq))))))
    · exact f5 q (.tail _ (.tail _ (.tail _ (.tail _ (.tail _ hq)))))
    · exact f4 q (.tail _ (.tail _ (.tail _ (.tail _ hq))))
    · exact oA q (.tail _ (.tail _ (.tail _ hq)))
    · exact f3 q (.tail _ (.tail _ hq))
    · exact f2 q (.tail _ hq)
    · exact f1 q hq
  intro h6 F6 N6 fr6
  try dsimp only
  k_steps
  try dsimp only
  exact ret _ _ _ _ (by assumption) N6 fr6 (.list (.head _) (.cons (.list (vs := [_, _, _]) (by k_mem) (.cons (listD_in (ls := c1) (by k_mem) y1) (.cons (listD_in (ls := c2) (by k_mem) y2) (.cons (listD_in (ls := c3) (by k_mem) y3) .nil)))) (.cons (.list (vs := [_, _]) (by k_mem) (.cons (listD_in (ls := lsa) (by k_mem) ea) (.cons (listD_in (ls := lsc) (by k_mem) ec) .nil))) .nil)))
theorem l_toldB (K0 : Below callerA base [] base) (X : Frag.In (Mine.hd.heap_39 w.params) base) (T : Top VW LO mean mg mb base) (S : Sta w.params a ra rc st) {vT : List Value} {nT k1 k2 k3 : Nat} {oU o1 o2 o3 : Obj} {c1 c2 c3 : List (Str × Tok)} {r1 r2 r3 : List Str} (z1 : c1.length ≤ 9) (z2 : c2.length ≤ 9) (z3 : c3.length ≤ 9) (za : ra.length ≤ 9) (zc : rc.length ≤ 9) (y1 : c1.map (·.1) = r1) (y2 : c2.map (·.1) = r2) (y3 : c3.map (·.1) = r3) (hz : vT.length ≤ 1000)
    (F : Fr base L s.heap (lawM a rest)) (N : News base L s.heap (st ++ muL a (listOf vT.toArray nT) oU o1 o2 o3 (listOf (strValues c1).toArray k1) (listOf (strValues c2).toArray k2) (listOf (strValues c3).toArray k3)))
    (ret : ∀ nw v h' tk', Fr base L h' (lawM a rest) → News base L h' (nw ++ (st ++ muL a (listOf (vT ++ [v]).toArray (nT + 1)) oU o1 o2 o3 (listOf (strValues c1).toArray k1) (listOf (strValues c2).toArray k2) (listOf (strValues c3).toArray k3))) → (∀ p ∈ nw, ∀ q ∈ st ++ muL a (listOf vT.toArray nT) oU o1 o2 o3 (listOf (strValues c1).toArray k1) (listOf (strValues c2).toArray k2) (listOf (strValues c3).toArray k3), q.1 ≠ p.1) → DatIn nw v (snapD r1 r2 r3 ra rc) → Q .next { s with heap := h', toks := tk' }) :
    wpAny (model PG w) (lawAr L fa cd) (execs ((lawBody.drop 10).take 1) (lawEnv L fa cd)) Q E s := by
  refine fillit _ ?_
  k_fill
  dsimp only [lawAr, lawEnv, snapBody, loopBody, lawBody, lawScope, lawDef, PySem.Challenge.pw_ez0283_01, List.getLast?, List.getLast, List.getElem?_cons_succ, List.getElem?_cons_zero, List.take, List.drop]
  obtain ⟨nM, hM⟩ := S.hM
  obtain ⟨nH, hH⟩ := S.hH
  obtain ⟨lsa, nh1, hh1, ea⟩ := S.hh1
  obtain ⟨lsc, nh3, hh3, ec⟩ := S.hh3
  have hx1 := S.hx1
  have hx2 := S.hx2
  have hx3 := S.hx3
  obtain ⟨p1, p2, p3, p4, p5, hd1⟩ := S.hd1
  obtain ⟨q1, q2, q3, q4, q5, hd2⟩ := S.hd2
  obtain ⟨t1, t2, t3, t4, t5, hd3⟩ := S.hd3
  have za' : lsa.length ≤ 9 := by rw [← ea, List.length_map] at za; exact za
  have zc' : lsc.length ≤ 9 := by rw [← ec, List.length_map] at zc; exact zc
  have UT := stMuT S.dif S.off (oT := listOf vT.toArray nT) (oU := oU) (o1 := o1) (o2 := o2) (o3 := o3) (e1 := listOf (strValues c1).toArray k1) (e2 := listOf (strValues c2).toArray k2) (e3 := listOf (strValues c3).toArray k3)
  have hl1 := updF_mem (stMud1 S.dif S.off (oT := listOf vT.toArray nT) (oU := oU) (o1 := o1) (o2 := o2) (o3 := o3) (e1 := listOf (strValues c1).toArray k1) (e2 := listOf (strValues c2).toArray k2) (e3 := listOf (strValues c3).toArray k3))
  have hl2 := updF_mem (stMud2 S.dif S.off (oT := listOf vT.toArray nT) (oU := oU) (o1 := o1) (o2 := o2) (o3 := o3) (e1 := listOf (strValues c1).toArray k1) (e2 := listOf (strValues c2).toArray k2) (e3 := listOf (strValues c3).toArray k3))
  have hl3 := updF_mem (stMud3 S.dif S.off (oT := listOf vT.toArray nT) (oU := oU) (o1 := o1) (o2 := o2) (o3 := o3) (e1 := listOf (strValues c1).toArray k1) (e2 := listOf (strValues c2).toArray k2) (e3 := listOf (strValues c3).toArray k3))
  have hT := updF_mem UT
  obtain ⟨Ld, hLd⟩ : ∃ Ld, st ++ muL a (listOf vT.toArray nT) oU o1 o2 o3 (listOf (strValues c1).toArray k1) (listOf (strValues c2).toArray k2) (listOf (strValues c3).toArray k3) = Ld := ⟨_, rfl⟩
  rw [hLd] at N hl1 hl2 hl3 hT UT ret
  have sub : ∀ p ∈ st, p ∈ Ld := fun p hp => hLd ▸ List.mem_append_left _ hp
  replace hM := sub _ hM
  replace hH := sub _ hH
  replace hh1 := sub _ hh1
  replace hh3 := sub _ hh3
  replace hx1 := sub _ hx1
  replace hx2 := sub _ hx2
  replace hx3 := sub _ hx3
  replace hd1 := sub _ hd1
  replace hd2 := sub _ hd2
  replace hd3 := sub _ hd3
  unfold msgDict at hd1 hd2 hd3
  delta lawM at F ret
  repeat' ((fail_if_success (with_reducible show LCg.CompEnd _ _ _ _ _ _ _ _ _ _ _ _ _ _)); first | walk1 | (k_unfold; (try dsimp only)))
  try dsimp only
  show LCg.CompEnd _ _ _ _ _ _ _ _ _ _ _ _ _ _
  rename News base L _ _ => N9
  refine compEnd_new (by assumption) N9 (by assumption) (by assumption) (Or.inr ⟨_, by k_mem, rfl, _, rfl⟩) ?_
  intro f1
  repeat' ((fail_if_success (with_reducible show LCg.CompEnd _ _ _ _ _ _ _ _ _ _ _ _ _ _)); first | walk1 | (k_unfold; (try dsimp only)))
  try dsimp only
  show LCg.CompEnd _ _ _ _ _ _ _ _ _ _ _ _ _ _
  rename News base L _ _ => N9
  refine compEnd_new (by assumption) N9 (by assumption) (by assumption) (Or.inr ⟨_, by k_mem, rfl, _, rfl⟩) ?_
  intro f2
  repeat' ((fail_if_success (with_reducible show LCg.CompEnd _ _ _ _ _ _ _ _ _ _ _ _ _ _)); first | walk1 | (k_unfold; (try dsimp only)))
  try dsimp only
  show LCg.CompEnd _ _ _ _ _ _ _ _ _ _ _ _ _ _
  rename News base L _ _ => N9
  refine compEnd_new (by assumption) N9 (by assumption) (by assumption) (Or.inr ⟨_, by k_mem, rfl, _, rfl⟩) ?_
  intro f3
  repeat' ((fail_if_success (with_reducible show LCg.FinE _ _ _ _ _ _ _)); first | walk1 | (k_unfold; (try dsimp only)))
  try dsimp only
  intro DA hA tkA FA NA oA
  replace oA := off1_mem oA
  simp only [List.nil_append, List.cons_append] at NA
  try dsimp only
  repeat' ((fail_if_success (with_reducible show LCg.CompEnd _ _ _ _ _ _ _ _ _ _ _ _ _ _)); first | walk1 | (k_unfold; (try dsimp only)))
  try dsimp only
  show LCg.CompEnd _ _ _ _ _ _ _ _ _ _ _ _ _ _
  rename News base L _ _ => N9
  refine compEnd_new (by assumption) N9 (by assumption) (by assumption) (Or.inr ⟨_, by k_mem, rfl, _, rfl⟩) ?_
  intro f4
  repeat' ((fail_if_success (with_reducible show LCg.CompEnd _ _ _ _ _ _ _ _ _ _ _ _ _ _)); first | walk1 | (k_unfold; (try dsimp only)))
  try dsimp only
  show LCg.CompEnd _ _ _ _ _ _ _ _ _ _ _ _ _ _
  rename News base L _ _ => N9
  refine compEnd_new (by assumption) N9 (by assumption) (by assumption) (Or.inr ⟨_, by k_mem, rfl, _, rfl⟩) ?_
  intro f5
  repeat' ((fail_if_success (with_reducible show LCg.FinE _ _ _ _ _ _ _)); first | walk1 | (k_unfold; (try dsimp only)))
  try dsimp only
  intro DB hB tkB FB NB oB
  replace oB := off1_mem oB
  simp only [List.nil_append, List.cons_append] at NB
  try dsimp only
  repeat' ((fail_if_success (with_reducible show wpAny _ _ (PySem.call (Value.builtin "list.append") _) _ _ _)); first | walk1 | (k_unfold; (try dsimp only)))
  try dsimp only
  rename (_ < _ ∧ _) => lT
  have fT := kst_ltOf lT.2.2.2.2.2.2.2
  rename Fr base L _ _ => F9
  rename News base L _ _ => N9
  refine app_snap [_, _, _, _, _, _, _, _] F9 N9 ?fr UT hz ?_
  case fr =>
    intro p hp q hq
    simp only [List.mem_cons, List.not_mem_nil, or_false] at hp
    rcases hp with rfl | rfl | rfl | rfl | rfl | rfl | rfl | rfl
    · exact Nat.ne_of_lt (fT q hq)
    · exact oB q (.tail _ (.tail _ (.tail _ (.tail _ (.tail _ (.tail _ hq))))))
    · exact f5 q (.tail _ (.tail _ (.tail _ (.tail _ (.tail _ hq)))))
    · exact f4 q (.tail _ (.tail _ (.tail _ (.tail _ hq))))
    · exact oA q (.tail _ (.tail _ (.tail _ hq)))
    · exact f3 q (.tail _ (.tail _ hq))
    · exact f2 q (.tail _ hq)
    · exact f1 q hq
  intro h6 F6 N6 fr6
  try dsimp only
  k_steps
  try dsimp only
  exact ret _ _ _ _ (by assumption) N6 fr6 (.list (.head _) (.cons (.list (vs := [_, _, _]) (by k_mem) (.cons (listD_in (ls := c1) (by k_mem) y1) (.cons (listD_in (ls := c2) (by k_mem) y2) (.cons (listD_in (ls := c3) (by k_mem) y3) .nil)))) (.cons (.list (vs := [_, _]) (by k_mem) (.cons (listD_in (ls := lsa) (by k_mem) ea) (.cons (listD_in (ls := lsc) (by k_mem) ec) .nil))) .nil)))
end

end Mine
end
section
open PySem PySem.W PyProof.Rows PySem.Calls Builtin Builtin.ObjectAttr
namespace Mine
set_option maxRecDepth 100000
set_option maxHeartbeats 8000000
local macro_rules | `(tactic| walk_at "getAttr ref") => `(tactic| (k_here; k_dflt (refine' hk_bound ?k1 ?k2 ?k3 ?k4 ?k5 ?kh ?k6 ?k7 ?k8 ?k9 ?k10 ?k11 ?k12 ?_; (case k4 => k_inst); (case k1 => k_asm); (case k2 => k_asm); (case k3 => k_asm); (case k5 => k_is); (case kh => k_is); (case k6 => k_is); (case k7 => k_is); (case k8 => k_is); (case k9 => k_is); (case k10 => k_is); (case k11 => decide +kernel); (case k12 => k_get); k_whole); intro q' h' F' N' l1; (try k_lt l1); (try k_sweep)))
local macro_rules | `(tactic| walk_at "getAttr ref") => `(tactic| (k_here; k_dflt (refine' hk_own ?k1 ?k2 ?k3 ?k4 ?k5 ?k6 ?k7 ?k8 ?k9 ?_; (case k1 => k_asm); (case k2 => k_asm); (case k3 => k_inst); (case k4 => k_is); (case k5 => k_is); (case k6 => k_is); (case k7 => k_is); (case k8 => k_get); (case k9 => k_handed); k_whole)))
local macro_rules | `(tactic| walk_at "getMethod ref") => `(tactic| (k_here; k_dflt (refine' hk_method ?k1 ?k2 ?k3 ?k4 ?k5 ?_; (case k1 => k_asm); (case k2 => k_asm); (case k3 => k_inst); (case k4 => k_is); (case k5 => k_is); k_whole)))
local macro_rules | `(tactic| ktr_enter) => `(tactic| (refine' code_def ?k1 ?k2 ?k3 ?k4 ?k5 ?kA ?kF ?kK ?k6 ?k7 ?k8 ?k9 ?kB ?_ ?c2 ?c3 ?c4 ?c5; (case kA => exact rfl); (case kF => exact rfl); (case kK => first | assumption | exact rfl); (case k1 => k_asm); (case k2 => k_asm); (case k3 => k_asm); (case k4 => k_asm); (case k5 => k_asm); (case k6 => k_is); (case k7 => k_is); (case k8 => ktr_room); (case k9 => first | exact BindsTo.of_eq rfl | exact binds_K (by k_in) rfl (by k_is) rfl rfl rfl); (case c5 => decide); (case kB => exact locs rfl); (case c2 => exact rfl); (case c3 => exact rfl); (case c4 => exact rfl); k_whole; intro g' L' h' FG' F' N' B' X' T'; (try dsimp only); (try k_lift B'); (try k_fold)))
local macro_rules | `(tactic| ktr_call $c:term 0) => `(tactic| (refine wpAny_call ?_; k_dflt (refine' ct_use $c ?k1 ?k2 ?k3 ?k4 ?k5 ?kK ?kd ?ku ?kp ?_; (case k1 => k_asm); (case k2 => k_asm); (case k3 => k_asm); (case k4 => k_asm); (case k5 => k_asm); (case kK => first | assumption | exact rfl); (case kd => ktr_room); (case ku => ktr_units))))
local macro_rules | `(tactic| ktr_call $c:term 1) => `(tactic| (refine' call_meth ?N ?q ?_; (case N => k_asm); (case q => k_mem); k_dflt (refine' ct_use $c ?k1 ?k2 ?k3 ?k4 ?k5 ?kK ?kd ?ku ?kp ?_; (case k1 => k_asm); (case k2 => k_asm); (case k3 => k_asm); (case k4 => k_asm); (case k5 => k_asm); (case kK => first | assumption | exact rfl); (case kd => ktr_room); (case ku => ktr_units))))
local macro_rules | `(tactic| k_mem) => `(tactic| first | assumption | exact List.mem_cons_self .. | (refine' List.mem_cons_of_mem _ ?_; k_mem))
local macro_rules | `(tactic| kst_same) => `(tactic| (intro z h1 h2 h3; (simp only [List.forall_mem_cons, List.not_mem_nil, false_implies, implies_true, and_true, ne_eq] at h2); (simp only [List.contains_cons, List.contains_nil, Bool.or_false, Bool.or_eq_false_iff, beq_eq_false_iff_ne, ne_eq] at h3); (simp [kstB, h1, h2, h3]; done)))
local macro_rules | `(tactic| kby_size) => `(tactic| (rw [PySem.sizeLine_eq]; omega))
local macro_rules | `(tactic| walk_at "call builtin:str.lstrip") => `(tactic| (k_here; (refine KXw.lstrip (by assumption) (by kby_size) ?_); intro _ _))
local macro_rules | `(tactic| walk_at "call builtin:str.strip") => `(tactic| (k_here; (refine KXw.strip (by assumption) (by kby_size) ?_); intro _ _))
local macro_rules | `(tactic| walk_at "call builtin:str.strip") => `(tactic| (k_here; (refine KXw.stripChars (by assumption) (by kby_size) ?_); intro _ _))
local macro_rules | `(tactic| walk_at "call builtin:str.upper") => `(tactic| (k_here; (refine KXw.upper (by assumption) (by decide +kernel) ?_); intro _ _))
local macro_rules | `(tactic| walk_at "call builtin:str.partition") => `(tactic| (k_here; (refine KXpa.partition (by k_asm) (by k_asm) (by decide) (by assumption) (by assumption) (by assumption) (by kby_size) ?_); intro D' _ _ _ _ _ F' N' l1; (try k_lt l1)))
local macro_rules | `(tactic| walk_at "call builtin:str.split") => `(tactic| (k_here; (refine KSpl.split1 (by k_asm) (by k_asm) (by decide) ?_ (by kby_size)); intro D' _ _ _ _ _ F' N' l1; (try k_lt l1)))
local macro_rules | `(tactic| walk_at "call type:list") => `(tactic| (k_here; (with_reducible show wpAny _ _ (call (Value.type _) [Value.ref _]) _ _ _); (refine' list_copyK ?k1 ?k2 ?k3 ?_ ?z; (case k1 => k_asm); (case k2 => k_asm); (case k3 => exact News.isList (by k_asm) (by k_mem)); (case z => (rw [List.size_toArray, strValues_len, PySem.sizeLine_eq]; omega)); k_whole); intro D' c' h' F' N' l1; (try k_lt l1); (try k_sweep)))
--FROM MM4
section
variable {w : World} {base : Heap} {mean : ExcName → Option Value} {mg mb : Str → Option Value} {L fa : Addr} {cd : Value} {s : Shared} {Q : Flow → Shared → Prop} {E : Value → Shared → Prop} {rest : Str → Option Value} {a : Ads} {ra rc : List Str} {st : Led} {nb ki pl : Int} {tn tk tw tp : Tok} {vl : Value} {tx : Str}
theorem l_dueA (K0 : Below callerA base [] base) (X : Frag.In (Mine.hd.heap_39 w.params) base) (T : Top VW LO mean mg mb base) (S : Sta w.params a ra rc st) {vU : List Value} {nU k1 k2 k3 : Nat} {oT e1 e2 e3 : Obj} {c1 c2 c3 : List (Str × Tok)} {r1 r2 r3 : List Str} (z1 : c1.length ≤ 9) (z2 : c2.length ≤ 9) (z3 : c3.length ≤ 9) (y1 : c1.map (·.1) = r1) (y2 : c2.map (·.1) = r2) (y3 : c3.map (·.1) = r3) (hz : vU.length ≤ 1000)
    (F : Fr base L s.heap (lawM a rest)) (N : News base L s.heap (st ++ muL a oT (listOf vU.toArray nU) (listOf (strValues c1).toArray k1) (listOf (strValues c2).toArray k2) (listOf (strValues c3).toArray k3) e1 e2 e3))
    (ret : ∀ nw v h' tk', Fr base L h' (lawM a rest) → News base L h' (nw ++ (st ++ muL a oT (listOf (vU ++ [v]).toArray (nU + 1)) (listOf (strValues c1).toArray k1) (listOf (strValues c2).toArray k2) (listOf (strValues c3).toArray k3) e1 e2 e3)) → (∀ p ∈ nw, ∀ q ∈ st ++ muL a oT (listOf vU.toArray nU) (listOf (strValues c1).toArray k1) (listOf (strValues c2).toArray k2) (listOf (strValues c3).toArray k3) e1 e2 e3, q.1 ≠ p.1) → (∀ st0, Sta w.params a ra rc st0 → DatIn (nw ++ st0) v (snapD r1 r2 r3 ra rc)) → Q .next { s with heap := h', toks := tk' }) :
    wpAny (model PG w) (lawAr L fa cd) (execs (snapBody.drop 1) (lawEnv L fa cd)) Q E s := by
  refine fillit _ ?_
  k_fill
  dsimp only [lawAr, lawEnv, snapBody, loopBody, lawBody, lawScope, lawDef, PySem.Challenge.pw_ez0283_01, List.getLast?, List.getLast, List.getElem?_cons_succ, List.getElem?_cons_zero, List.take, List.drop]
  obtain ⟨nR, hR⟩ := S.hR
  have UU := stMuU S.dif S.off (oT := oT) (oU := listOf vU.toArray nU) (o1 := listOf (strValues c1).toArray k1) (o2 := listOf (strValues c2).toArray k2) (o3 := listOf (strValues c3).toArray k3) (e1 := e1) (e2 := e2) (e3 := e3)
  have hl1 := updF_mem (stMur1 S.dif S.off (oT := oT) (oU := listOf vU.toArray nU) (o1 := listOf (strValues c1).toArray k1) (o2 := listOf (strValues c2).toArray k2) (o3 := listOf (strValues c3).toArray k3) (e1 := e1) (e2 := e2) (e3 := e3))
  have hl2 := updF_mem (stMur2 S.dif S.off (oT := oT) (oU := listOf vU.toArray nU) (o1 := listOf (strValues c1).toArray k1) (o2 := listOf (strValues c2).toArray k2) (o3 := listOf (strValues c3).toArray k3) (e1 := e1) (e2 := e2) (e3 := e3))
  have hl3 := updF_mem (stMur3 S.dif S.off (oT := oT) (oU := listOf vU.toArray nU) (o1 := listOf (strValues c1).toArray k1) (o2 := listOf (strValues c2).toArray k2) (o3 := listOf (strValues c3).toArray k3) (e1 := e1) (e2 := e2) (e3 := e3))
  have hU := updF_mem UU
  obtain ⟨Ld, hLd⟩ : ∃ Ld, st ++ muL a oT (listOf vU.toArray nU) (listOf (strValues c1).toArray k1) (listOf (strValues c2).toArray k2) (listOf (strValues c3).toArray k3) e1 e2 e3 = Ld := ⟨_, rfl⟩
  rw [hLd] at N hl1 hl2 hl3 hU UU ret
  have sub : ∀ p ∈ st, p ∈ Ld := fun p hp => hLd ▸ List.mem_append_left _ hp
  replace hR := sub _ hR
  delta lawM at F ret
  repeat' ((fail_if_success (with_reducible show LCg.CompEnd _ _ _ _ _ _ _ _ _ _ _ _ _ _)); first | walk1 | (k_unfold; (try dsimp only)))
  try dsimp only
  show LCg.CompEnd _ _ _ _ _ _ _ _ _ _ _ _ _ _
  rename News base L _ _ => N9
  refine compEnd_new (by assumption) N9 (by assumption) (by assumption) (Or.inr ⟨_, by k_mem, rfl, _, rfl⟩) ?_
  intro f1
  repeat' ((fail_if_success (with_reducible show LCg.CompEnd _ _ _ _ _ _ _ _ _ _ _ _ _ _)); first | walk1 | (k_unfold; (try dsimp only)))
  try dsimp only
  show LCg.CompEnd _ _ _ _ _ _ _ _ _ _ _ _ _ _
  rename News base L _ _ => N9
  refine compEnd_new (by assumption) N9 (by assumption) (by assumption) (Or.inr ⟨_, by k_mem, rfl, _, rfl⟩) ?_
  intro f2
  repeat' ((fail_if_success (with_reducible show LCg.CompEnd _ _ _ _ _ _ _ _ _ _ _ _ _ _)); first | walk1 | (k_unfold; (try dsimp only)))
  try dsimp only
  show LCg.CompEnd _ _ _ _ _ _ _ _ _ _ _ _ _ _
  rename News base L _ _ => N9
  refine compEnd_new (by assumption) N9 (by assumption) (by assumption) (Or.inr ⟨_, by k_mem, rfl, _, rfl⟩) ?_
  intro f3
  repeat' ((fail_if_success (with_reducible show LCg.FinE _ _ _ _ _ _ _)); first | walk1 | (k_unfold; (try dsimp only)))
  try dsimp only
  intro DA hA tkA FA NA oA
  replace oA := off1_mem oA
  simp only [List.nil_append, List.cons_append] at NA
  try dsimp only
  repeat' ((fail_if_success (with_reducible show wpAny _ _ (PySem.call (Value.builtin "list.append") _) _ _ _)); first | walk1 | (k_unfold; (try dsimp only)))
  try dsimp only
  rename (_ < _ ∧ _) => lT
  have fT := kst_ltOf lT.2.2.2.2
  rename Fr base L _ _ => F9
  rename News base L _ _ => N9
  refine app_snap [_, _, _, _, _] F9 N9 ?fr UU hz ?_
  case fr =>
    intro p hp q hq
    simp only [List.mem_cons, List.not_mem_nil, or_false] at hp
    rcases hp with rfl | rfl | rfl | rfl | rfl
    · exact Nat.ne_of_lt (fT q hq)
    · exact oA q (.tail _ (.tail _ (.tail _ hq)))
    · exact f3 q (.tail _ (.tail _ hq))
    · exact f2 q (.tail _ hq)
    · exact f1 q hq
  intro h6 F6 N6 fr6
  try dsimp only
  k_steps
  try dsimp only
  refine ret _ _ _ _ (by assumption) N6 fr6 fun st0 S0 => ?_
  obtain ⟨nK, hK'⟩ := S0.hKP
  obtain ⟨lsa, nh1, hp1, ea⟩ := S0.hp1
  obtain ⟨lsc, nh3, hp3, ec⟩ := S0.hp3
  exact (.list (vs := [_, .ref a.KP]) (.head _) (.cons (.list (vs := [_, _, _]) (List.mem_append_left _ (by k_mem)) (.cons (listD_in (ls := c1) (List.mem_append_left _ (by k_mem)) y1) (.cons (listD_in (ls := c2) (List.mem_append_left _ (by k_mem)) y2) (.cons (listD_in (ls := c3) (List.mem_append_left _ (by k_mem)) y3) .nil)))) (.cons (.list (vs := [.ref a.p1, .ref a.p3]) (List.mem_append_right _ hK') (.cons (listD_in (List.mem_append_right _ hp1) ea) (.cons (listD_in (List.mem_append_right _ hp3) ec) .nil))) .nil)))
theorem l_dueB (K0 : Below callerA base [] base) (X : Frag.In (Mine.hd.heap_39 w.params) base) (T : Top VW LO mean mg mb base) (S : Sta w.params a ra rc st) {vU : List Value} {nU k1 k2 k3 : Nat} {oT e1 e2 e3 : Obj} {c1 c2 c3 : List (Str × Tok)} {r1 r2 r3 : List Str} (z1 : c1.length ≤ 9) (z2 : c2.length ≤ 9) (z3 : c3.length ≤ 9) (y1 : c1.map (·.1) = r1) (y2 : c2.map (·.1) = r2) (y3 : c3.map (·.1) = r3) (hz : vU.length ≤ 1000)
    (F : Fr base L s.heap (lawM a rest)) (N : News base L s.heap (st ++ muL a oT (listOf vU.toArray nU) (listOf (strValues c1).toArray k1) (listOf (strValues c2).toArray k2) (listOf (strValues c3).toArray k3) e1 e2 e3))
    (ret : ∀ nw v h' tk', Fr base L h' (lawM a rest) → News base L h' (nw ++ (st ++ muL a oT (listOf (vU ++ [v]).toArray (nU + 1)) (listOf (strValues c1).toArray k1) (listOf (strValues c2).toArray k2) (listOf (strValues c3).toArray k3) e1 e2 e3)) → (∀ p ∈ nw, ∀ q ∈ st ++ muL a oT (listOf vU.toArray nU) (listOf (strValues c1).toArray k1) (listOf (strValues c2).toArray k2) (listOf (strValues c3).toArray k3) e1 e2 e3, q.1 ≠ p.1) → (∀ st0, Sta w.params a ra rc st0 → DatIn (nw ++ st0) v (snapD r1 r2 r3 ra rc)) → Q .next { s with heap := h', toks := tk' }) :
    wpAny (model PG w) (lawAr L fa cd) (execs ((lawBody.drop 11).take 1) (lawEnv L fa cd)) Q E s := by
  refine fillit _ ?_
  k_fill
  dsimp only [lawAr, lawEnv, snapBody, loopBody, lawBody, lawScope, lawDef, PySem.Challenge.pw_ez0283_01, List.getLast?, List.getLast, List.getElem?_cons_succ, List.getElem?_cons_zero, List.take, List.drop]
  obtain ⟨nR, hR⟩ := S.hR
  have UU := stMuU S.dif S.off (oT := oT) (oU := listOf vU.toArray nU) (o1 := listOf (strValues c1).toArray k1) (o2 := listOf (strValues c2).toArray k2) (o3 := listOf (strValues c3).toArray k3) (e1 := e1) (e2 := e2) (e3 := e3)
  have hl1 := updF_mem (stMur1 S.dif S.off (oT := oT) (oU := listOf vU.toArray nU) (o1 := listOf (strValues c1).toArray k1) (o2 := listOf (strValues c2).toArray k2) (o3 := listOf (strValues c3).toArray k3) (e1 := e1) (e2 := e2) (e3 := e3))
  have hl2 := updF_mem (stMur2 S.dif S.off (oT := oT) (oU := listOf vU.toArray nU) (o1 := listOf (strValues c1).toArray k1) (o2 := listOf (strValues c2).toArray k2) (o3 := listOf (strValues c3).toArray k3) (e1 := e1) (e2 := e2) (e3 := e3))
  have hl3 := updF_mem (stMur3 S.dif S.off (oT := oT) (oU := listOf vU.toArray nU) (o1 := listOf (strValues c1).toArray k1) (o2 := listOf (strValues c2).toArray k2) (o3 := listOf (strValues c3).toArray k3) (e1 := e1) (e2 := e2) (e3 := e3))
  have hU := updF_mem UU
  obtain ⟨Ld, hLd⟩ : ∃ Ld, st ++ muL a oT (listOf vU.toArray nU) (listOf (strValues c1).toArray k1) (listOf (strValues c2).toArray k2) (listOf (strValues c3).toArray k3) e1 e2 e3 = Ld := ⟨_, rfl⟩
  rw [hLd] at N hl1 hl2 hl3 hU UU ret
  have sub : ∀ p ∈ st, p ∈ Ld := fun p hp => hLd ▸ List.mem_append_left _ hp
  replace hR := sub _ hR
  delta lawM at F ret
  repeat' ((fail_if_success (with_reducible show LCg.CompEnd _ _ _ _ _ _ _ _ _ _ _ _ _ _)); first | walk1 | (k_unfold; (try dsimp only)))
  try dsimp only
  show LCg.CompEnd _ _ _ _ _ _ _ _ _ _ _ _ _ _
  rename News base L _ _ => N9
  refine compEnd_new (by assumption) N9 (by assumption) (by assumption) (Or.inr ⟨_, by k_mem, rfl, _, rfl⟩) ?_
  intro f1
  repeat' ((fail_if_success (with_reducible show LCg.CompEnd _ _ _ _ _ _ _ _ _ _ _ _ _ _)); first | walk1 | (k_unfold; (try dsimp only)))
  try dsimp only
  show LCg.CompEnd _ _ _ _ _ _ _ _ _ _ _ _ _ _
  rename News base L _ _ => N9
  refine compEnd_new (by assumption) N9 (by assumption) (by assumption) (Or.inr ⟨_, by k_mem, rfl, _, rfl⟩) ?_
  intro f2
  repeat' ((fail_if_success (with_reducible show LCg.CompEnd _ _ _ _ _ _ _ _ _ _ _ _ _ _)); first | walk1 | (k_unfold; (try dsimp only)))
  try dsimp only
  show LCg.CompEnd _ _ _ _ _ _ _ _ _ _ _ _ _ _
  rename News base L _ _ => N9
  refine compEnd_new (by assumption) N9 (by assumption) (by assumption) (Or.inr ⟨_, by k_mem, rfl, _, rfl⟩) ?_
  intro f3
  repeat' ((fail_if_success (with_reducible show LCg.FinE _ _ _ _ _ _ _)); first | walk1 | (k_unfold; (try dsimp only)))
  try dsimp only
  intro DA hA tkA FA NA oA
  replace oA := off1_mem oA
  simp only [List.nil_append, List.cons_append] at NA
  try dsimp only
  repeat' ((fail_if_success (with_reducible show wpAny _ _ (PySem.call (Value.builtin "list.append") _) _ _ _)); first | walk1 | (k_unfold; (try dsimp only)))
  try dsimp only
  rename (_ < _ ∧ _) => lT
  have fT := kst_ltOf lT.2.2.2.2
  rename Fr base L _ _ => F9
  rename News base L _ _ => N9
  refine app_snap [_, _, _, _, _] F9 N9 ?fr UU hz ?_
  case fr =>
    intro p hp q hq
    simp only [List.mem_cons, List.not_mem_nil, or_false] at hp
    rcases hp with rfl | rfl | rfl | rfl | rfl
    · exact Nat.ne_of_lt (fT q hq)
    · exact oA q (.tail _ (.tail _ (.tail _ hq)))
    · exact f3 q (.tail _ (.tail _ hq))
    · exact f2 q (.tail _ hq)
    · exact f1 q hq
  intro h6 F6 N6 fr6
  try dsimp only
  k_steps
  try dsimp only
  refine ret _ _ _ _ (by assumption) N6 fr6 fun st0 S0 => ?_
  obtain ⟨nK, hK'⟩ := S0.hKP
  obtain ⟨lsa, nh1, hp1, ea⟩ := S0.hp1
  obtain ⟨lsc, nh3, hp3, ec⟩ := S0.hp3
  exact (.list (vs := [_, .ref a.KP]) (.head _) (.cons (.list (vs := [_, _, _]) (List.mem_append_left _ (by k_mem)) (.cons (listD_in (ls := c1) (List.mem_append_left _ (by k_mem)) y1) (.cons (listD_in (ls := c2) (List.mem_append_left _ (by k_mem)) y2) (.cons (listD_in (ls := c3) (List.mem_append_left _ (by k_mem)) y3) .nil)))) (.cons (.list (vs := [.ref a.p1, .ref a.p3]) (List.mem_append_right _ hK') (.cons (listD_in (List.mem_append_right _ hp1) ea) (.cons (listD_in (List.mem_append_right _ hp3) ec) .nil))) .nil)))
end

end Mine
end
section
open PySem PySem.W PyProof.Rows PySem.Calls Builtin Builtin.ObjectAttr
namespace Mine
set_option maxRecDepth 100000
set_option maxHeartbeats 8000000
local macro_rules | `(tactic| walk_at "getAttr ref") => `(tactic| (k_here; k_dflt (refine' hk_bound ?k1 ?k2 ?k3 ?k4 ?k5 ?kh ?k6 ?k7 ?k8 ?k9 ?k10 ?k11 ?k12 ?_; (case k4 => k_inst); (case k1 => k_asm); (case k2 => k_asm); (case k3 => k_asm); (case k5 => k_is); (case kh => k_is); (case k6 => k_is); (case k7 => k_is); (case k8 => k_is); (case k9 => k_is); (case k10 => k_is); (case k11 => decide +kernel); (case k12 => k_get); k_whole); intro q' h' F' N' l1; (try k_lt l1); (try k_sweep)))
local macro_rules | `(tactic| walk_at "getAttr ref") => `(tactic| (k_here; k_dflt (refine' hk_own ?k1 ?k2 ?k3 ?k4 ?k5 ?k6 ?k7 ?k8 ?k9 ?_; (case k1 => k_asm); (case k2 => k_asm); (case k3 => k_inst); (case k4 => k_is); (case k5 => k_is); (case k6 => k_is); (case k7 => k_is); (case k8 => k_get); (case k9 => k_handed); k_whole)))
local macro_rules | `(tactic| walk_at "getMethod ref") => `(tactic| (k_here; k_dflt (refine' hk_method ?k1 ?k2 ?k3 ?k4 ?k5 ?_; (case k1 => k_asm); (case k2 => k_asm); (case k3 => k_inst); (case k4 => k_is); (case k5 => k_is); k_whole)))
local macro_rules | `(tactic| ktr_enter) => `(tactic| (refine' code_def ?k1 ?k2 ?k3 ?k4 ?k5 ?kA ?kF ?kK ?k6 ?k7 ?k8 ?k9 ?kB ?_ ?c2 ?c3 ?c4 ?c5; (case kA => exact rfl); (case kF => exact rfl); (case kK => first | assumption | exact rfl); (case k1 => k_asm); (case k2 => k_asm); (case k3 => k_asm); (case k4 => k_asm); (case k5 => k_asm); (case k6 => k_is); (case k7 => k_is); (case k8 => ktr_room); (case k9 => first | exact BindsTo.of_eq rfl | exact binds_K (by k_in) rfl (by k_is) rfl rfl rfl); (case c5 => decide); (case kB => exact locs rfl); (case c2 => exact rfl); (case c3 => exact rfl); (case c4 => exact rfl); k_whole; intro g' L' h' FG' F' N' B' X' T'; (try dsimp only); (try k_lift B'); (try k_fold)))
local macro_rules | `(tactic| ktr_call $c:term 0) => `(tactic| (refine wpAny_call ?_; k_dflt (refine' ct_use $c ?k1 ?k2 ?k3 ?k4 ?k5 ?kK ?kd ?ku ?kp ?_; (case k1 => k_asm); (case k2 => k_asm); (case k3 => k_asm); (case k4 => k_asm); (case k5 => k_asm); (case kK => first | assumption | exact rfl); (case kd => ktr_room); (case ku => ktr_units))))
local macro_rules | `(tactic| ktr_call $c:term 1) => `(tactic| (refine' call_meth ?N ?q ?_; (case N => k_asm); (case q => k_mem); k_dflt (refine' ct_use $c ?k1 ?k2 ?k3 ?k4 ?k5 ?kK ?kd ?ku ?kp ?_; (case k1 => k_asm); (case k2 => k_asm); (case k3 => k_asm); (case k4 => k_asm); (case k5 => k_asm); (case kK => first | assumption | exact rfl); (case kd => ktr_room); (case ku => ktr_units))))
local macro_rules | `(tactic| k_mem) => `(tactic| first | assumption | exact List.mem_cons_self .. | (refine' List.mem_cons_of_mem _ ?_; k_mem))
local macro_rules | `(tactic| kst_same) => `(tactic| (intro z h1 h2 h3; (simp only [List.forall_mem_cons, List.not_mem_nil, false_implies, implies_true, and_true, ne_eq] at h2); (simp only [List.contains_cons, List.contains_nil, Bool.or_false, Bool.or_eq_false_iff, beq_eq_false_iff_ne, ne_eq] at h3); (simp [kstB, h1, h2, h3]; done)))
local macro_rules | `(tactic| kby_size) => `(tactic| (rw [PySem.sizeLine_eq]; omega))
local macro_rules | `(tactic| walk_at "call builtin:str.lstrip") => `(tactic| (k_here; (refine KXw.lstrip (by assumption) (by kby_size) ?_); intro _ _))
local macro_rules | `(tactic| walk_at "call builtin:str.strip") => `(tactic| (k_here; (refine KXw.strip (by assumption) (by kby_size) ?_); intro _ _))
local macro_rules | `(tactic| walk_at "call builtin:str.strip") => `(tactic| (k_here; (refine KXw.stripChars (by assumption) (by kby_size) ?_); intro _ _))
local macro_rules | `(tactic| walk_at "call builtin:str.upper") => `(tactic| (k_here; (refine KXw.upper (by assumption) (by decide +kernel) ?_); intro _ _))
local macro_rules | `(tactic| walk_at "call builtin:str.partition") => `(tactic| (k_here; (refine KXpa.partition (by k_asm) (by k_asm) (by decide) (by assumption) (by assumption) (by assumption) (by kby_size) ?_); intro D' _ _ _ _ _ F' N' l1; (try k_lt l1)))
local macro_rules | `(tactic| walk_at "call builtin:str.split") => `(tactic| (k_here; (refine KSpl.split1 (by k_asm) (by k_asm) (by decide) ?_ (by kby_size)); intro D' _ _ _ _ _ F' N' l1; (try k_lt l1)))
--FROM MM5
theorem execs_at {M : Model} {A : Around} {E : Value → Shared → Prop} {env : Env} {Q : Flow → Shared → Prop} (k n : Nat) (l : List PySem.Stmt) (s : Shared)
    (h : wpAny M A (execs ((l.drop k).take n) env) (fun f s' => match f with | .next => wpAny M A (execs (l.drop (k + n)) env) Q E s' | f => Q f s') E s) : wpAny M A (execs (l.drop k) env) Q E s := by
  refine execs_take n (l.drop k) s ?_
  rw [List.drop_drop]
  exact h
section
variable {w : World} {base : Heap} {mean : ExcName → Option Value} {mg mb : Str → Option Value} {L fa : Addr} {cd : Value} {s : Shared} {Q : Flow → Shared → Prop} {E : Value → Shared → Prop} {rest : Str → Option Value} {a : Ads} {ra rc : List Str} {st : Led} {nb ki pl : Int} {tn tk tw tp : Tok} {vl : Value} {tx : Str}
theorem l_if (K0 : Below callerA base [] base) (X : Frag.In (Mine.hd.heap_39 w.params) base) (T : Top VW LO mean mg mb base) {wh : Int} {news : Led} (F : Fr base L s.heap (turnM a rest nb ki wh pl tn tk tw tp vl)) (N : News base L s.heap news)
    (yes : ∀ h' tk', Fr base L h' (turnM a rest nb ki wh pl tn tk tw tp vl) → News base L h' news → wpAny (model PG w) (lawAr L fa cd) (execs snapBody (lawEnv L fa cd)) Q E { s with heap := h', toks := tk' })
    (no : ∀ h' tk', Fr base L h' (turnM a rest nb ki wh pl tn tk tw tp vl) → News base L h' news → Q .next { s with heap := h', toks := tk' }) :
    wpAny (model PG w) (lawAr L fa cd) (execs ((loopBody.drop 5).take 1) (lawEnv L fa cd)) Q E s := by
  revert yes
  refine fillit _ ?_
  k_fill
  dsimp only [lawAr, lawEnv, snapBody, loopBody, lawBody, lawScope, lawDef, PySem.Challenge.pw_ez0283_01, List.getLast?, List.getLast, List.getElem?_cons_succ, List.getElem?_cons_zero, List.take, List.drop]
  intro yes
  delta turnM lawM at F yes no
  refine wpAny_execs_cons ?_
  repeat' ((fail_if_success (with_reducible show wpAny _ _ (PySem.execs (List.cons _ _) _) _ _ _)); first | walk1 | (k_unfold; (try dsimp only)))
  try dsimp only
  · refine wpAny_mono (yes _ _ (by assumption) (by assumption)) (fun f s' hq => ?_) (fun e s' h => h)
    cases f <;> first | exact wpAny_execs_nil hq | exact hq
  · exact no _ _ (by assumption) (by assumption)
end
/-- what holds between the turns -/
structure RunAt (P : Params) (a : Ads) (ra rc : List Str) (st : Led) (vT vU : List Value) (ds : List Dat) (b1 b2 b3 c1 c2 c3 : List (Str × Tok)) (bd : Nat) : Prop where
  S : Sta P a ra rc st
  dT : DatAll st vT ds
  dU : DatAll st vU ds
  len : ds.length ≤ bd
  ok : ∀ d ∈ ds, kqdOk 8 d = true
  ok1 : OkRow (b1.map (·.1))
  ok2 : OkRow (b2.map (·.1))
  ok3 : OkRow (b3.map (·.1))
  e1 : c1.map (·.1) = b1.map (·.1)
  e2 : c2.map (·.1) = b2.map (·.1)
  e3 : c3.map (·.1) = b3.map (·.1)
  za : OkRow ra
  zc : OkRow rc
abbrev ledM (a : Ads) (vT vU : List Value) (b1 b2 b3 c1 c2 c3 : List (Str × Tok)) (nT nU n1 n2 n3 k1 k2 k3 : Nat) : Led :=
  muL a (listOf vT.toArray nT) (listOf vU.toArray nU) (listOf (strValues b1).toArray n1) (listOf (strValues b2).toArray n2) (listOf (strValues b3).toArray n3) (listOf (strValues c1).toArray k1) (listOf (strValues c2).toArray k2) (listOf (strValues c3).toArray k3)
/-- a set part keeps a row in order -/
theorem OkRow.set {row : List Str} (h : OkRow row) (i : Nat) {x : Str} (hx : x ∈ valsT) : OkRow (row.set i x) := by
  have hv : OkRow valsT := okB_ok (by decide +kernel)
  refine ⟨by rw [List.length_set]; exact h.few, fun p hp => ?_, fun p hp => ?_⟩
  · rcases List.mem_or_eq_of_mem_set hp with hp | rfl
    · exact h.short p hp
    · exact hv.short _ hx
  · rcases List.mem_or_eq_of_mem_set hp with hp | rfl
    · exact h.plain p hp
    · exact hv.plain _ hx
theorem strOk_plain {x : Str} (h : ∀ c ∈ x.cps.toList, c < 128) : PyData.strOk x = true := by
  unfold PyData.strOk
  rw [Array.all_eq_true_iff_forall_mem]
  intro c hc
  have := h c (Array.mem_toList_iff.mpr hc)
  exact decide_eq_true (by omega)
theorem OkRow.strs {row : List Str} (h : OkRow row) (n : Nat) : ∀ d ∈ row.map Dat.str, kqdOk n d = true := by
  intro d hd
  obtain ⟨x, hx, rfl⟩ := List.mem_map.mp hd
  have := strOk_plain fun c hc => (h.plain x hx c hc).1
  cases n <;> simpa [kqdOk] using this
theorem listD_ok {row : List Str} (h : OkRow row) (n : Nat) : kqdOk (n + 1) (listD row) = true := by
  simp only [listD, kqdOk, List.all_eq_true]
  exact h.strs n
theorem snapD_ok {r1 r2 r3 ra rc : List Str} (h1 : OkRow r1) (h2 : OkRow r2) (h3 : OkRow r3) (ha : OkRow ra) (hc : OkRow rc) : kqdOk 8 (snapD r1 r2 r3 ra rc) = true := by
  simp only [snapD, kqdOk, List.all_cons, List.all_nil, Bool.and_true, listD_ok h1, listD_ok h2, listD_ok h3, listD_ok ha, listD_ok hc]
theorem toldT_ok (pl : Int) (row : List Str) (n : Nat) : kqdOk n (.str (toldT pl row)) = true := by
  unfold toldT
  split <;> cases n <;> simp only [kqdOk] <;> decide +kernel

end Mine
end
section
open PySem PySem.W PyProof.Rows PySem.Calls Builtin Builtin.ObjectAttr
namespace Mine
set_option maxRecDepth 100000
set_option maxHeartbeats 8000000
local macro_rules | `(tactic| walk_at "getAttr ref") => `(tactic| (k_here; k_dflt (refine' hk_bound ?k1 ?k2 ?k3 ?k4 ?k5 ?kh ?k6 ?k7 ?k8 ?k9 ?k10 ?k11 ?k12 ?_; (case k4 => k_inst); (case k1 => k_asm); (case k2 => k_asm); (case k3 => k_asm); (case k5 => k_is); (case kh => k_is); (case k6 => k_is); (case k7 => k_is); (case k8 => k_is); (case k9 => k_is); (case k10 => k_is); (case k11 => decide +kernel); (case k12 => k_get); k_whole); intro q' h' F' N' l1; (try k_lt l1); (try k_sweep)))
local macro_rules | `(tactic| walk_at "getAttr ref") => `(tactic| (k_here; k_dflt (refine' hk_own ?k1 ?k2 ?k3 ?k4 ?k5 ?k6 ?k7 ?k8 ?k9 ?_; (case k1 => k_asm); (case k2 => k_asm); (case k3 => k_inst); (case k4 => k_is); (case k5 => k_is); (case k6 => k_is); (case k7 => k_is); (case k8 => k_get); (case k9 => k_handed); k_whole)))
local macro_rules | `(tactic| walk_at "getMethod ref") => `(tactic| (k_here; k_dflt (refine' hk_method ?k1 ?k2 ?k3 ?k4 ?k5 ?_; (case k1 => k_asm); (case k2 => k_asm); (case k3 => k_inst); (case k4 => k_is); (case k5 => k_is); k_whole)))
local macro_rules | `(tactic| ktr_enter) => `(tactic| (refine' code_def ?k1 ?k2 ?k3 ?k4 ?k5 ?kA ?kF ?kK ?k6 ?k7 ?k8 ?k9 ?kB ?_ ?c2 ?c3 ?c4 ?c5; (case kA => exact rfl); (case kF => exact rfl); (case kK => first | assumption | exact rfl); (case k1 => k_asm); (case k2 => k_asm); (case k3 => k_asm); (case k4 => k_asm); (case k5 => k_asm); (case k6 => k_is); (case k7 => k_is); (case k8 => ktr_room); (case k9 => first | exact BindsTo.of_eq rfl | exact binds_K (by k_in) rfl (by k_is) rfl rfl rfl); (case c5 => decide); (case kB => exact locs rfl); (case c2 => exact rfl); (case c3 => exact rfl); (case c4 => exact rfl); k_whole; intro g' L' h' FG' F' N' B' X' T'; (try dsimp only); (try k_lift B'); (try k_fold)))
local macro_rules | `(tactic| ktr_call $c:term 0) => `(tactic| (refine wpAny_call ?_; k_dflt (refine' ct_use $c ?k1 ?k2 ?k3 ?k4 ?k5 ?kK ?kd ?ku ?kp ?_; (case k1 => k_asm); (case k2 => k_asm); (case k3 => k_asm); (case k4 => k_asm); (case k5 => k_asm); (case kK => first | assumption | exact rfl); (case kd => ktr_room); (case ku => ktr_units))))
local macro_rules | `(tactic| ktr_call $c:term 1) => `(tactic| (refine' call_meth ?N ?q ?_; (case N => k_asm); (case q => k_mem); k_dflt (refine' ct_use $c ?k1 ?k2 ?k3 ?k4 ?k5 ?kK ?kd ?ku ?kp ?_; (case k1 => k_asm); (case k2 => k_asm); (case k3 => k_asm); (case k4 => k_asm); (case k5 => k_asm); (case kK => first | assumption | exact rfl); (case kd => ktr_room); (case ku => ktr_units))))
local macro_rules | `(tactic| k_mem) => `(tactic| first | assumption | exact List.mem_cons_self .. | (refine' List.mem_cons_of_mem _ ?_; k_mem))
local macro_rules | `(tactic| kst_same) => `(tactic| (intro z h1 h2 h3; (simp only [List.forall_mem_cons, List.not_mem_nil, false_implies, implies_true, and_true, ne_eq] at h2); (simp only [List.contains_cons, List.contains_nil, Bool.or_false, Bool.or_eq_false_iff, beq_eq_false_iff_ne, ne_eq] at h3); (simp [kstB, h1, h2, h3]; done)))
local macro_rules | `(tactic| kby_size) => `(tactic| (rw [PySem.sizeLine_eq]; omega))
local macro_rules | `(tactic| walk_at "call builtin:str.lstrip") => `(tactic| (k_here; (refine KXw.lstrip (by assumption) (by kby_size) ?_); intro _ _))
local macro_rules | `(tactic| walk_at "call builtin:str.strip") => `(tactic| (k_here; (refine KXw.strip (by assumption) (by kby_size) ?_); intro _ _))
local macro_rules | `(tactic| walk_at "call builtin:str.strip") => `(tactic| (k_here; (refine KXw.stripChars (by assumption) (by kby_size) ?_); intro _ _))
local macro_rules | `(tactic| walk_at "call builtin:str.upper") => `(tactic| (k_here; (refine KXw.upper (by assumption) (by decide +kernel) ?_); intro _ _))
local macro_rules | `(tactic| walk_at "call builtin:str.partition") => `(tactic| (k_here; (refine KXpa.partition (by k_asm) (by k_asm) (by decide) (by assumption) (by assumption) (by assumption) (by kby_size) ?_); intro D' _ _ _ _ _ F' N' l1; (try k_lt l1)))
local macro_rules | `(tactic| walk_at "call builtin:str.split") => `(tactic| (k_here; (refine KSpl.split1 (by k_asm) (by k_asm) (by decide) ?_ (by kby_size)); intro D' _ _ _ _ _ F' N' l1; (try k_lt l1)))
--FROM MM6
theorem off_of {a : Ads} {st : Led} {oT oU o1 o2 o3 e1 e2 e3 : Obj} {x : Addr} (h : ∀ q ∈ st ++ muL a oT oU o1 o2 o3 e1 e2 e3, q.1 ≠ x) : x ∉ MU a := by
  intro hx
  have hm : ∀ y o, (y, o) ∈ muL a oT oU o1 o2 o3 e1 e2 e3 → y ≠ x := fun y o hy => h (y, o) (List.mem_append_right _ hy)
  unfold MU at hx
  unfold muL at hm
  simp only [List.mem_cons, List.not_mem_nil, or_false] at hx
  rcases hx with rfl | rfl | rfl | rfl | rfl | rfl | rfl | rfl
  · exact hm _ oT (by simp) rfl
  · exact hm _ oU (by simp) rfl
  · exact hm _ o1 (by simp) rfl
  · exact hm _ o2 (by simp) rfl
  · exact hm _ o3 (by simp) rfl
  · exact hm _ e1 (by simp) rfl
  · exact hm _ e2 (by simp) rfl
  · exact hm _ e3 (by simp) rfl
/-- the six names of the frame -/
structure Six (a : Ads) (m : Str → Option Value) : Prop where
  due : m "due" = some (.ref a.U)
  told : m "told" = some (.ref a.T)
  msgs : m "msgs" = some (.ref a.M)
  kept : m "kept" = some (.ref a.KP)
  handed : m "handed" = some (.ref a.H)
  rows : m "rows" = some (.ref a.R)
theorem Six.self {a : Ads} {m : Str → Option Value} (h : Six a m) : m = lawM a m := lawM_self h.due h.told h.msgs h.kept h.handed h.rows
theorem six_law (a : Ads) (rest : Str → Option Value) : Six a (lawM a rest) := ⟨rfl, rfl, rfl, rfl, rfl, rfl⟩
theorem six_turn (a : Ads) (rest : Str → Option Value) (nb ki wh pl : Int) (tn tk tw tp : Tok) (vl : Value) : Six a (turnM a rest nb ki wh pl tn tk tw tp vl) := ⟨rfl, rfl, rfl, rfl, rfl, rfl⟩
theorem len9 {ls : List (Str × Tok)} {r : List Str} (e : ls.map (·.1) = r) (h : OkRow r) : ls.length ≤ 9 := by
  have := h.few
  rw [← e, List.length_map] at this
  exact this
section
variable {w : World} {base : Heap} {mean : ExcName → Option Value} {mg mb : Str → Option Value} {L fa : Addr} {cd : Value} {s : Shared} {Q : Flow → Shared → Prop} {E : Value → Shared → Prop} {rest : Str → Option Value} {a : Ads} {ra rc : List Str} {st : Led} {nb ki pl : Int} {tn tk tw tp : Tok} {vl : Value} {tx : Str}
variable {own : Led} {vT vU : List Value} {ds : List Dat} {b1 b2 b3 c1 c2 c3 : List (Str × Tok)} {nT nU n1 n2 n3 k1 k2 k3 bd : Nat} {wh : Int}
theorem l_tail (K0 : Below callerA base [] base) (X : Frag.In (Mine.hd.heap_39 w.params) base) (T : Top VW LO mean mg mb base) (R : RunAt w.params a ra rc st vT vU ds b1 b2 b3 c1 c2 c3 (bd + 1)) (hb : bd ≤ 900) (hown : ∀ p ∈ own, p.1 ∉ MU a)
    (F : Fr base L s.heap (turnM a rest nb ki wh pl tn tk tw tp vl)) (N : News base L s.heap ((own ++ st) ++ ledM a vT vU b1 b2 b3 c1 c2 c3 nT nU n1 n2 n3 k1 k2 k3))
    (ret : ∀ m' st' vT' vU' ds' nT' nU' h' tk', Fr base L h' m' → Six a m' → News base L h' ((own ++ st') ++ ledM a vT' vU' b1 b2 b3 c1 c2 c3 nT' nU' n1 n2 n3 k1 k2 k3) → RunAt w.params a ra rc st' vT' vU' ds' b1 b2 b3 c1 c2 c3 (bd + 2) → (∀ p ∈ st', p ∈ st ∨ ∀ q ∈ own, q.1 ≠ p.1) → Q .next { s with heap := h', toks := tk' }) :
    wpAny (model PG w) (lawAr L fa cd) (execs (loopBody.drop 5) (lawEnv L fa cd)) Q E s := by
  have hend : loopBody.drop (5 + 1) = [] := List.drop_eq_nil_of_le (by rw [loopBody_len]; decide)
  refine execs_at 5 1 loopBody s ?_
  rw [hend]
  refine l_if K0 X T F N ?yes ?no
  case no =>
    intro h1 tk1 F1 N1
    exact wpAny_execs_nil (ret _ _ _ _ _ _ _ _ _ F1 (six_turn ..) N1 { R with len := Nat.le_succ_of_le R.len } fun p hp => .inl hp)
  case yes =>
    intro h1 tk1 F1 N1
    have hoff : ∀ p ∈ own ++ st, p.1 ∉ MU a := fun p hp => by
      rcases List.mem_append.mp hp with hp | hp
      · exact hown p hp
      · exact R.S.off p hp
    have S1 : Sta w.params a ra rc (own ++ st) := R.S.grow (fun p hp => List.mem_append_right _ hp) hoff
    rw [(six_turn a rest nb ki wh pl tn tk tw tp vl).self] at F1
    have lT : vT.length ≤ 1000 := by rw [R.dT.length]; have := R.len; omega
    have lU : vU.length ≤ 1000 := by rw [R.dU.length]; have := R.len; omega
    refine execs_take 1 snapBody _ ?_
    refine l_toldA K0 X T S1 (len9 R.e1 R.ok1) (len9 R.e2 R.ok2) (len9 R.e3 R.ok3) R.za.few R.zc.few R.e1 R.e2 R.e3 lT F1 N1 ?_
    intro nw v h2 tk2 F2 N2 fr2 d2
    have hoff2 : ∀ p ∈ nw ++ (own ++ st), p.1 ∉ MU a := fun p hp => by
      rcases List.mem_append.mp hp with hp | hp
      · exact off_of (fr2 p hp)
      · exact hoff p hp
    have S2 : Sta w.params a ra rc (nw ++ (own ++ st)) := S1.grow (fun p hp => List.mem_append_right _ hp) hoff2
    rw [← List.append_assoc] at N2
    refine l_dueA K0 X T S2 (len9 rfl R.ok1) (len9 rfl R.ok2) (len9 rfl R.ok3) rfl rfl rfl lU F2 N2 ?_
    intro nv u h3 tk3 F3 N3 fr3 d3
    refine wpAny_execs_nil (ret _ (nv ++ (nw ++ st)) (vT ++ [v]) (vU ++ [u]) (ds ++ [snapD (b1.map (·.1)) (b2.map (·.1)) (b3.map (·.1)) ra rc]) (nT + 1) (nU + 1) _ _ F3 (six_law ..) ?n ?r ?o)
    case n =>
      intro p hp
      refine N3 p ?_
      rcases List.mem_append.mp hp with hp | hp
      · rcases List.mem_append.mp hp with hp | hp
        · exact List.mem_append_right _ (List.mem_append_left _ (List.mem_append_right _ (List.mem_append_left _ hp)))
        rcases List.mem_append.mp hp with hp | hp
        · exact List.mem_append_left _ hp
        rcases List.mem_append.mp hp with hp | hp
        · exact List.mem_append_right _ (List.mem_append_left _ (List.mem_append_left _ hp))
        · exact List.mem_append_right _ (List.mem_append_left _ (List.mem_append_right _ (List.mem_append_right _ hp)))
      · exact List.mem_append_right _ (List.mem_append_right _ hp)
    case r =>
      have sub : ∀ p ∈ st, p ∈ nv ++ (nw ++ st) := fun p hp => List.mem_append_right _ (List.mem_append_right _ hp)
      refine { R with S := R.S.grow sub fun p hp => ?_, dT := dat_snoc (datAll_mono sub R.dT) (d2.mono fun p hp => List.mem_append_right _ (List.mem_append_left _ hp)), dU := dat_snoc (datAll_mono sub R.dU) ((d3 st R.S).mono fun p hp => ?_), len := ?_, ok := fun d hd => ?_ }
      · rcases List.mem_append.mp hp with hp | hp
        · exact off_of (fr3 p hp)
        rcases List.mem_append.mp hp with hp | hp
        · exact off_of (fr2 p hp)
        · exact R.S.off p hp
      · rcases List.mem_append.mp hp with hp | hp
        · exact List.mem_append_left _ hp
        · exact sub p hp
      · rw [List.length_append, List.length_singleton]; have := R.len; omega
      · rcases List.mem_append.mp hd with hd | hd
        · exact R.ok d hd
        · rw [List.mem_singleton.mp hd]
          exact snapD_ok R.ok1 R.ok2 R.ok3 R.za R.zc
    case o =>
      intro p hp
      rcases List.mem_append.mp hp with hp | hp
      · exact .inr fun q hq => fr3 p hp q (List.mem_append_left _ (List.mem_append_right _ (List.mem_append_left _ hq)))
      rcases List.mem_append.mp hp with hp | hp
      · exact .inr fun q hq => fr2 p hp q (List.mem_append_left _ (List.mem_append_left _ hq))
      · exact .inl hp
end

end Mine
end
section
open PySem PySem.W PyProof.Rows PySem.Calls Builtin Builtin.ObjectAttr
namespace Mine
set_option maxRecDepth 100000
set_option maxHeartbeats 8000000
local macro_rules | `(tactic| walk_at "getAttr ref") => `(tactic| (k_here; k_dflt (refine' hk_bound ?k1 ?k2 ?k3 ?k4 ?k5 ?kh ?k6 ?k7 ?k8 ?k9 ?k10 ?k11 ?k12 ?_; (case k4 => k_inst); (case k1 => k_asm); (case k2 => k_asm); (case k3 => k_asm); (case k5 => k_is); (case kh => k_is); (case k6 => k_is); (case k7 => k_is); (case k8 => k_is); (case k9 => k_is); (case k10 => k_is); (case k11 => decide +kernel); (case k12 => k_get); k_whole); intro q' h' F' N' l1; (try k_lt l1); (try k_sweep)))
local macro_rules | `(tactic| walk_at "getAttr ref") => `(tactic| (k_here; k_dflt (refine' hk_own ?k1 ?k2 ?k3 ?k4 ?k5 ?k6 ?k7 ?k8 ?k9 ?_; (case k1 => k_asm); (case k2 => k_asm); (case k3 => k_inst); (case k4 => k_is); (case k5 => k_is); (case k6 => k_is); (case k7 => k_is); (case k8 => k_get); (case k9 => k_handed); k_whole)))
local macro_rules | `(tactic| walk_at "getMethod ref") => `(tactic| (k_here; k_dflt (refine' hk_method ?k1 ?k2 ?k3 ?k4 ?k5 ?_; (case k1 => k_asm); (case k2 => k_asm); (case k3 => k_inst); (case k4 => k_is); (case k5 => k_is); k_whole)))
local macro_rules | `(tactic| ktr_enter) => `(tactic| (refine' code_def ?k1 ?k2 ?k3 ?k4 ?k5 ?kA ?kF ?kK ?k6 ?k7 ?k8 ?k9 ?kB ?_ ?c2 ?c3 ?c4 ?c5; (case kA => exact rfl); (case kF => exact rfl); (case kK => first | assumption | exact rfl); (case k1 => k_asm); (case k2 => k_asm); (case k3 => k_asm); (case k4 => k_asm); (case k5 => k_asm); (case k6 => k_is); (case k7 => k_is); (case k8 => ktr_room); (case k9 => first | exact BindsTo.of_eq rfl | exact binds_K (by k_in) rfl (by k_is) rfl rfl rfl); (case c5 => decide); (case kB => exact locs rfl); (case c2 => exact rfl); (case c3 => exact rfl); (case c4 => exact rfl); k_whole; intro g' L' h' FG' F' N' B' X' T'; (try dsimp only); (try k_lift B'); (try k_fold)))
local macro_rules | `(tactic| ktr_call $c:term 0) => `(tactic| (refine wpAny_call ?_; k_dflt (refine' ct_use $c ?k1 ?k2 ?k3 ?k4 ?k5 ?kK ?kd ?ku ?kp ?_; (case k1 => k_asm); (case k2 => k_asm); (case k3 => k_asm); (case k4 => k_asm); (case k5 => k_asm); (case kK => first | assumption | exact rfl); (case kd => ktr_room); (case ku => ktr_units))))
local macro_rules | `(tactic| ktr_call $c:term 1) => `(tactic| (refine' call_meth ?N ?q ?_; (case N => k_asm); (case q => k_mem); k_dflt (refine' ct_use $c ?k1 ?k2 ?k3 ?k4 ?k5 ?kK ?kd ?ku ?kp ?_; (case k1 => k_asm); (case k2 => k_asm); (case k3 => k_asm); (case k4 => k_asm); (case k5 => k_asm); (case kK => first | assumption | exact rfl); (case kd => ktr_room); (case ku => ktr_units))))
local macro_rules | `(tactic| k_mem) => `(tactic| first | assumption | exact List.mem_cons_self .. | (refine' List.mem_cons_of_mem _ ?_; k_mem))
local macro_rules | `(tactic| kst_same) => `(tactic| (intro z h1 h2 h3; (simp only [List.forall_mem_cons, List.not_mem_nil, false_implies, implies_true, and_true, ne_eq] at h2); (simp only [List.contains_cons, List.contains_nil, Bool.or_false, Bool.or_eq_false_iff, beq_eq_false_iff_ne, ne_eq] at h3); (simp [kstB, h1, h2, h3]; done)))
local macro_rules | `(tactic| kby_size) => `(tactic| (rw [PySem.sizeLine_eq]; omega))
local macro_rules | `(tactic| walk_at "call builtin:str.lstrip") => `(tactic| (k_here; (refine KXw.lstrip (by assumption) (by kby_size) ?_); intro _ _))
local macro_rules | `(tactic| walk_at "call builtin:str.strip") => `(tactic| (k_here; (refine KXw.strip (by assumption) (by kby_size) ?_); intro _ _))
local macro_rules | `(tactic| walk_at "call builtin:str.strip") => `(tactic| (k_here; (refine KXw.stripChars (by assumption) (by kby_size) ?_); intro _ _))
local macro_rules | `(tactic| walk_at "call builtin:str.upper") => `(tactic| (k_here; (refine KXw.upper (by assumption) (by decide +kernel) ?_); intro _ _))
local macro_rules | `(tactic| walk_at "call builtin:str.partition") => `(tactic| (k_here; (refine KXpa.partition (by k_asm) (by k_asm) (by decide) (by assumption) (by assumption) (by assumption) (by kby_size) ?_); intro D' _ _ _ _ _ F' N' l1; (try k_lt l1)))
local macro_rules | `(tactic| walk_at "call builtin:str.split") => `(tactic| (k_here; (refine KSpl.split1 (by k_asm) (by k_asm) (by decide) ?_ (by kby_size)); intro D' _ _ _ _ _ F' N' l1; (try k_lt l1)))
--FROM MM7
section
variable {w : World} {base : Heap} {mean : ExcName → Option Value} {mg mb : Str → Option Value} {L fa : Addr} {cd : Value} {s : Shared} {Q : Flow → Shared → Prop} {E : Value → Shared → Prop} {rest : Str → Option Value} {a : Ads} {ra rc : List Str} {st : Led} {nb ki pl : Int} {tn tk tw tp : Tok} {vl : Value} {tx : Str}
variable {own : Led} {vT vU : List Value} {ds : List Dat} {b1 b2 b3 c1 c2 c3 : List (Str × Tok)} {nT nU n1 n2 n3 k1 k2 k3 bd : Nat}
theorem l_turn (K0 : Below callerA base [] base) (X : Frag.In (Mine.hd.heap_39 w.params) base) (T : Top VW LO mean mg mb base) (R : RunAt w.params a ra rc st vT vU ds b1 b2 b3 c1 c2 c3 bd) (hb : bd ≤ 900) (hown : ∀ p ∈ own, p.1 ∉ MU a)
    (F : Fr base L s.heap (fun x => if x = "number" then some (.int nb tn) else if x = "k" then some (.int ki tk) else lawM a rest x)) (N : News base L s.heap ((own ++ st) ++ ledM a vT vU b1 b2 b3 c1 c2 c3 nT nU n1 n2 n3 k1 k2 k3))
    (ret : ∀ m' st' vT' vU' ds' b1' b2' b3' c1' c2' c3' nT' nU' h' tk', Fr base L h' m' → Six a m' → News base L h' ((own ++ st') ++ ledM a vT' vU' b1' b2' b3' c1' c2' c3' nT' nU' n1 n2 n3 k1 k2 k3) → RunAt w.params a ra rc st' vT' vU' ds' b1' b2' b3' c1' c2' c3' (bd + 2) → (∀ p ∈ st', p ∈ st ∨ ∀ q ∈ own, q.1 ≠ p.1) → Q .next { s with heap := h', toks := tk' }) :
    wpAny (model PG w) (lawAr L fa cd) (execs loopBody (lawEnv L fa cd)) Q E s := by
  refine execs_take 3 loopBody s ?_
  refine l_pick K0 X T F N ?_
  intro wh pl tw tp vl tx h1 tk1 F1 N1 w0 w3 p0 p8 p5 hv htx
  have hoff : ∀ p ∈ own ++ st, p.1 ∉ MU a := fun p hp => by
    rcases List.mem_append.mp hp with hp | hp
    · exact hown p hp
    · exact R.S.off p hp
  have S1 : Sta w.params a ra rc (own ++ st) := R.S.grow (fun p hp => List.mem_append_right _ hp) hoff
  have lT : vT.length ≤ 1000 := by rw [R.dT.length]; have := R.len; omega
  have lU : vU.length ≤ 1000 := by rw [R.dU.length]; have := R.len; omega
  have lD : ∀ d : Dat, (ds ++ [d]).length ≤ bd + 1 := fun d => by rw [List.length_append, List.length_singleton]; have := R.len; omega
  have okD : ∀ e : Dat, kqdOk 8 e = true → ∀ d ∈ ds ++ [e], kqdOk 8 d = true := fun e he d hd => by
    rcases List.mem_append.mp hd with hd | hd
    · exact R.ok d hd
    · rw [List.mem_singleton.mp hd]; exact he
  refine execs_at 3 1 loopBody _ ?_
  rcases (by omega : wh = 0 ∨ wh = 1 ∨ wh = 2) with rfl | rfl | rfl
  · refine l_set1 K0 X T S1 p0 (p5 (by decide)) hv (b1.map (·.1)) R.ok1 R.e1 lT F1 N1 ?_
    intro lc kt h2 tk2 f2 F2 N2
    refine execs_at 4 1 loopBody _ ?_
    refine l_row1 K0 X T S1 p0 (by omega) hv (b1.map (·.1)) R.ok1 rfl lU F2 N2 ?_
    intro lb kt3 h3 tk3 f3 F3 N3
    have okr : OkRow (lb.map (·.1)) := by rw [f3]; exact R.ok1.set _ htx
    refine l_tail (vT := vT ++ [Value.str (toldT pl (b1.map (·.1))) kt]) (vU := vU ++ [Value.str (toldT pl (b1.map (·.1))) kt3]) (ds := ds ++ [.str (toldT pl (b1.map (·.1)))]) K0 X T { R with dT := dat_snoc R.dT (.str _ _), dU := dat_snoc R.dU (.str _ _), len := lD _, ok := okD _ (toldT_ok _ _ _), ok1 := okr, e1 := f2.trans f3.symm } hb hown F3 N3 ?_
    intro m' st' vT' vU' ds' nT' nU' h' tk' a1 a2 a3 a4 a5
    exact ret m' st' vT' vU' ds' lb b2 b3 lc c2 c3 nT' nU' h' tk' a1 a2 a3 a4 a5
  · refine l_set2 K0 X T S1 p0 (p8 rfl) hv (b2.map (·.1)) R.ok2 R.e2 lT F1 N1 ?_
    intro lc kt h2 tk2 f2 F2 N2
    refine execs_at 4 1 loopBody _ ?_
    refine l_row2 K0 X T S1 p0 (by omega) hv (b2.map (·.1)) R.ok2 rfl lU F2 N2 ?_
    intro lb kt3 h3 tk3 f3 F3 N3
    have okr : OkRow (lb.map (·.1)) := by rw [f3]; exact R.ok2.set _ htx
    refine l_tail (vT := vT ++ [Value.str (toldT pl (b2.map (·.1))) kt]) (vU := vU ++ [Value.str (toldT pl (b2.map (·.1))) kt3]) (ds := ds ++ [.str (toldT pl (b2.map (·.1)))]) K0 X T { R with dT := dat_snoc R.dT (.str _ _), dU := dat_snoc R.dU (.str _ _), len := lD _, ok := okD _ (toldT_ok _ _ _), ok2 := okr, e2 := f2.trans f3.symm } hb hown F3 N3 ?_
    intro m' st' vT' vU' ds' nT' nU' h' tk' a1 a2 a3 a4 a5
    exact ret m' st' vT' vU' ds' b1 lb b3 c1 lc c3 nT' nU' h' tk' a1 a2 a3 a4 a5
  · refine l_set3 K0 X T S1 p0 (p5 (by decide)) hv (b3.map (·.1)) R.ok3 R.e3 lT F1 N1 ?_
    intro lc kt h2 tk2 f2 F2 N2
    refine execs_at 4 1 loopBody _ ?_
    refine l_row3 K0 X T S1 p0 (by omega) hv (b3.map (·.1)) R.ok3 rfl lU F2 N2 ?_
    intro lb kt3 h3 tk3 f3 F3 N3
    have okr : OkRow (lb.map (·.1)) := by rw [f3]; exact R.ok3.set _ htx
    refine l_tail (vT := vT ++ [Value.str (toldT pl (b3.map (·.1))) kt]) (vU := vU ++ [Value.str (toldT pl (b3.map (·.1))) kt3]) (ds := ds ++ [.str (toldT pl (b3.map (·.1)))]) K0 X T { R with dT := dat_snoc R.dT (.str _ _), dU := dat_snoc R.dU (.str _ _), len := lD _, ok := okD _ (toldT_ok _ _ _), ok3 := okr, e3 := f2.trans f3.symm } hb hown F3 N3 ?_
    intro m' st' vT' vU' ds' nT' nU' h' tk' a1 a2 a3 a4 a5
    exact ret m' st' vT' vU' ds' b1 b2 lb c1 c2 lc nT' nU' h' tk' a1 a2 a3 a4 a5
end

end Mine
end
section
open PySem PySem.W PyProof.Rows PySem.Calls Builtin Builtin.ObjectAttr
namespace Mine
set_option maxRecDepth 100000
set_option maxHeartbeats 8000000
local macro_rules | `(tactic| walk_at "getAttr ref") => `(tactic| (k_here; k_dflt (refine' hk_bound ?k1 ?k2 ?k3 ?k4 ?k5 ?kh ?k6 ?k7 ?k8 ?k9 ?k10 ?k11 ?k12 ?_; (case k4 => k_inst); (case k1 => k_asm); (case k2 => k_asm); (case k3 => k_asm); (case k5 => k_is); (case kh => k_is); (case k6 => k_is); (case k7 => k_is); (case k8 => k_is); (case k9 => k_is); (case k10 => k_is); (case k11 => decide +kernel); (case k12 => k_get); k_whole); intro q' h' F' N' l1; (try k_lt l1); (try k_sweep)))
local macro_rules | `(tactic| walk_at "getAttr ref") => `(tactic| (k_here; k_dflt (refine' hk_own ?k1 ?k2 ?k3 ?k4 ?k5 ?k6 ?k7 ?k8 ?k9 ?_; (case k1 => k_asm); (case k2 => k_asm); (case k3 => k_inst); (case k4 => k_is); (case k5 => k_is); (case k6 => k_is); (case k7 => k_is); (case k8 => k_get); (case k9 => k_handed); k_whole)))
local macro_rules | `(tactic| walk_at "getMethod ref") => `(tactic| (k_here; k_dflt (refine' hk_method ?k1 ?k2 ?k3 ?k4 ?k5 ?_; (case k1 => k_asm); (case k2 => k_asm); (case k3 => k_inst); (case k4 => k_is); (case k5 => k_is); k_whole)))
local macro_rules | `(tactic| ktr_enter) => `(tactic| (refine' code_def ?k1 ?k2 ?k3 ?k4 ?k5 ?kA ?kF ?kK ?k6 ?k7 ?k8 ?k9 ?kB ?_ ?c2 ?c3 ?c4 ?c5; (case kA => exact rfl); (case kF => exact rfl); (case kK => first | assumption | exact rfl); (case k1 => k_asm); (case k2 => k_asm); (case k3 => k_asm); (case k4 => k_asm); (case k5 => k_asm); (case k6 => k_is); (case k7 => k_is); (case k8 => ktr_room); (case k9 => first | exact BindsTo.of_eq rfl | exact binds_K (by k_in) rfl (by k_is) rfl rfl rfl); (case c5 => decide); (case kB => exact locs rfl); (case c2 => exact rfl); (case c3 => exact rfl); (case c4 => exact rfl); k_whole; intro g' L' h' FG' F' N' B' X' T'; (try dsimp only); (try k_lift B'); (try k_fold)))
local macro_rules | `(tactic| ktr_call $c:term 0) => `(tactic| (refine wpAny_call ?_; k_dflt (refine' ct_use $c ?k1 ?k2 ?k3 ?k4 ?k5 ?kK ?kd ?ku ?kp ?_; (case k1 => k_asm); (case k2 => k_asm); (case k3 => k_asm); (case k4 => k_asm); (case k5 => k_asm); (case kK => first | assumption | exact rfl); (case kd => ktr_room); (case ku => ktr_units))))
local macro_rules | `(tactic| ktr_call $c:term 1) => `(tactic| (refine' call_meth ?N ?q ?_; (case N => k_asm); (case q => k_mem); k_dflt (refine' ct_use $c ?k1 ?k2 ?k3 ?k4 ?k5 ?kK ?kd ?ku ?kp ?_; (case k1 => k_asm); (case k2 => k_asm); (case k3 => k_asm); (case k4 => k_asm); (case k5 => k_asm); (case kK => first | assumption | exact rfl); (case kd => ktr_room); (case ku => ktr_units))))
local macro_rules | `(tactic| k_mem) => `(tactic| first | assumption | exact List.mem_cons_self .. | (refine' List.mem_cons_of_mem _ ?_; k_mem))
local macro_rules | `(tactic| kst_same) => `(tactic| (intro z h1 h2 h3; (simp only [List.forall_mem_cons, List.not_mem_nil, false_implies, implies_true, and_true, ne_eq] at h2); (simp only [List.contains_cons, List.contains_nil, Bool.or_false, Bool.or_eq_false_iff, beq_eq_false_iff_ne, ne_eq] at h3); (simp [kstB, h1, h2, h3]; done)))
local macro_rules | `(tactic| kby_size) => `(tactic| (rw [PySem.sizeLine_eq]; omega))
local macro_rules | `(tactic| walk_at "call builtin:str.lstrip") => `(tactic| (k_here; (refine KXw.lstrip (by assumption) (by kby_size) ?_); intro _ _))
local macro_rules | `(tactic| walk_at "call builtin:str.strip") => `(tactic| (k_here; (refine KXw.strip (by assumption) (by kby_size) ?_); intro _ _))
local macro_rules | `(tactic| walk_at "call builtin:str.strip") => `(tactic| (k_here; (refine KXw.stripChars (by assumption) (by kby_size) ?_); intro _ _))
local macro_rules | `(tactic| walk_at "call builtin:str.upper") => `(tactic| (k_here; (refine KXw.upper (by assumption) (by decide +kernel) ?_); intro _ _))
local macro_rules | `(tactic| walk_at "call builtin:str.partition") => `(tactic| (k_here; (refine KXpa.partition (by k_asm) (by k_asm) (by decide) (by assumption) (by assumption) (by assumption) (by kby_size) ?_); intro D' _ _ _ _ _ F' N' l1; (try k_lt l1)))
local macro_rules | `(tactic| walk_at "call builtin:str.split") => `(tactic| (k_here; (refine KSpl.split1 (by k_asm) (by k_asm) (by decide) ?_ (by kby_size)); intro D' _ _ _ _ _ F' N' l1; (try k_lt l1)))
--FROM MM8
theorem mu_mem {a : Ads} {oT oU o1 o2 o3 e1 e2 e3 : Obj} {x : Addr} (hx : x ∈ MU a) : ∃ o, (x, o) ∈ muL a oT oU o1 o2 o3 e1 e2 e3 := by
  unfold MU at hx
  unfold muL
  simp only [List.mem_cons, List.not_mem_nil, or_false] at hx
  rcases hx with rfl | rfl | rfl | rfl | rfl | rfl | rfl | rfl
  · exact ⟨_, .head _⟩
  · exact ⟨_, .tail _ (.head _)⟩
  · exact ⟨_, .tail _ (.tail _ (.head _))⟩
  · exact ⟨_, .tail _ (.tail _ (.tail _ (.head _)))⟩
  · exact ⟨_, .tail _ (.tail _ (.tail _ (.tail _ (.head _))))⟩
  · exact ⟨_, .tail _ (.tail _ (.tail _ (.tail _ (.tail _ (.head _)))))⟩
  · exact ⟨_, .tail _ (.tail _ (.tail _ (.tail _ (.tail _ (.tail _ (.head _))))))⟩
  · exact ⟨_, .tail _ (.tail _ (.tail _ (.tail _ (.tail _ (.tail _ (.tail _ (.head _)))))))⟩
theorem mem_mu {a : Ads} {oT oU o1 o2 o3 e1 e2 e3 : Obj} {p : Addr × Obj} (hp : p ∈ muL a oT oU o1 o2 o3 e1 e2 e3) : p.1 ∈ MU a := by
  unfold muL at hp
  unfold MU
  simp only [List.mem_cons, List.not_mem_nil, or_false] at hp
  rcases hp with rfl | rfl | rfl | rfl | rfl | rfl | rfl | rfl <;> simp
theorem ints_at : ∀ {vs : List Value} {ns : List Int}, IntsAre vs ns → ∀ {i : Nat} {x : Value}, vs[i]? = some x → ∃ n t, x = .int n t
  | _, _, .nil, i, x, h => by simp at h
  | _, _, .cons n t r, 0, x, h => ⟨n, t, (Option.some.inj h).symm⟩
  | _, _, .cons _ _ r, i + 1, x, h => ints_at r (i := i) (by simpa using h)
/-- «for k, number in enumerate(l)» of a list of ints of the ledger, by an invariant -/
theorem enum_turns {w : World} {A : Around} {E : Value → Shared → Prop} {s : Shared} {env : Env} {h₀ : Heap} {l : Addr} {m : Str → Option Value} {Ld : Led} {elts : List PySem.Expr} {kk : Nat} {pos : Pos} {body : List PySem.Stmt} {Q : Flow → Shared → Prop} {ws : List Value} {ms : List Int} {c : Nat} (J : Nat → (Str → Option Value) → Led → Prop)
    (hh : A.handled = none) (F : Fr h₀ env.locals s.heap m) (N : News h₀ env.locals s.heap ((l, listOf ws.toArray c) :: Ld)) (l1 : ∀ p ∈ Ld, p.1 < l) (hI : IntsAre ws ms) (h0 : J 0 m Ld)
    (step : ∀ i n t tn m₁ news₁ h₁ tk₁ own T, i < ms.length → IsTup h₁ T #[.int (i : Nat) t, .int n tn] → J i m₁ news₁ → (∀ p ∈ news₁, p.1 ∉ [s.heap.objs.size + 1, s.heap.objs.size]) → (∀ p ∈ own, ∀ q ∈ Ld, q.1 ≠ p.1) → (∀ b ∈ [s.heap.objs.size + 1, s.heap.objs.size], ∃ o, (b, o) ∈ own) →
      Fr h₀ env.locals h₁ m₁ → News h₀ env.locals h₁ (own ++ news₁) →
      wpAny (model PG w) A (assign (.Tuple elts kk pos) env (.ref T)) (fun _ s₃ => wpAny (model PG w) A (execs body env)
        (LoopStepV h₀ env.locals [s.heap.objs.size + 1, s.heap.objs.size] own (J (i + 1)) { s with heap := h₁, toks := tk₁ } (fun v s' => Q (.ret v) s') fun s' => Q .next s') E s₃) E { s with heap := h₁, toks := tk₁ })
    (done : ∀ m' news' h' tk, J ms.length m' news' → Fr h₀ env.locals h' m' → News h₀ env.locals h' news' → Q .next { s with heap := h', toks := tk }) :
    wpAny (model PG w) A (call (.type "enumerate") [.ref l]) (fun xv s₁ => wpAny (model PG w) A (pyIter xv) (fun it s₂ => TurnsAt PG w A h₀ env (.Tuple elts kk pos) body Q E it s₂) E s₁) E s := by
  have hax := N _ (List.mem_cons_self ..)
  have hl : s.heap.IsList l ws.toArray := ⟨_, hax.1, rfl, c, rfl⟩
  have hlt : l < s.heap.objs.size := Heap.lt_size hax.1
  have hLs : env.locals < s.heap.objs.size := F.ns.lt
  have NL : News h₀ env.locals s.heap Ld := fun p hp => N p (.tail _ hp)
  have hsz : ws.toArray.size = ms.length := by rw [List.size_toArray, hI.length]
  refine call_enumerate_list hl fun h' hE hI' hsz' hk => ?_
  refine wpAny_pyIter_enum hE ?_
  have W := KTurns.ofWalksU (elts := elts) (k := kk) (pos := pos) (WalksT.enumerate (prog := PG) (w := w) hh (s.heap.objs.size + 1) s.heap.objs.size l (Nat.succ_ne_self _) (Nat.ne_of_lt (Nat.lt_succ_of_lt hlt)) (Nat.ne_of_lt hlt) ws.toArray).toU
  refine ⟨s.heap.objs.size + 1, _, _, _, _, _, _, m, Ld, J, rfl, W, ?_, ?_, ?_, ?_, F.keeps hk, NL.grown hk, h0, ?_, ?_⟩
  · intro hm
    have hb' : env.locals = s.heap.objs.size + 1 ∨ env.locals = s.heap.objs.size ∨ env.locals = l := by simpa using hm
    rcases hb' with e | e | e
    · exact Nat.ne_of_lt (Nat.lt_succ_of_lt hLs) e
    · exact Nat.ne_of_lt hLs e
    · exact hax.2.1 e.symm
  · intro b hb
    have hb' : b = s.heap.objs.size + 1 ∨ b = s.heap.objs.size := by simpa using hb
    rcases hb' with rfl | rfl
    · exact ktu_new F (Nat.le_add_right _ _)
    · exact ktu_new F (Nat.le_refl _)
  · intro p hp hm
    have q := Heap.lt_size (NL p hp).1
    have hb' : p.1 = s.heap.objs.size + 1 ∨ p.1 = s.heap.objs.size := by simpa using hm
    rcases hb' with e | e
    · exact Nat.ne_of_lt (Nat.lt_succ_of_lt q) e
    · exact Nat.ne_of_lt q e
  · exact ⟨⟨_, hE⟩, hI', ⟨_, hk _ _ hax.1, rfl, c, rfl⟩⟩
  · rintro i v m₁ news₁ h₁ tk₁ own hi ⟨T, vals, rfl, ⟨t, x, hx, rfl⟩, hT⟩ hJ hnw hsub _ hown ⟨⟨old, he⟩, ⟨oi, hoi, hic, _⟩, _⟩ F₁ N₁
    obtain ⟨n, tn, rfl⟩ := ints_at hI (i := i) (by simpa using hx)
    have he' : ∃ oe : Obj, h₁.get? (s.heap.objs.size + 1) = some oe := ⟨_, he⟩
    obtain ⟨oe, he'⟩ := he'
    refine step i n t tn m₁ news₁ h₁ tk₁ own T (by rw [← hsz]; exact hi) hT hJ hnw ?_ ?_ F₁ N₁
    · intro p hp q hq e
      have hb' : p.1 = s.heap.objs.size + 1 ∨ p.1 = s.heap.objs.size ∨ p.1 = l := by simpa using hsub p hp
      have q1 := Heap.lt_size (NL q hq).1
      have q2 := l1 q hq
      rcases hb' with e' | e' | e'
      · exact Nat.ne_of_lt (Nat.lt_succ_of_lt q1) (e.trans e')
      · exact Nat.ne_of_lt q1 (e.trans e')
      · exact Nat.ne_of_lt q2 (e.trans e')
    · intro b hb
      have hb' : b = s.heap.objs.size + 1 ∨ b = s.heap.objs.size := by simpa using hb
      rcases hb' with rfl | rfl
      · exact ⟨oe, hown _ (by simp) (ktu_new F (Nat.le_add_right _ _)) _ he'⟩
      · exact ⟨oi, hown _ (by simp) (ktu_new F (Nat.le_refl _)) _ hoi⟩
  · intro h' tk m' news' F' N' _ hJ
    exact done m' news' h' tk (hsz ▸ hJ) F' N'
section
variable {w : World} {base : Heap} {mean : ExcName → Option Value} {mg mb : Str → Option Value} {L fa : Addr} {cd : Value} {s : Shared} {Q : Flow → Shared → Prop} {E : Value → Shared → Prop} {rest : Str → Option Value} {a : Ads} {ra rc : List Str} {st : Led} {nb ki pl : Int} {tn tk tw tp : Tok} {vl : Value} {tx : Str}
variable {vT vU : List Value} {ds : List Dat} {b1 b2 b3 c1 c2 c3 : List (Str × Tok)} {nT nU n1 n2 n3 k1 k2 k3 bd : Nat} {Sc : Addr} {vs : List Value} {ns : List Int}
theorem l_loop (K0 : Below callerA base [] base) (X : Frag.In (Mine.hd.heap_39 w.params) base) (T : Top VW LO mean mg mb base) (hE : PassesOwn (model PG w) (lawAr L fa cd) (lawEnv L fa cd) E) (hL : base.IsList Sc vs.toArray) (hI : IntsAre vs ns) (hlen : ns.length ≤ 63) (R : RunAt w.params a ra rc st vT vU ds b1 b2 b3 c1 c2 c3 3)
    (F : Fr base L s.heap (lawM a (fun x => if x = "script" then some (.ref Sc) else rest x))) (N : News base L s.heap (st ++ ledM a vT vU b1 b2 b3 c1 c2 c3 nT nU n1 n2 n3 k1 k2 k3))
    (ret : ∀ m' st' vT' vU' ds' b1' b2' b3' c1' c2' c3' nT' nU' h' tk', Fr base L h' m' → Six a m' → News base L h' (st' ++ ledM a vT' vU' b1' b2' b3' c1' c2' c3' nT' nU' n1 n2 n3 k1 k2 k3) → RunAt w.params a ra rc st' vT' vU' ds' b1' b2' b3' c1' c2' c3' 140 → Q .next { s with heap := h', toks := tk' }) :
    wpAny (model PG w) (lawAr L fa cd) (execs ((lawBody.drop 9).take 1) (lawEnv L fa cd)) Q E s := by
  have hdif := R.S.dif
  have hMu : ∀ x ∈ MU a, ∃ o, (x, o) ∈ st ++ ledM a vT vU b1 b2 b3 c1 c2 c3 nT nU n1 n2 n3 k1 k2 k3 := by
    intro x hx
    unfold MU at hx
    unfold ledM muL
    simp only [List.mem_cons, List.not_mem_nil, or_false] at hx
    rcases hx with rfl | rfl | rfl | rfl | rfl | rfl | rfl | rfl
    · exact ⟨_, List.mem_append_right _ (.head _)⟩
    · exact ⟨_, List.mem_append_right _ (.tail _ (.head _))⟩
    · exact ⟨_, List.mem_append_right _ (.tail _ (.tail _ (.head _)))⟩
    · exact ⟨_, List.mem_append_right _ (.tail _ (.tail _ (.tail _ (.head _))))⟩
    · exact ⟨_, List.mem_append_right _ (.tail _ (.tail _ (.tail _ (.tail _ (.head _)))))⟩
    · exact ⟨_, List.mem_append_right _ (.tail _ (.tail _ (.tail _ (.tail _ (.tail _ (.head _))))))⟩
    · exact ⟨_, List.mem_append_right _ (.tail _ (.tail _ (.tail _ (.tail _ (.tail _ (.tail _ (.head _)))))))⟩
    · exact ⟨_, List.mem_append_right _ (.tail _ (.tail _ (.tail _ (.tail _ (.tail _ (.tail _ (.tail _ (.head _))))))))⟩
  revert hE
  refine fillit _ ?_
  k_fill
  dsimp only [lawAr, lawEnv, loopBody, lawBody, lawScope, lawDef, PySem.Challenge.pw_ez0283_01, List.getLast?, List.getLast, List.getElem?_cons_succ, List.getElem?_cons_zero, List.take, List.drop]
  intro hE
  obtain ⟨Ld, hLd⟩ : ∃ Ld, st ++ ledM a vT vU b1 b2 b3 c1 c2 c3 nT nU n1 n2 n3 k1 k2 k3 = Ld := ⟨_, rfl⟩
  rw [hLd] at N hMu
  have F0 := F
  delta lawM at F
  refine wpAny_execs_cons ?_
  refine For_turns F ?_ (hE := hE)
  repeat' ((fail_if_success (with_reducible show wpAny _ _ (PySem.call (Value.type "enumerate") _) _ _ _)); first | walk1 | (k_unfold; (try dsimp only)))
  try dsimp only
  rename IntsAre _ (List.take _ _) => hI9
  rename News base L _ (_ :: Ld) => N9
  rename Fr base L _ _ => F9
  rename (∀ p ∈ Ld, _) => l9
  rename (List.length _ ≤ ns.length) => hl9
  rename (List.length _ = _) => hc9
  refine enum_turns (fun i m nx => Six a m ∧ ∃ st' vT' vU' ds' b1' b2' b3' c1' c2' c3' nT' nU', nx = st' ++ ledM a vT' vU' b1' b2' b3' c1' c2' c3' nT' nU' n1 n2 n3 k1 k2 k3 ∧ RunAt w.params a ra rc st' vT' vU' ds' b1' b2' b3' c1' c2' c3' (3 + 2 * i)) rfl F9 N9 l9 hI9 ⟨six_law .., _, _, _, _, _, _, _, _, _, _, _, _, hLd.symm, R⟩ ?step ?done
  case done =>
    rintro m' news' h' tk ⟨h6, st', vT', vU', ds', b1', b2', b3', c1', c2', c3', nT', nU', rfl, R'⟩ F' N'
    exact wpAny_execs_nil (ret _ _ _ _ _ _ _ _ _ _ _ _ _ _ _ F' h6 N' { R' with len := Nat.le_trans R'.len (by omega) })
  case step =>
    rintro i nb t tn m₁ news₁ h₁ tk₁ own Tq hi hT ⟨h6, st', vT', vU', ds', b1', b2', b3', c1', c2', c3', nT', nU', rfl, R'⟩ hnw hfr hwr F₁ N₁
    have F2 := F₁
    rw [h6.self] at F2
    delta lawM at F2
    clear F₁ F9
    repeat' ((fail_if_success (with_reducible show wpAny _ _ (PySem.execs (List.cons _ _) _) _ _ _)); first | walk1 | (k_unfold; (try dsimp only)))
    try dsimp only
    rename Fr base L _ _ => F5
    rename News base L _ _ => N5
    have N6 := N5
    rw [← List.append_assoc] at N6
    have hown : ∀ p ∈ own, p.1 ∉ MU a := fun p hp hm => let ⟨o, ho⟩ := hMu _ hm; hfr p hp _ ho rfl
    refine l_turn (rest := m₁) K0 X T R' (by omega) hown F5 N6 ?_
    intro m' st2 vT2 vU2 ds2 b12 b22 b32 c12 c22 c32 nT2 nU2 h2 tk2 F7 h7 N7 R7 o7
    refine LoopStepV.next (LoopStepU.intro (news₂ := st2 ++ ledM a vT2 vU2 b12 b22 b32 c12 c22 c32 nT2 nU2 n1 n2 n3 k1 k2 k3) F7 (by rw [List.append_assoc] at N7; exact N7) ?_ ⟨h7, _, _, _, _, _, _, _, _, _, _, _, _, rfl, { R7 with len := by have := R7.len; omega }⟩)
    intro p hp hm
    rcases List.mem_append.mp hp with hp | hp
    · rcases o7 p hp with h | h
      · exact hnw p (List.mem_append_left _ h) hm
      · obtain ⟨o, ho⟩ := hwr _ hm
        exact h _ ho rfl
    · obtain ⟨o, ho⟩ := mu_mem (oT := listOf vT'.toArray nT') (oU := listOf vU'.toArray nU') (o1 := listOf (strValues b1').toArray n1) (o2 := listOf (strValues b2').toArray n2) (o3 := listOf (strValues b3').toArray n3) (e1 := listOf (strValues c1').toArray k1) (e2 := listOf (strValues c2').toArray k2) (e3 := listOf (strValues c3').toArray k3) (mem_mu hp)
      exact hnw _ (List.mem_append_right _ ho) hm
end

end Mine
end
section
open PySem PySem.W PyProof.Rows PySem.Calls Builtin Builtin.ObjectAttr
namespace Mine
set_option maxRecDepth 100000
set_option maxHeartbeats 8000000
local macro_rules | `(tactic| walk_at "getAttr ref") => `(tactic| (k_here; k_dflt (refine' hk_bound ?k1 ?k2 ?k3 ?k4 ?k5 ?kh ?k6 ?k7 ?k8 ?k9 ?k10 ?k11 ?k12 ?_; (case k4 => k_inst); (case k1 => k_asm); (case k2 => k_asm); (case k3 => k_asm); (case k5 => k_is); (case kh => k_is); (case k6 => k_is); (case k7 => k_is); (case k8 => k_is); (case k9 => k_is); (case k10 => k_is); (case k11 => decide +kernel); (case k12 => k_get); k_whole); intro q' h' F' N' l1; (try k_lt l1); (try k_sweep)))
local macro_rules | `(tactic| walk_at "getAttr ref") => `(tactic| (k_here; k_dflt (refine' hk_own ?k1 ?k2 ?k3 ?k4 ?k5 ?k6 ?k7 ?k8 ?k9 ?_; (case k1 => k_asm); (case k2 => k_asm); (case k3 => k_inst); (case k4 => k_is); (case k5 => k_is); (case k6 => k_is); (case k7 => k_is); (case k8 => k_get); (case k9 => k_handed); k_whole)))
local macro_rules | `(tactic| walk_at "getMethod ref") => `(tactic| (k_here; k_dflt (refine' hk_method ?k1 ?k2 ?k3 ?k4 ?k5 ?_; (case k1 => k_asm); (case k2 => k_asm); (case k3 => k_inst); (case k4 => k_is); (case k5 => k_is); k_whole)))
local macro_rules | `(tactic| ktr_enter) => `(tactic| (refine' code_def ?k1 ?k2 ?k3 ?k4 ?k5 ?kA ?kF ?kK ?k6 ?k7 ?k8 ?k9 ?kB ?_ ?c2 ?c3 ?c4 ?c5; (case kA => exact rfl); (case kF => exact rfl); (case kK => first | assumption | exact rfl); (case k1 => k_asm); (case k2 => k_asm); (case k3 => k_asm); (case k4 => k_asm); (case k5 => k_asm); (case k6 => k_is); (case k7 => k_is); (case k8 => ktr_room); (case k9 => first | exact BindsTo.of_eq rfl | exact binds_K (by k_in) rfl (by k_is) rfl rfl rfl); (case c5 => decide); (case kB => exact locs rfl); (case c2 => exact rfl); (case c3 => exact rfl); (case c4 => exact rfl); k_whole; intro g' L' h' FG' F' N' B' X' T'; (try dsimp only); (try k_lift B'); (try k_fold)))
local macro_rules | `(tactic| ktr_call $c:term 0) => `(tactic| (refine wpAny_call ?_; k_dflt (refine' ct_use $c ?k1 ?k2 ?k3 ?k4 ?k5 ?kK ?kd ?ku ?kp ?_; (case k1 => k_asm); (case k2 => k_asm); (case k3 => k_asm); (case k4 => k_asm); (case k5 => k_asm); (case kK => first | assumption | exact rfl); (case kd => ktr_room); (case ku => ktr_units))))
local macro_rules | `(tactic| ktr_call $c:term 1) => `(tactic| (refine' call_meth ?N ?q ?_; (case N => k_asm); (case q => k_mem); k_dflt (refine' ct_use $c ?k1 ?k2 ?k3 ?k4 ?k5 ?kK ?kd ?ku ?kp ?_; (case k1 => k_asm); (case k2 => k_asm); (case k3 => k_asm); (case k4 => k_asm); (case k5 => k_asm); (case kK => first | assumption | exact rfl); (case kd => ktr_room); (case ku => ktr_units))))
local macro_rules | `(tactic| k_mem) => `(tactic| first | assumption | exact List.mem_cons_self .. | (refine' List.mem_cons_of_mem _ ?_; k_mem))
local macro_rules | `(tactic| kst_same) => `(tactic| (intro z h1 h2 h3; (simp only [List.forall_mem_cons, List.not_mem_nil, false_implies, implies_true, and_true, ne_eq] at h2); (simp only [List.contains_cons, List.contains_nil, Bool.or_false, Bool.or_eq_false_iff, beq_eq_false_iff_ne, ne_eq] at h3); (simp [kstB, h1, h2, h3]; done)))
local macro_rules | `(tactic| kby_size) => `(tactic| (rw [PySem.sizeLine_eq]; omega))
local macro_rules | `(tactic| walk_at "call builtin:str.lstrip") => `(tactic| (k_here; (refine KXw.lstrip (by assumption) (by kby_size) ?_); intro _ _))
local macro_rules | `(tactic| walk_at "call builtin:str.strip") => `(tactic| (k_here; (refine KXw.strip (by assumption) (by kby_size) ?_); intro _ _))
local macro_rules | `(tactic| walk_at "call builtin:str.strip") => `(tactic| (k_here; (refine KXw.stripChars (by assumption) (by kby_size) ?_); intro _ _))
local macro_rules | `(tactic| walk_at "call builtin:str.upper") => `(tactic| (k_here; (refine KXw.upper (by assumption) (by decide +kernel) ?_); intro _ _))
local macro_rules | `(tactic| walk_at "call builtin:str.partition") => `(tactic| (k_here; (refine KXpa.partition (by k_asm) (by k_asm) (by decide) (by assumption) (by assumption) (by assumption) (by kby_size) ?_); intro D' _ _ _ _ _ F' N' l1; (try k_lt l1)))
local macro_rules | `(tactic| walk_at "call builtin:str.split") => `(tactic| (k_here; (refine KSpl.split1 (by k_asm) (by k_asm) (by decide) ?_ (by kby_size)); intro D' _ _ _ _ _ F' N' l1; (try k_lt l1)))
--FROM MM9
theorem join_has {sep : Str} : ∀ {row : List Str} {p : Str} {c : Nat}, p ∈ row → c ∈ p.cps.toList → c ∈ (Str.join sep row).cps.toList
  | [x], p, c, hp, hc => by
    rw [List.mem_singleton.mp hp] at hc
    exact hc
  | x :: y :: r, p, c, hp, hc => by
    have e : Str.join sep (x :: y :: r) = x ++ sep ++ Str.join sep (y :: r) := rfl
    rw [e, Str.cps_append, Str.cps_append]
    simp only [Array.toList_append, List.mem_append]
    rcases List.mem_cons.mp hp with rfl | hp
    · exact .inl (.inl hc)
    · exact .inr (join_has hp hc)
theorem cut_has {x p : Str} {c : Nat} (hp : p ∈ cutT x) (hc : c ∈ p.cps.toList) : c ∈ x.cps.toList := by
  have h := join_has (sep := Str.ofString ",") hp hc
  rw [show Str.join (Str.ofString ",") (cutT x) = x from StrLaws.join_split x ","] at h
  exact h
theorem hex2_ok : ∀ v, v < 128 → ((hex2 v).cps.toList.all fun c => decide (c < 128)) = true := by decide +kernel
theorem line_strOk {B : Str} (h : ∀ c ∈ B.cps.toList, c < 128) : PyData.strOk (lineT B) = true := by
  refine strOk_plain fun c hc => ?_
  rw [line_cps, Str.cps_append] at hc
  simp only [Array.toList_append, List.mem_append, List.mem_cons] at hc
  rcases hc with (hc | hc) | rfl | hc
  · have : ∀ c ∈ (Str.ofString "$").cps.toList, c < 128 := by decide +kernel
    exact this c hc
  · exact h c hc
  · decide
  · exact of_decide_eq_true (List.all_eq_true.mp (hex2_ok _ (ck_is h).1) c hc)
theorem kstr_ok {x : Str} (n : Nat) (h : PyData.strOk x = true) : kqdOk n (.str x) = true := by cases n <;> simpa [kqdOk] using h
theorem klist_ok {ds : List Dat} {n : Nat} (h : ∀ d ∈ ds, kqdOk n d = true) : kqdOk (n + 1) (.list ds) = true := by
  simp only [kqdOk, List.all_eq_true]
  exact h
theorem getD_ok {row : List Str} (h : OkRow row) (i n : Nat) : kqdOk n (.str (row.getD i "")) = true := by
  refine kstr_ok n (strOk_plain fun c hc => ?_)
  rw [List.getD_eq_getElem?_getD] at hc
  cases e : row[i]? with
  | none => rw [e] at hc; have : ∀ c ∈ (Str.ofString "").cps.toList, c < 128 := by decide +kernel
            exact this c hc
  | some x => rw [e] at hc; exact (h.plain x (List.mem_of_getElem? e) c hc).1
theorem names1_ok {row : List Str} (h : OkRow row) (k n : Nat) : kqdOk (n + 1) (.list ((List.range k).map fun i => .str (row.getD i ""))) = true :=
  klist_ok fun d hd => by obtain ⟨i, _, rfl⟩ := List.mem_map.mp hd; exact getD_ok h i n
theorem namesDat_ok {r1 r2 r3 : List Str} (h1 : OkRow r1) (h2 : OkRow r2) (h3 : OkRow r3) (n : Nat) : kqdOk (n + 2) (namesDat r1 r2 r3) = true := by
  refine klist_ok fun d hd => ?_
  simp only [List.mem_cons, List.not_mem_nil, or_false] at hd
  rcases hd with rfl | rfl | rfl
  · exact names1_ok h1 _ _
  · exact names1_ok h2 _ _
  · exact names1_ok h3 _ _
theorem body_ok {head : Str} {row : List Str} (h : OkRow row) (hh : (head.cps.toList.all fun c => decide (c < 128 ∧ c ≠ 42)) = true) (n : Nat) : kqdOk n (.str (bodyT head row)) = true := kstr_ok n (strOk_plain fun c hc => (body_plain h hh c hc).1)
theorem lin_ok {head : Str} {row : List Str} (h : OkRow row) (hh : (head.cps.toList.all fun c => decide (c < 128 ∧ c ≠ 42)) = true) (n : Nat) : kqdOk n (.str (lineT (bodyT head row))) = true := kstr_ok n (line_strOk fun c hc => (body_plain h hh c hc).1)
theorem hW : ((Str.ofString "GPWPL,").cps.toList.all fun c => decide (c < 128 ∧ c ≠ 42)) = true := by decide +kernel
theorem hD : ((Str.ofString "IIDTM,").cps.toList.all fun c => decide (c < 128 ∧ c ≠ 42)) = true := by decide +kernel
theorem bareDat_ok {r1 r2 r3 : List Str} (h1 : OkRow r1) (h2 : OkRow r2) (h3 : OkRow r3) (n : Nat) : kqdOk (n + 1) (bareDat r1 r2 r3) = true := by
  refine klist_ok fun d hd => ?_
  simp only [List.mem_cons, List.not_mem_nil, or_false] at hd
  rcases hd with rfl | rfl | rfl
  · exact body_ok h1 hW _
  · exact body_ok h2 hD _
  · exact body_ok h3 hW _
theorem lineDat_ok {r1 r2 r3 : List Str} (h1 : OkRow r1) (h2 : OkRow r2) (h3 : OkRow r3) (n : Nat) : kqdOk (n + 1) (lineDat r1 r2 r3) = true := by
  refine klist_ok fun d hd => ?_
  simp only [List.mem_cons, List.not_mem_nil, or_false] at hd
  rcases hd with rfl | rfl | rfl
  · exact lin_ok h1 hW _
  · exact lin_ok h2 hD _
  · exact lin_ok h3 hW _
/-- what a line, read again, tells -/
def againD (head : Str) (row : List Str) : Dat := .list [.str (lineT (bodyT head row)), .list ((cutT (Txt.join "," row)).map Dat.str)]
theorem againD_ok {head : Str} {row : List Str} (h : OkRow row) (hh : (head.cps.toList.all fun c => decide (c < 128 ∧ c ≠ 42)) = true) (n : Nat) : kqdOk (n + 2) (againD head row) = true := by
  refine klist_ok fun d hd => ?_
  simp only [List.mem_cons, List.not_mem_nil, or_false] at hd
  rcases hd with rfl | rfl
  · exact lin_ok h hh _
  · refine klist_ok fun d hd => ?_
    obtain ⟨x, hx, rfl⟩ := List.mem_map.mp hd
    exact kstr_ok _ (strOk_plain fun c hc => (h.join_plain c (cut_has hx hc)).1)

end Mine
end
section
open PySem PySem.W PyProof.Rows PySem.Calls Builtin Builtin.ObjectAttr
namespace Mine
set_option maxRecDepth 100000
set_option maxHeartbeats 8000000
local macro_rules | `(tactic| walk_at "getAttr ref") => `(tactic| (k_here; k_dflt (refine' hk_bound ?k1 ?k2 ?k3 ?k4 ?k5 ?kh ?k6 ?k7 ?k8 ?k9 ?k10 ?k11 ?k12 ?_; (case k4 => k_inst); (case k1 => k_asm); (case k2 => k_asm); (case k3 => k_asm); (case k5 => k_is); (case kh => k_is); (case k6 => k_is); (case k7 => k_is); (case k8 => k_is); (case k9 => k_is); (case k10 => k_is); (case k11 => decide +kernel); (case k12 => k_get); k_whole); intro q' h' F' N' l1; (try k_lt l1); (try k_sweep)))
local macro_rules | `(tactic| walk_at "getAttr ref") => `(tactic| (k_here; k_dflt (refine' hk_own ?k1 ?k2 ?k3 ?k4 ?k5 ?k6 ?k7 ?k8 ?k9 ?_; (case k1 => k_asm); (case k2 => k_asm); (case k3 => k_inst); (case k4 => k_is); (case k5 => k_is); (case k6 => k_is); (case k7 => k_is); (case k8 => k_get); (case k9 => k_handed); k_whole)))
local macro_rules | `(tactic| walk_at "getMethod ref") => `(tactic| (k_here; k_dflt (refine' hk_method ?k1 ?k2 ?k3 ?k4 ?k5 ?_; (case k1 => k_asm); (case k2 => k_asm); (case k3 => k_inst); (case k4 => k_is); (case k5 => k_is); k_whole)))
local macro_rules | `(tactic| ktr_enter) => `(tactic| (refine' code_def ?k1 ?k2 ?k3 ?k4 ?k5 ?kA ?kF ?kK ?k6 ?k7 ?k8 ?k9 ?kB ?_ ?c2 ?c3 ?c4 ?c5; (case kA => exact rfl); (case kF => exact rfl); (case kK => first | assumption | exact rfl); (case k1 => k_asm); (case k2 => k_asm); (case k3 => k_asm); (case k4 => k_asm); (case k5 => k_asm); (case k6 => k_is); (case k7 => k_is); (case k8 => ktr_room); (case k9 => first | exact BindsTo.of_eq rfl | exact binds_K (by k_in) rfl (by k_is) rfl rfl rfl); (case c5 => decide); (case kB => exact locs rfl); (case c2 => exact rfl); (case c3 => exact rfl); (case c4 => exact rfl); k_whole; intro g' L' h' FG' F' N' B' X' T'; (try dsimp only); (try k_lift B'); (try k_fold)))
local macro_rules | `(tactic| ktr_call $c:term 0) => `(tactic| (refine wpAny_call ?_; k_dflt (refine' ct_use $c ?k1 ?k2 ?k3 ?k4 ?k5 ?kK ?kd ?ku ?kp ?_; (case k1 => k_asm); (case k2 => k_asm); (case k3 => k_asm); (case k4 => k_asm); (case k5 => k_asm); (case kK => first | assumption | exact rfl); (case kd => ktr_room); (case ku => ktr_units))))
local macro_rules | `(tactic| ktr_call $c:term 1) => `(tactic| (refine' call_meth ?N ?q ?_; (case N => k_asm); (case q => k_mem); k_dflt (refine' ct_use $c ?k1 ?k2 ?k3 ?k4 ?k5 ?kK ?kd ?ku ?kp ?_; (case k1 => k_asm); (case k2 => k_asm); (case k3 => k_asm); (case k4 => k_asm); (case k5 => k_asm); (case kK => first | assumption | exact rfl); (case kd => ktr_room); (case ku => ktr_units))))
local macro_rules | `(tactic| k_mem) => `(tactic| first | assumption | exact List.mem_cons_self .. | (refine' List.mem_cons_of_mem _ ?_; k_mem))
local macro_rules | `(tactic| kst_same) => `(tactic| (intro z h1 h2 h3; (simp only [List.forall_mem_cons, List.not_mem_nil, false_implies, implies_true, and_true, ne_eq] at h2); (simp only [List.contains_cons, List.contains_nil, Bool.or_false, Bool.or_eq_false_iff, beq_eq_false_iff_ne, ne_eq] at h3); (simp [kstB, h1, h2, h3]; done)))
local macro_rules | `(tactic| kby_size) => `(tactic| (rw [PySem.sizeLine_eq]; omega))
local macro_rules | `(tactic| walk_at "call builtin:str.lstrip") => `(tactic| (k_here; (refine KXw.lstrip (by assumption) (by kby_size) ?_); intro _ _))
local macro_rules | `(tactic| walk_at "call builtin:str.strip") => `(tactic| (k_here; (refine KXw.strip (by assumption) (by kby_size) ?_); intro _ _))
local macro_rules | `(tactic| walk_at "call builtin:str.strip") => `(tactic| (k_here; (refine KXw.stripChars (by assumption) (by kby_size) ?_); intro _ _))
local macro_rules | `(tactic| walk_at "call builtin:str.upper") => `(tactic| (k_here; (refine KXw.upper (by assumption) (by decide +kernel) ?_); intro _ _))
local macro_rules | `(tactic| walk_at "call builtin:str.partition") => `(tactic| (k_here; (refine KXpa.partition (by k_asm) (by k_asm) (by decide) (by assumption) (by assumption) (by assumption) (by kby_size) ?_); intro D' _ _ _ _ _ F' N' l1; (try k_lt l1)))
local macro_rules | `(tactic| walk_at "call builtin:str.split") => `(tactic| (k_here; (refine KSpl.split1 (by k_asm) (by k_asm) (by decide) ?_ (by kby_size)); intro D' _ _ _ _ _ F' N' l1; (try k_lt l1)))
--FROM MN0
def endD (r1 r2 r3 : List Str) : Dat := .list [namesDat r1 r2 r3, bareDat r1 r2 r3]
section
variable {w : World} {base : Heap} {mean : ExcName → Option Value} {mg mb : Str → Option Value} {L fa : Addr} {cd : Value} {s : Shared} {Q : Flow → Shared → Prop} {E : Value → Shared → Prop} {rest : Str → Option Value} {a : Ads} {ra rc : List Str} {st : Led} {nb ki pl : Int} {tn tk tw tp : Tok} {vl : Value} {tx : Str}
variable {vT vU : List Value} {ds : List Dat} {b1 b2 b3 c1 c2 c3 : List (Str × Tok)} {nT nU n1 n2 n3 k1 k2 k3 bd : Nat} {r1 r2 r3 : List Str}
/-- the messages of the ledger -/
theorem msgs_of (S : Sta w.params a ra rc st) (y1 : c1.map (·.1) = r1) (y2 : c2.map (·.1) = r2) (y3 : c3.map (·.1) = r3) {Ld : Led} (hLd : st ++ ledM a vT vU b1 b2 b3 c1 c2 c3 nT nU n1 n2 n3 k1 k2 k3 = Ld) :
    HasMsg w.params Ld a.x1 253 "GP" "WPL" r1 ∧ HasMsg w.params Ld a.x2 274 "II" "DTM" r2 ∧ HasMsg w.params Ld a.x3 253 "GP" "WPL" r3 := by
  have hl1 := updF_mem (stMud1 S.dif S.off (oT := listOf vT.toArray nT) (oU := listOf vU.toArray nU) (o1 := listOf (strValues b1).toArray n1) (o2 := listOf (strValues b2).toArray n2) (o3 := listOf (strValues b3).toArray n3) (e1 := listOf (strValues c1).toArray k1) (e2 := listOf (strValues c2).toArray k2) (e3 := listOf (strValues c3).toArray k3))
  have hl2 := updF_mem (stMud2 S.dif S.off (oT := listOf vT.toArray nT) (oU := listOf vU.toArray nU) (o1 := listOf (strValues b1).toArray n1) (o2 := listOf (strValues b2).toArray n2) (o3 := listOf (strValues b3).toArray n3) (e1 := listOf (strValues c1).toArray k1) (e2 := listOf (strValues c2).toArray k2) (e3 := listOf (strValues c3).toArray k3))
  have hl3 := updF_mem (stMud3 S.dif S.off (oT := listOf vT.toArray nT) (oU := listOf vU.toArray nU) (o1 := listOf (strValues b1).toArray n1) (o2 := listOf (strValues b2).toArray n2) (o3 := listOf (strValues b3).toArray n3) (e1 := listOf (strValues c1).toArray k1) (e2 := listOf (strValues c2).toArray k2) (e3 := listOf (strValues c3).toArray k3))
  have sub : ∀ p ∈ st, p ∈ Ld := fun p hp => hLd ▸ List.mem_append_left _ hp
  obtain ⟨p1, p2, p3, p4, p5, hd1⟩ := S.hd1
  obtain ⟨q1, q2, q3, q4, q5, hd2⟩ := S.hd2
  obtain ⟨t1, t2, t3, t4, t5, hd3⟩ := S.hd3
  subst hLd
  exact ⟨⟨a.d1, a.dx1, _, _, _, _, _, c1, k1, sub _ S.hx1, sub _ hd1, hl1, y1⟩, ⟨a.d2, a.dx2, _, _, _, _, _, c2, k2, sub _ S.hx2, sub _ hd2, hl2, y2⟩, ⟨a.d3, a.dx3, _, _, _, _, _, c3, k3, sub _ S.hx3, sub _ hd3, hl3, y3⟩⟩
theorem l_end1 (K0 : Below callerA base [] base) (X : Frag.In (Mine.hd.heap_39 w.params) base) (T : Top VW LO mean mg mb base) (S : Sta w.params a ra rc st) (hr1 : OkRow r1) (hr2 : OkRow r2) (hr3 : OkRow r3) (y1 : c1.map (·.1) = r1) (y2 : c2.map (·.1) = r2) (y3 : c3.map (·.1) = r3) (hz : vT.length ≤ 1000)
    (F : Fr base L s.heap (lawM a rest)) (N : News base L s.heap (st ++ ledM a vT vU b1 b2 b3 c1 c2 c3 nT nU n1 n2 n3 k1 k2 k3))
    (ret : ∀ nw v h' tk', Fr base L h' (lawM a rest) → News base L h' (nw ++ (st ++ ledM a (vT ++ [v]) vU b1 b2 b3 c1 c2 c3 (nT + 1) nU n1 n2 n3 k1 k2 k3)) → (∀ p ∈ nw, ∀ q ∈ st ++ ledM a vT vU b1 b2 b3 c1 c2 c3 nT nU n1 n2 n3 k1 k2 k3, q.1 ≠ p.1) → DatIn nw v (endD r1 r2 r3) → Q .next { s with heap := h', toks := tk' }) :
    wpAny (model PG w) (lawAr L fa cd) (execs ((lawBody.drop 12).take 1) (lawEnv L fa cd)) Q E s := by
  refine fillit _ ?_
  k_fill
  dsimp only [lawAr, lawEnv, loopBody, lawBody, lawScope, lawDef, PySem.Challenge.pw_ez0283_01, List.getLast?, List.getLast, List.getElem?_cons_succ, List.getElem?_cons_zero, List.take, List.drop]
  obtain ⟨nM, hM⟩ := S.hM
  have UT := stMuT S.dif S.off (oT := listOf vT.toArray nT) (oU := listOf vU.toArray nU) (o1 := listOf (strValues b1).toArray n1) (o2 := listOf (strValues b2).toArray n2) (o3 := listOf (strValues b3).toArray n3) (e1 := listOf (strValues c1).toArray k1) (e2 := listOf (strValues c2).toArray k2) (e3 := listOf (strValues c3).toArray k3)
  have hT := updF_mem UT
  have hms := fun Ld => msgs_of (nT := nT) (nU := nU) (n1 := n1) (n2 := n2) (n3 := n3) (k1 := k1) (k2 := k2) (k3 := k3) (vT := vT) (vU := vU) (b1 := b1) (b2 := b2) (b3 := b3) S y1 y2 y3 (Ld := Ld)
  obtain ⟨Ld, hLd⟩ : ∃ Ld, st ++ ledM a vT vU b1 b2 b3 c1 c2 c3 nT nU n1 n2 n3 k1 k2 k3 = Ld := ⟨_, rfl⟩
  obtain ⟨m1, m2, m3⟩ := hms Ld hLd
  unfold ledM at hLd N ret
  rw [hLd] at N hT UT ret
  replace hM : _ ∈ Ld := hLd ▸ List.mem_append_left _ hM
  delta lawM at F ret
  repeat' ((fail_if_success (with_reducible show wpAny _ _ (subscriptTail _ _ (Value.ref a.M) _) _ _ _)); first | walk1 | (k_unfold; (try dsimp only)))
  try dsimp only
  refine item_listV (x := .ref a.x1) (News.isList N hM) (by decide) (by decide) rfl ?_
  repeat' ((fail_if_success (with_reducible show wpAny _ _ (subscriptTail _ _ (Value.ref a.M) _) _ _ _)); first | walk1 | (k_unfold; (try dsimp only)))
  try dsimp only
  refine item_listV (x := .ref a.x2) (News.isList N hM) (by decide) (by decide) rfl ?_
  repeat' ((fail_if_success (with_reducible show wpAny _ _ (subscriptTail _ _ (Value.ref a.M) _) _ _ _)); first | walk1 | (k_unfold; (try dsimp only)))
  try dsimp only
  refine item_listV (x := .ref a.x3) (News.isList N hM) (by decide) (by decide) rfl ?_
  repeat' ((fail_if_success (with_reducible show wpAny _ _ (PySem.call (Value.ref 336) _) _ _ _)); first | walk1 | (k_unfold; (try dsimp only)))
  try dsimp only
  ktr_call (t_names w a.x1 a.x2 a.x3 r1 r2 r3 hr1 hr2 hr3) 0
  · exact ⟨m1, m2, m3⟩
  intro h7 tk7 nwA vA F7 N7 lA dA
  try dsimp only
  repeat' ((fail_if_success (with_reducible show wpAny _ _ (PySem.call (Value.ref 341) _) _ _ _)); first | walk1 | (k_unfold; (try dsimp only)))
  try dsimp only
  refine wpAny_call ?_
  k_dflt (refine' cto_use (t_barel w a.M a.x1 a.x2 a.x3 nM r1 r2 r3 hr1 hr2 hr3) ?k1z1 ?k2z1 ?k3z1 ?k4z1 ?k5z1 ?kKz1 ?kdz1 ?kuz1 ?kpz1 ?_; (case k1z1 => k_asm); (case k2z1 => k_asm); (case k3z1 => k_asm); (case k4z1 => k_asm); (case k5z1 => k_asm); (case kKz1 => first | assumption | exact rfl); (case kdz1 => ktr_room); (case kuz1 => ktr_units))
  · have sA : ∀ p ∈ Ld, p ∈ nwA ++ Ld := fun p hp => List.mem_append_right _ hp
    exact ⟨sA _ hM, m1.mono sA, m2.mono sA, m3.mono sA⟩
  intro h8 tk8 nwB vB F8 N8 lB dB
  try dsimp only
  have vA' := dA.handed
  have vB' := dB.handed
  rw [← List.append_assoc] at N8
  have fAB : ∀ p ∈ nwB ++ nwA, ∀ q ∈ Ld, q.1 ≠ p.1 := by
    intro p hp q hq
    rcases List.mem_append.mp hp with hp | hp
    · exact lB p hp q (List.mem_append_right _ hq)
    · exact off_alt (lA p hp) q hq
  obtain ⟨nAB, hAB⟩ : ∃ nAB, nwB ++ nwA = nAB := ⟨_, rfl⟩
  have dA' : DatIn nAB vA _ := dA.mono fun p hp => hAB ▸ List.mem_append_right _ hp
  have dB' : DatIn nAB vB _ := dB.mono fun p hp => hAB ▸ List.mem_append_left _ hp
  rw [hAB] at N8 fAB
  repeat' ((fail_if_success (with_reducible show wpAny _ _ (PySem.call (Value.builtin "list.append") _) _ _ _)); first | walk1 | (k_unfold; (try dsimp only)))
  try dsimp only
  rename News base L _ _ => N9
  rename Fr base L _ _ => F9
  rename (∀ p ∈ nAB ++ Ld, _) => lT
  refine app_snap ((_, _) :: nAB) F9 N9 ?fr UT hz ?_
  case fr =>
    intro p hp q hq
    rcases List.mem_cons.mp hp with rfl | hp
    · exact Nat.ne_of_lt (lT q (List.mem_append_right _ hq))
    · exact fAB p hp q hq
  intro h6 F6 N6 fr6
  try dsimp only
  k_steps
  try dsimp only
  exact ret _ _ _ _ (by assumption) N6 fr6 (.list (.head _) (.cons (dA'.mono fun p hp => .tail _ hp) (.cons (dB'.mono fun p hp => .tail _ hp) .nil)))
theorem l_end2 (K0 : Below callerA base [] base) (X : Frag.In (Mine.hd.heap_39 w.params) base) (T : Top VW LO mean mg mb base) (S : Sta w.params a ra rc st) (hr1 : OkRow r1) (hr2 : OkRow r2) (hr3 : OkRow r3) (y1 : b1.map (·.1) = r1) (y2 : b2.map (·.1) = r2) (y3 : b3.map (·.1) = r3) (hz : vU.length ≤ 1000)
    (F : Fr base L s.heap (lawM a rest)) (N : News base L s.heap (st ++ ledM a vT vU b1 b2 b3 c1 c2 c3 nT nU n1 n2 n3 k1 k2 k3))
    (ret : ∀ nw v h' tk', Fr base L h' (lawM a rest) → News base L h' (nw ++ (st ++ ledM a vT (vU ++ [v]) b1 b2 b3 c1 c2 c3 nT (nU + 1) n1 n2 n3 k1 k2 k3)) → (∀ p ∈ nw, ∀ q ∈ st ++ ledM a vT vU b1 b2 b3 c1 c2 c3 nT nU n1 n2 n3 k1 k2 k3, q.1 ≠ p.1) → DatIn nw v (endD r1 r2 r3) → Q .next { s with heap := h', toks := tk' }) :
    wpAny (model PG w) (lawAr L fa cd) (execs ((lawBody.drop 13).take 1) (lawEnv L fa cd)) Q E s := by
  refine fillit _ ?_
  k_fill
  dsimp only [lawAr, lawEnv, loopBody, lawBody, lawScope, lawDef, PySem.Challenge.pw_ez0283_01, List.getLast?, List.getLast, List.getElem?_cons_succ, List.getElem?_cons_zero, List.take, List.drop]
  obtain ⟨nR, hR⟩ := S.hR
  have UU := stMuU S.dif S.off (oT := listOf vT.toArray nT) (oU := listOf vU.toArray nU) (o1 := listOf (strValues b1).toArray n1) (o2 := listOf (strValues b2).toArray n2) (o3 := listOf (strValues b3).toArray n3) (e1 := listOf (strValues c1).toArray k1) (e2 := listOf (strValues c2).toArray k2) (e3 := listOf (strValues c3).toArray k3)
  have hU := updF_mem UU
  have hl1 := updF_mem (stMur1 S.dif S.off (oT := listOf vT.toArray nT) (oU := listOf vU.toArray nU) (o1 := listOf (strValues b1).toArray n1) (o2 := listOf (strValues b2).toArray n2) (o3 := listOf (strValues b3).toArray n3) (e1 := listOf (strValues c1).toArray k1) (e2 := listOf (strValues c2).toArray k2) (e3 := listOf (strValues c3).toArray k3))
  have hl2 := updF_mem (stMur2 S.dif S.off (oT := listOf vT.toArray nT) (oU := listOf vU.toArray nU) (o1 := listOf (strValues b1).toArray n1) (o2 := listOf (strValues b2).toArray n2) (o3 := listOf (strValues b3).toArray n3) (e1 := listOf (strValues c1).toArray k1) (e2 := listOf (strValues c2).toArray k2) (e3 := listOf (strValues c3).toArray k3))
  have hl3 := updF_mem (stMur3 S.dif S.off (oT := listOf vT.toArray nT) (oU := listOf vU.toArray nU) (o1 := listOf (strValues b1).toArray n1) (o2 := listOf (strValues b2).toArray n2) (o3 := listOf (strValues b3).toArray n3) (e1 := listOf (strValues c1).toArray k1) (e2 := listOf (strValues c2).toArray k2) (e3 := listOf (strValues c3).toArray k3))
  obtain ⟨Ld, hLd⟩ : ∃ Ld, st ++ ledM a vT vU b1 b2 b3 c1 c2 c3 nT nU n1 n2 n3 k1 k2 k3 = Ld := ⟨_, rfl⟩
  unfold ledM at hLd N ret
  rw [hLd] at N hU UU ret hl1 hl2 hl3
  replace hR : _ ∈ Ld := hLd ▸ List.mem_append_left _ hR
  delta lawM at F ret
  repeat' ((fail_if_success (with_reducible show wpAny _ _ (PySem.call (Value.ref 346) _) _ _ _)); first | walk1 | (k_unfold; (try dsimp only)))
  try dsimp only
  refine wpAny_call ?_
  k_dflt (refine' cto_use (t_duen w a.R a.r1 a.r2 a.r3 nR n1 n2 n3 b1 b2 b3 r1 r2 r3 hr1 hr2 hr3 y1 y2 y3) ?k1z2 ?k2z2 ?k3z2 ?k4z2 ?k5z2 ?kKz2 ?kdz2 ?kuz2 ?kpz2 ?_; (case k1z2 => k_asm); (case k2z2 => k_asm); (case k3z2 => k_asm); (case k4z2 => k_asm); (case k5z2 => k_asm); (case kKz2 => first | assumption | exact rfl); (case kdz2 => ktr_room); (case kuz2 => ktr_units))
  · exact ⟨hR, hl1, hl2, hl3⟩
  intro h7 tk7 nwA vA F7 N7 lA dA
  try dsimp only
  repeat' ((fail_if_success (with_reducible show wpAny _ _ (PySem.call (Value.ref 351) _) _ _ _)); first | walk1 | (k_unfold; (try dsimp only)))
  try dsimp only
  refine wpAny_call ?_
  k_dflt (refine' cto_use (t_dueb w a.R a.r1 a.r2 a.r3 nR n1 n2 n3 b1 b2 b3 r1 r2 r3 hr1 hr2 hr3 y1 y2 y3) ?k1z3 ?k2z3 ?k3z3 ?k4z3 ?k5z3 ?kKz3 ?kdz3 ?kuz3 ?kpz3 ?_; (case k1z3 => k_asm); (case k2z3 => k_asm); (case k3z3 => k_asm); (case k4z3 => k_asm); (case k5z3 => k_asm); (case kKz3 => first | assumption | exact rfl); (case kdz3 => ktr_room); (case kuz3 => ktr_units))
  · have sA : ∀ p ∈ Ld, p ∈ nwA ++ Ld := fun p hp => List.mem_append_right _ hp
    exact ⟨sA _ hR, sA _ hl1, sA _ hl2, sA _ hl3⟩
  intro h8 tk8 nwB vB F8 N8 lB dB
  try dsimp only
  have vA' := dA.handed
  have vB' := dB.handed
  rw [← List.append_assoc] at N8
  have fAB : ∀ p ∈ nwB ++ nwA, ∀ q ∈ Ld, q.1 ≠ p.1 := by
    intro p hp q hq
    rcases List.mem_append.mp hp with hp | hp
    · exact lB p hp q (List.mem_append_right _ hq)
    · exact lA p hp q hq
  obtain ⟨nAB, hAB⟩ : ∃ nAB, nwB ++ nwA = nAB := ⟨_, rfl⟩
  have dA' : DatIn nAB vA _ := dA.mono fun p hp => hAB ▸ List.mem_append_right _ hp
  have dB' : DatIn nAB vB _ := dB.mono fun p hp => hAB ▸ List.mem_append_left _ hp
  rw [hAB] at N8 fAB
  repeat' ((fail_if_success (with_reducible show wpAny _ _ (PySem.call (Value.builtin "list.append") _) _ _ _)); first | walk1 | (k_unfold; (try dsimp only)))
  try dsimp only
  rename News base L _ _ => N9
  rename Fr base L _ _ => F9
  rename (∀ p ∈ nAB ++ Ld, _) => lT
  refine app_snap ((_, _) :: nAB) F9 N9 ?fr UU hz ?_
  case fr =>
    intro p hp q hq
    rcases List.mem_cons.mp hp with rfl | hp
    · exact Nat.ne_of_lt (lT q (List.mem_append_right _ hq))
    · exact fAB p hp q hq
  intro h6 F6 N6 fr6
  try dsimp only
  k_steps
  try dsimp only
  exact ret _ _ _ _ (by assumption) N6 fr6 (.list (.head _) (.cons (dA'.mono fun p hp => .tail _ hp) (.cons (dB'.mono fun p hp => .tail _ hp) .nil)))
end

end Mine
end
section
open PySem PySem.W PyProof.Rows PySem.Calls Builtin Builtin.ObjectAttr
namespace Mine
set_option maxRecDepth 100000
set_option maxHeartbeats 8000000
local macro_rules | `(tactic| walk_at "getAttr ref") => `(tactic| (k_here; k_dflt (refine' hk_bound ?k1 ?k2 ?k3 ?k4 ?k5 ?kh ?k6 ?k7 ?k8 ?k9 ?k10 ?k11 ?k12 ?_; (case k4 => k_inst); (case k1 => k_asm); (case k2 => k_asm); (case k3 => k_asm); (case k5 => k_is); (case kh => k_is); (case k6 => k_is); (case k7 => k_is); (case k8 => k_is); (case k9 => k_is); (case k10 => k_is); (case k11 => decide +kernel); (case k12 => k_get); k_whole); intro q' h' F' N' l1; (try k_lt l1); (try k_sweep)))
local macro_rules | `(tactic| walk_at "getAttr ref") => `(tactic| (k_here; k_dflt (refine' hk_own ?k1 ?k2 ?k3 ?k4 ?k5 ?k6 ?k7 ?k8 ?k9 ?_; (case k1 => k_asm); (case k2 => k_asm); (case k3 => k_inst); (case k4 => k_is); (case k5 => k_is); (case k6 => k_is); (case k7 => k_is); (case k8 => k_get); (case k9 => k_handed); k_whole)))
local macro_rules | `(tactic| walk_at "getMethod ref") => `(tactic| (k_here; k_dflt (refine' hk_method ?k1 ?k2 ?k3 ?k4 ?k5 ?_; (case k1 => k_asm); (case k2 => k_asm); (case k3 => k_inst); (case k4 => k_is); (case k5 => k_is); k_whole)))
local macro_rules | `(tactic| ktr_enter) => `(tactic| (refine' code_def ?k1 ?k2 ?k3 ?k4 ?k5 ?kA ?kF ?kK ?k6 ?k7 ?k8 ?k9 ?kB ?_ ?c2 ?c3 ?c4 ?c5; (case kA => exact rfl); (case kF => exact rfl); (case kK => first | assumption | exact rfl); (case k1 => k_asm); (case k2 => k_asm); (case k3 => k_asm); (case k4 => k_asm); (case k5 => k_asm); (case k6 => k_is); (case k7 => k_is); (case k8 => ktr_room); (case k9 => first | exact BindsTo.of_eq rfl | exact binds_K (by k_in) rfl (by k_is) rfl rfl rfl); (case c5 => decide); (case kB => exact locs rfl); (case c2 => exact rfl); (case c3 => exact rfl); (case c4 => exact rfl); k_whole; intro g' L' h' FG' F' N' B' X' T'; (try dsimp only); (try k_lift B'); (try k_fold)))
local macro_rules | `(tactic| ktr_call $c:term 0) => `(tactic| (refine wpAny_call ?_; k_dflt (refine' ct_use $c ?k1 ?k2 ?k3 ?k4 ?k5 ?kK ?kd ?ku ?kp ?_; (case k1 => k_asm); (case k2 => k_asm); (case k3 => k_asm); (case k4 => k_asm); (case k5 => k_asm); (case kK => first | assumption | exact rfl); (case kd => ktr_room); (case ku => ktr_units))))
local macro_rules | `(tactic| ktr_call $c:term 1) => `(tactic| (refine' call_meth ?N ?q ?_; (case N => k_asm); (case q => k_mem); k_dflt (refine' ct_use $c ?k1 ?k2 ?k3 ?k4 ?k5 ?kK ?kd ?ku ?kp ?_; (case k1 => k_asm); (case k2 => k_asm); (case k3 => k_asm); (case k4 => k_asm); (case k5 => k_asm); (case kK => first | assumption | exact rfl); (case kd => ktr_room); (case ku => ktr_units))))
local macro_rules | `(tactic| k_mem) => `(tactic| first | assumption | exact List.mem_cons_self .. | (refine' List.mem_cons_of_mem _ ?_; k_mem))
local macro_rules | `(tactic| kst_same) => `(tactic| (intro z h1 h2 h3; (simp only [List.forall_mem_cons, List.not_mem_nil, false_implies, implies_true, and_true, ne_eq] at h2); (simp only [List.contains_cons, List.contains_nil, Bool.or_false, Bool.or_eq_false_iff, beq_eq_false_iff_ne, ne_eq] at h3); (simp [kstB, h1, h2, h3]; done)))
local macro_rules | `(tactic| kby_size) => `(tactic| (rw [PySem.sizeLine_eq]; omega))
local macro_rules | `(tactic| walk_at "call builtin:str.lstrip") => `(tactic| (k_here; (refine KXw.lstrip (by assumption) (by kby_size) ?_); intro _ _))
local macro_rules | `(tactic| walk_at "call builtin:str.strip") => `(tactic| (k_here; (refine KXw.strip (by assumption) (by kby_size) ?_); intro _ _))
local macro_rules | `(tactic| walk_at "call builtin:str.strip") => `(tactic| (k_here; (refine KXw.stripChars (by assumption) (by kby_size) ?_); intro _ _))
local macro_rules | `(tactic| walk_at "call builtin:str.upper") => `(tactic| (k_here; (refine KXw.upper (by assumption) (by decide +kernel) ?_); intro _ _))
local macro_rules | `(tactic| walk_at "call builtin:str.partition") => `(tactic| (k_here; (refine KXpa.partition (by k_asm) (by k_asm) (by decide) (by assumption) (by assumption) (by assumption) (by kby_size) ?_); intro D' _ _ _ _ _ F' N' l1; (try k_lt l1)))
local macro_rules | `(tactic| walk_at "call builtin:str.split") => `(tactic| (k_here; (refine KSpl.split1 (by k_asm) (by k_asm) (by decide) ?_ (by kby_size)); intro D' _ _ _ _ _ F' N' l1; (try k_lt l1)))
--FROM MN1
section
variable {w : World} {base : Heap} {mean : ExcName → Option Value} {mg mb : Str → Option Value} {L fa : Addr} {cd : Value} {s : Shared} {Q : Flow → Shared → Prop} {E : Value → Shared → Prop} {rest : Str → Option Value} {a : Ads} {ra rc : List Str} {st : Led} {nb ki pl : Int} {tn tk tw tp : Tok} {vl : Value} {tx : Str}
variable {vT vU : List Value} {ds : List Dat} {b1 b2 b3 c1 c2 c3 : List (Str × Tok)} {nT nU n1 n2 n3 k1 k2 k3 bd : Nat} {bt : Tok} {hd : Str} {xm : Addr}
theorem l_finT1 (K0 : Below callerA base [] base) (X : Frag.In (Mine.hd.heap_39 w.params) base) (T : Top VW LO mean mg mb base) (S : Sta w.params a ra rc st) (row : List Str) (hr : OkRow row) (hm : HasMsg w.params (st ++ ledM a vT vU b1 b2 b3 c1 c2 c3 nT nU n1 n2 n3 k1 k2 k3) a.x1 253 "GP" "WPL" row) (hz : vT.length ≤ 1000)
    (F : Fr base L s.heap (fun x => if x = "body" then some (.str (bodyT hd row) bt) else if x = "msg" then some (.ref a.x1) else lawM a rest x)) (N : News base L s.heap (st ++ ledM a vT vU b1 b2 b3 c1 c2 c3 nT nU n1 n2 n3 k1 k2 k3))
    (ret : ∀ nw v h' tk', Fr base L h' (fun x => if x = "body" then some (.str (bodyT hd row) bt) else if x = "msg" then some (.ref a.x1) else lawM a rest x) → News base L h' (nw ++ (st ++ ledM a (vT ++ [v]) vU b1 b2 b3 c1 c2 c3 (nT + 1) nU n1 n2 n3 k1 k2 k3)) → (∀ p ∈ nw, ∀ q ∈ st ++ ledM a vT vU b1 b2 b3 c1 c2 c3 nT nU n1 n2 n3 k1 k2 k3, q.1 ≠ p.1) → DatIn nw v (againD "GPWPL," row) → Q .next { s with heap := h', toks := tk' }) :
    wpAny (model PG w) (lawAr L fa cd) (execs (lastBody.take 1) (lawEnv L fa cd)) Q E s := by
  refine fillit _ ?_
  k_fill
  dsimp only [lawAr, lawEnv, lastBody, lawBody, lawScope, lawDef, PySem.Challenge.pw_ez0283_01, List.getLast?, List.getLast, List.getElem?_cons_succ, List.getElem?_cons_zero, List.take, List.drop]
  have UT := stMuT S.dif S.off (oT := listOf vT.toArray nT) (oU := listOf vU.toArray nU) (o1 := listOf (strValues b1).toArray n1) (o2 := listOf (strValues b2).toArray n2) (o3 := listOf (strValues b3).toArray n3) (e1 := listOf (strValues c1).toArray k1) (e2 := listOf (strValues c2).toArray k2) (e3 := listOf (strValues c3).toArray k3)
  have hT := updF_mem UT
  obtain ⟨Ld, hLd⟩ : ∃ Ld, st ++ ledM a vT vU b1 b2 b3 c1 c2 c3 nT nU n1 n2 n3 k1 k2 k3 = Ld := ⟨_, rfl⟩
  unfold ledM at hLd N ret hm
  rw [hLd] at N hT UT ret hm
  delta lawM at F ret
  repeat' ((fail_if_success (with_reducible show wpAny _ _ (PySem.call (Value.ref 358) _) _ _ _)); first | walk1 | (k_unfold; (try dsimp only)))
  try dsimp only
  ktr_call (t_againW w a.x1 row hr) 0
  · exact hm
  intro h7 tk7 nwA vA F7 N7 lA dA
  try dsimp only
  have vA' := dA.handed
  repeat' ((fail_if_success (with_reducible show wpAny _ _ (PySem.call (Value.builtin "list.append") _) _ _ _)); first | walk1 | (k_unfold; (try dsimp only)))
  try dsimp only
  refine app_snap nwA F7 N7 (fun p hp q hq => off_alt (lA p hp) q hq) UT hz ?_
  intro h6 F6 N6 fr6
  try dsimp only
  k_steps
  try dsimp only
  exact ret _ _ _ _ (by assumption) N6 fr6 dA
theorem l_finT2 (K0 : Below callerA base [] base) (X : Frag.In (Mine.hd.heap_39 w.params) base) (T : Top VW LO mean mg mb base) (S : Sta w.params a ra rc st) (row : List Str) (hr : OkRow row) (hm : HasMsg w.params (st ++ ledM a vT vU b1 b2 b3 c1 c2 c3 nT nU n1 n2 n3 k1 k2 k3) a.x2 274 "II" "DTM" row) (hz : vT.length ≤ 1000)
    (F : Fr base L s.heap (fun x => if x = "body" then some (.str (bodyT hd row) bt) else if x = "msg" then some (.ref a.x2) else lawM a rest x)) (N : News base L s.heap (st ++ ledM a vT vU b1 b2 b3 c1 c2 c3 nT nU n1 n2 n3 k1 k2 k3))
    (ret : ∀ nw v h' tk', Fr base L h' (fun x => if x = "body" then some (.str (bodyT hd row) bt) else if x = "msg" then some (.ref a.x2) else lawM a rest x) → News base L h' (nw ++ (st ++ ledM a (vT ++ [v]) vU b1 b2 b3 c1 c2 c3 (nT + 1) nU n1 n2 n3 k1 k2 k3)) → (∀ p ∈ nw, ∀ q ∈ st ++ ledM a vT vU b1 b2 b3 c1 c2 c3 nT nU n1 n2 n3 k1 k2 k3, q.1 ≠ p.1) → DatIn nw v (againD "IIDTM," row) → Q .next { s with heap := h', toks := tk' }) :
    wpAny (model PG w) (lawAr L fa cd) (execs (lastBody.take 1) (lawEnv L fa cd)) Q E s := by
  refine fillit _ ?_
  k_fill
  dsimp only [lawAr, lawEnv, lastBody, lawBody, lawScope, lawDef, PySem.Challenge.pw_ez0283_01, List.getLast?, List.getLast, List.getElem?_cons_succ, List.getElem?_cons_zero, List.take, List.drop]
  have UT := stMuT S.dif S.off (oT := listOf vT.toArray nT) (oU := listOf vU.toArray nU) (o1 := listOf (strValues b1).toArray n1) (o2 := listOf (strValues b2).toArray n2) (o3 := listOf (strValues b3).toArray n3) (e1 := listOf (strValues c1).toArray k1) (e2 := listOf (strValues c2).toArray k2) (e3 := listOf (strValues c3).toArray k3)
  have hT := updF_mem UT
  obtain ⟨Ld, hLd⟩ : ∃ Ld, st ++ ledM a vT vU b1 b2 b3 c1 c2 c3 nT nU n1 n2 n3 k1 k2 k3 = Ld := ⟨_, rfl⟩
  unfold ledM at hLd N ret hm
  rw [hLd] at N hT UT ret hm
  delta lawM at F ret
  repeat' ((fail_if_success (with_reducible show wpAny _ _ (PySem.call (Value.ref 358) _) _ _ _)); first | walk1 | (k_unfold; (try dsimp only)))
  try dsimp only
  ktr_call (t_againD w a.x2 row hr) 0
  · exact hm
  intro h7 tk7 nwA vA F7 N7 lA dA
  try dsimp only
  have vA' := dA.handed
  repeat' ((fail_if_success (with_reducible show wpAny _ _ (PySem.call (Value.builtin "list.append") _) _ _ _)); first | walk1 | (k_unfold; (try dsimp only)))
  try dsimp only
  refine app_snap nwA F7 N7 (fun p hp q hq => off_alt (lA p hp) q hq) UT hz ?_
  intro h6 F6 N6 fr6
  try dsimp only
  k_steps
  try dsimp only
  exact ret _ _ _ _ (by assumption) N6 fr6 dA
theorem l_finT3 (K0 : Below callerA base [] base) (X : Frag.In (Mine.hd.heap_39 w.params) base) (T : Top VW LO mean mg mb base) (S : Sta w.params a ra rc st) (row : List Str) (hr : OkRow row) (hm : HasMsg w.params (st ++ ledM a vT vU b1 b2 b3 c1 c2 c3 nT nU n1 n2 n3 k1 k2 k3) a.x3 253 "GP" "WPL" row) (hz : vT.length ≤ 1000)
    (F : Fr base L s.heap (fun x => if x = "body" then some (.str (bodyT hd row) bt) else if x = "msg" then some (.ref a.x3) else lawM a rest x)) (N : News base L s.heap (st ++ ledM a vT vU b1 b2 b3 c1 c2 c3 nT nU n1 n2 n3 k1 k2 k3))
    (ret : ∀ nw v h' tk', Fr base L h' (fun x => if x = "body" then some (.str (bodyT hd row) bt) else if x = "msg" then some (.ref a.x3) else lawM a rest x) → News base L h' (nw ++ (st ++ ledM a (vT ++ [v]) vU b1 b2 b3 c1 c2 c3 (nT + 1) nU n1 n2 n3 k1 k2 k3)) → (∀ p ∈ nw, ∀ q ∈ st ++ ledM a vT vU b1 b2 b3 c1 c2 c3 nT nU n1 n2 n3 k1 k2 k3, q.1 ≠ p.1) → DatIn nw v (againD "GPWPL," row) → Q .next { s with heap := h', toks := tk' }) :
    wpAny (model PG w) (lawAr L fa cd) (execs (lastBody.take 1) (lawEnv L fa cd)) Q E s := by
  refine fillit _ ?_
  k_fill
  dsimp only [lawAr, lawEnv, lastBody, lawBody, lawScope, lawDef, PySem.Challenge.pw_ez0283_01, List.getLast?, List.getLast, List.getElem?_cons_succ, List.getElem?_cons_zero, List.take, List.drop]
  have UT := stMuT S.dif S.off (oT := listOf vT.toArray nT) (oU := listOf vU.toArray nU) (o1 := listOf (strValues b1).toArray n1) (o2 := listOf (strValues b2).toArray n2) (o3 := listOf (strValues b3).toArray n3) (e1 := listOf (strValues c1).toArray k1) (e2 := listOf (strValues c2).toArray k2) (e3 := listOf (strValues c3).toArray k3)
  have hT := updF_mem UT
  obtain ⟨Ld, hLd⟩ : ∃ Ld, st ++ ledM a vT vU b1 b2 b3 c1 c2 c3 nT nU n1 n2 n3 k1 k2 k3 = Ld := ⟨_, rfl⟩
  unfold ledM at hLd N ret hm
  rw [hLd] at N hT UT ret hm
  delta lawM at F ret
  repeat' ((fail_if_success (with_reducible show wpAny _ _ (PySem.call (Value.ref 358) _) _ _ _)); first | walk1 | (k_unfold; (try dsimp only)))
  try dsimp only
  ktr_call (t_againW w a.x3 row hr) 0
  · exact hm
  intro h7 tk7 nwA vA F7 N7 lA dA
  try dsimp only
  have vA' := dA.handed
  repeat' ((fail_if_success (with_reducible show wpAny _ _ (PySem.call (Value.builtin "list.append") _) _ _ _)); first | walk1 | (k_unfold; (try dsimp only)))
  try dsimp only
  refine app_snap nwA F7 N7 (fun p hp q hq => off_alt (lA p hp) q hq) UT hz ?_
  intro h6 F6 N6 fr6
  try dsimp only
  k_steps
  try dsimp only
  exact ret _ _ _ _ (by assumption) N6 fr6 dA
theorem l_finU (K0 : Below callerA base [] base) (X : Frag.In (Mine.hd.heap_39 w.params) base) (T : Top VW LO mean mg mb base) (S : Sta w.params a ra rc st) (row : List Str) (hr : OkRow row) (hh : (hd.cps.toList.all fun c => decide (c < 128 ∧ c ≠ 42)) = true) (h6 : hd.cps.toList.length = 6) (h8 : hd.length ≤ 8) (hz : vU.length ≤ 1000)
    (F : Fr base L s.heap (fun x => if x = "body" then some (.str (bodyT hd row) bt) else if x = "msg" then some (.ref xm) else lawM a rest x)) (N : News base L s.heap (st ++ ledM a vT vU b1 b2 b3 c1 c2 c3 nT nU n1 n2 n3 k1 k2 k3))
    (ret : ∀ nw v h' tk', Fr base L h' (fun x => if x = "body" then some (.str (bodyT hd row) bt) else if x = "msg" then some (.ref xm) else lawM a rest x) → News base L h' (nw ++ (st ++ ledM a vT (vU ++ [v]) b1 b2 b3 c1 c2 c3 nT (nU + 1) n1 n2 n3 k1 k2 k3)) → (∀ p ∈ nw, ∀ q ∈ st ++ ledM a vT vU b1 b2 b3 c1 c2 c3 nT nU n1 n2 n3 k1 k2 k3, q.1 ≠ p.1) → DatIn nw v (againD hd row) → Q .next { s with heap := h', toks := tk' }) :
    wpAny (model PG w) (lawAr L fa cd) (execs (lastBody.drop 1) (lawEnv L fa cd)) Q E s := by
  have hs : Txt.slice (bodyT hd row) (some 6) none = Txt.join "," row := sl_from (cs := hd.cps.toList) (J := (Txt.join "," row).cps.toList) (by unfold bodyT; rw [Str.cps_append, Array.toList_append]) (by rw [h6]; rfl) rfl
  have hbl := bodyT_len hr h8
  have hjl := hr.join_len
  refine fillit _ ?_
  k_fill
  dsimp only [lawAr, lawEnv, lastBody, lawBody, lawScope, lawDef, PySem.Challenge.pw_ez0283_01, List.getLast?, List.getLast, List.getElem?_cons_succ, List.getElem?_cons_zero, List.take, List.drop]
  have UU := stMuU S.dif S.off (oT := listOf vT.toArray nT) (oU := listOf vU.toArray nU) (o1 := listOf (strValues b1).toArray n1) (o2 := listOf (strValues b2).toArray n2) (o3 := listOf (strValues b3).toArray n3) (e1 := listOf (strValues c1).toArray k1) (e2 := listOf (strValues c2).toArray k2) (e3 := listOf (strValues c3).toArray k3)
  have hU := updF_mem UU
  obtain ⟨Ld, hLd⟩ : ∃ Ld, st ++ ledM a vT vU b1 b2 b3 c1 c2 c3 nT nU n1 n2 n3 k1 k2 k3 = Ld := ⟨_, rfl⟩
  unfold ledM at hLd N ret
  rw [hLd] at N hU UU ret
  delta lawM at F ret
  repeat' ((fail_if_success (with_reducible show wpAny _ _ (PySem.call (Value.ref 315) _) _ _ _)); first | walk1 | (k_unfold; (try dsimp only)))
  try dsimp only
  ktr_call (t_line w (bodyT hd row) _ (fun c hc => (body_plain hr hh c hc).1) (by omega)) 0
  · trivial
  intro h9 tk9 nw9 v9 F9 N9 _ ⟨e1, kk9, e2⟩
  subst e1 e2
  simp only [List.nil_append] at N9
  try dsimp only
  repeat' ((fail_if_success (with_reducible show wpAny _ _ (PySem.call (Value.ref 322) _) _ _ _)); first | walk1 | (k_unfold; (try dsimp only)))
  try dsimp only
  ktr_call (t_cut w (Txt.slice (bodyT hd row) (some 6) none) _ (fun c hc => by rw [hs] at hc; exact (hr.join_plain c hc).1) (by rw [hs]; omega)) 0
  · trivial
  intro h5 tk5 nw5 v5 F5 N5 l5 ⟨P, lsb, nb, e1, e2, e3⟩
  subst e1 e3
  rw [hs] at e2
  simp only [List.cons_append, List.nil_append] at N5
  try dsimp only
  repeat' ((fail_if_success (with_reducible show wpAny _ _ (PySem.call (Value.builtin "list.append") _) _ _ _)); first | walk1 | (k_unfold; (try dsimp only)))
  try dsimp only
  rename News base L _ _ => N9
  rename Fr base L _ _ => F9
  rename (_ < _ ∧ _) => lT
  have fT := kst_ltOf lT.2
  refine app_snap [_, _] F9 N9 ?fr UU hz ?_
  case fr =>
    intro p hp q hq
    simp only [List.mem_cons, List.not_mem_nil, or_false] at hp
    rcases hp with rfl | rfl
    · exact Nat.ne_of_lt (fT q hq)
    · exact off_alt (l5 _ (List.mem_cons_self ..)) q hq
  intro h4 F4 N4 fr4
  try dsimp only
  k_steps
  try dsimp only
  exact ret _ _ _ _ (by assumption) N4 fr4 (.list (.head _) (.cons (.str _ _) (.cons (.list (.tail _ (.head _)) (e2 ▸ strs_dat lsb)) .nil)))
end

end Mine
end
section
open PySem PySem.W PyProof.Rows PySem.Calls Builtin Builtin.ObjectAttr
namespace Mine
set_option maxRecDepth 100000
set_option maxHeartbeats 8000000
local macro_rules | `(tactic| walk_at "getAttr ref") => `(tactic| (k_here; k_dflt (refine' hk_bound ?k1 ?k2 ?k3 ?k4 ?k5 ?kh ?k6 ?k7 ?k8 ?k9 ?k10 ?k11 ?k12 ?_; (case k4 => k_inst); (case k1 => k_asm); (case k2 => k_asm); (case k3 => k_asm); (case k5 => k_is); (case kh => k_is); (case k6 => k_is); (case k7 => k_is); (case k8 => k_is); (case k9 => k_is); (case k10 => k_is); (case k11 => decide +kernel); (case k12 => k_get); k_whole); intro q' h' F' N' l1; (try k_lt l1); (try k_sweep)))
local macro_rules | `(tactic| walk_at "getAttr ref") => `(tactic| (k_here; k_dflt (refine' hk_own ?k1 ?k2 ?k3 ?k4 ?k5 ?k6 ?k7 ?k8 ?k9 ?_; (case k1 => k_asm); (case k2 => k_asm); (case k3 => k_inst); (case k4 => k_is); (case k5 => k_is); (case k6 => k_is); (case k7 => k_is); (case k8 => k_get); (case k9 => k_handed); k_whole)))
local macro_rules | `(tactic| walk_at "getMethod ref") => `(tactic| (k_here; k_dflt (refine' hk_method ?k1 ?k2 ?k3 ?k4 ?k5 ?_; (case k1 => k_asm); (case k2 => k_asm); (case k3 => k_inst); (case k4 => k_is); (case k5 => k_is); k_whole)))
local macro_rules | `(tactic| ktr_enter) => `(tactic| (refine' code_def ?k1 ?k2 ?k3 ?k4 ?k5 ?kA ?kF ?kK ?k6 ?k7 ?k8 ?k9 ?kB ?_ ?c2 ?c3 ?c4 ?c5; (case kA => exact rfl); (case kF => exact rfl); (case kK => first | assumption | exact rfl); (case k1 => k_asm); (case k2 => k_asm); (case k3 => k_asm); (case k4 => k_asm); (case k5 => k_asm); (case k6 => k_is); (case k7 => k_is); (case k8 => ktr_room); (case k9 => first | exact BindsTo.of_eq rfl | exact binds_K (by k_in) rfl (by k_is) rfl rfl rfl); (case c5 => decide); (case kB => exact locs rfl); (case c2 => exact rfl); (case c3 => exact rfl); (case c4 => exact rfl); k_whole; intro g' L' h' FG' F' N' B' X' T'; (try dsimp only); (try k_lift B'); (try k_fold)))
local macro_rules | `(tactic| ktr_call $c:term 0) => `(tactic| (refine wpAny_call ?_; k_dflt (refine' ct_use $c ?k1 ?k2 ?k3 ?k4 ?k5 ?kK ?kd ?ku ?kp ?_; (case k1 => k_asm); (case k2 => k_asm); (case k3 => k_asm); (case k4 => k_asm); (case k5 => k_asm); (case kK => first | assumption | exact rfl); (case kd => ktr_room); (case ku => ktr_units))))
local macro_rules | `(tactic| ktr_call $c:term 1) => `(tactic| (refine' call_meth ?N ?q ?_; (case N => k_asm); (case q => k_mem); k_dflt (refine' ct_use $c ?k1 ?k2 ?k3 ?k4 ?k5 ?kK ?kd ?ku ?kp ?_; (case k1 => k_asm); (case k2 => k_asm); (case k3 => k_asm); (case k4 => k_asm); (case k5 => k_asm); (case kK => first | assumption | exact rfl); (case kd => ktr_room); (case ku => ktr_units))))
local macro_rules | `(tactic| k_mem) => `(tactic| first | assumption | exact List.mem_cons_self .. | (refine' List.mem_cons_of_mem _ ?_; k_mem))
local macro_rules | `(tactic| kst_same) => `(tactic| (intro z h1 h2 h3; (simp only [List.forall_mem_cons, List.not_mem_nil, false_implies, implies_true, and_true, ne_eq] at h2); (simp only [List.contains_cons, List.contains_nil, Bool.or_false, Bool.or_eq_false_iff, beq_eq_false_iff_ne, ne_eq] at h3); (simp [kstB, h1, h2, h3]; done)))
local macro_rules | `(tactic| kby_size) => `(tactic| (rw [PySem.sizeLine_eq]; omega))
local macro_rules | `(tactic| walk_at "call builtin:str.lstrip") => `(tactic| (k_here; (refine KXw.lstrip (by assumption) (by kby_size) ?_); intro _ _))
local macro_rules | `(tactic| walk_at "call builtin:str.strip") => `(tactic| (k_here; (refine KXw.strip (by assumption) (by kby_size) ?_); intro _ _))
local macro_rules | `(tactic| walk_at "call builtin:str.strip") => `(tactic| (k_here; (refine KXw.stripChars (by assumption) (by kby_size) ?_); intro _ _))
local macro_rules | `(tactic| walk_at "call builtin:str.upper") => `(tactic| (k_here; (refine KXw.upper (by assumption) (by decide +kernel) ?_); intro _ _))
local macro_rules | `(tactic| walk_at "call builtin:str.partition") => `(tactic| (k_here; (refine KXpa.partition (by k_asm) (by k_asm) (by decide) (by assumption) (by assumption) (by assumption) (by kby_size) ?_); intro D' _ _ _ _ _ F' N' l1; (try k_lt l1)))
local macro_rules | `(tactic| walk_at "call builtin:str.split") => `(tactic| (k_here; (refine KSpl.split1 (by k_asm) (by k_asm) (by decide) ?_ (by kby_size)); intro D' _ _ _ _ _ F' N' l1; (try k_lt l1)))
--FROM MN2
/-- «for x, y in zip(l1, l2)» of two lists of the ledger, by an invariant -/
theorem zip_turns {w : World} {A : Around} {E : Value → Shared → Prop} {s : Shared} {env : Env} {h₀ : Heap} {l1 l2 : Addr} {m : Str → Option Value} {Ld : Led} {elts : List PySem.Expr} {kk : Nat} {pos : Pos} {body : List PySem.Stmt} {Q : Flow → Shared → Prop} {xs ys : List Value} {n1 n2 : Nat} (J : Nat → (Str → Option Value) → Led → Prop)
    (hh : A.handled = none) (F : Fr h₀ env.locals s.heap m) (N : News h₀ env.locals s.heap Ld) (h1 : (l1, listOf xs.toArray n1) ∈ Ld) (h2 : (l2, listOf ys.toArray n2) ∈ Ld) (h0 : J 0 m Ld)
    (step : ∀ i x y m₁ news₁ h₁ tk₁ own T, xs[i]? = some x → ys[i]? = some y → IsTup h₁ T #[x, y] → J i m₁ news₁ → (∀ p ∈ news₁, p.1 ∉ [s.heap.objs.size + 4, s.heap.objs.size + 3, s.heap.objs.size, s.heap.objs.size + 1]) → (∀ p ∈ own, p.1 = l1 ∨ p.1 = l2 ∨ ∀ q ∈ Ld, q.1 ≠ p.1) → (∀ b ∈ [s.heap.objs.size + 4, s.heap.objs.size + 3, s.heap.objs.size, s.heap.objs.size + 1], ∃ o, (b, o) ∈ own) →
      Fr h₀ env.locals h₁ m₁ → News h₀ env.locals h₁ (own ++ news₁) →
      wpAny (model PG w) A (assign (.Tuple elts kk pos) env (.ref T)) (fun _ s₃ => wpAny (model PG w) A (execs body env)
        (LoopStepV h₀ env.locals [s.heap.objs.size + 4, s.heap.objs.size + 3, s.heap.objs.size, s.heap.objs.size + 1] own (J (i + 1)) { s with heap := h₁, toks := tk₁ } (fun v s' => Q (.ret v) s') fun s' => Q .next s') E s₃) E { s with heap := h₁, toks := tk₁ })
    (done : ∀ m' news' h' tk, J (min xs.length ys.length) m' news' → Fr h₀ env.locals h' m' → News h₀ env.locals h' news' → Q .next { s with heap := h', toks := tk }) :
    wpAny (model PG w) A (call (.type "zip") [.ref l1, .ref l2]) (fun xv s₁ => wpAny (model PG w) A (pyIter xv) (fun it s₂ => TurnsAt PG w A h₀ env (.Tuple elts kk pos) body Q E it s₂) E s₁) E s := by
  have a1 := N.isList h1
  have a2 := N.isList h2
  have lt1 : l1 < s.heap.objs.size := Heap.lt_size (N _ h1).1
  have lt2 : l2 < s.heap.objs.size := Heap.lt_size (N _ h2).1
  have hLs : env.locals < s.heap.objs.size := F.ns.lt
  have new : ∀ k, @LE.le Nat _ s.heap.objs.size k → h₀.get? k = none := fun k hk => by
    cases q : h₀.get? k with
    | none => rfl
    | some o => exact absurd (Heap.lt_size (F.keep _ _ q)) (Nat.not_lt.mpr hk)
  refine call_zip_2 a1 a2 ?_
  intro h' e1 e2 e3 e4 e5 e6 hk
  refine wpAny_pyIter_zip e1 ?_
  have W := KTurns.ofWalksU (elts := elts) (k := kk) (pos := pos) (WalksT.zip2 (prog := PG) (w := w) hh (s.heap.objs.size + 4) (s.heap.objs.size + 2) (s.heap.objs.size + 3) s.heap.objs.size (s.heap.objs.size + 1) l1 l2 (zipApart_new lt1 lt2) xs.toArray ys.toArray).toU
  have five : ∀ b ∈ [s.heap.objs.size + 4, s.heap.objs.size + 2, s.heap.objs.size + 3, s.heap.objs.size, s.heap.objs.size + 1], @LE.le Nat _ s.heap.objs.size b := by
    intro b hb
    simp only [List.mem_cons, List.not_mem_nil, or_false] at hb
    rcases hb with rfl | rfl | rfl | rfl | rfl <;> omega
  have wr5 : ∀ b ∈ [s.heap.objs.size + 4, s.heap.objs.size + 3, s.heap.objs.size, s.heap.objs.size + 1], b ∈ [s.heap.objs.size + 4, s.heap.objs.size + 2, s.heap.objs.size + 3, s.heap.objs.size, s.heap.objs.size + 1] := by
    intro b hb
    simp only [List.mem_cons, List.not_mem_nil, or_false] at hb ⊢
    rcases hb with rfl | rfl | rfl | rfl <;> simp
  have fp7 : ∀ b ∈ [s.heap.objs.size + 4, s.heap.objs.size + 2, s.heap.objs.size + 3, s.heap.objs.size, s.heap.objs.size + 1, l1, l2], b ∈ [s.heap.objs.size + 4, s.heap.objs.size + 2, s.heap.objs.size + 3, s.heap.objs.size, s.heap.objs.size + 1] ∨ b = l1 ∨ b = l2 := by
    intro b hb
    simp only [List.mem_cons, List.not_mem_nil, or_false] at hb ⊢
    rcases hb with rfl | rfl | rfl | rfl | rfl | rfl | rfl <;> simp
  refine ⟨s.heap.objs.size + 4, _, _, _, _, _, _, m, Ld, J, rfl, W, ?_, ?_, ?_, ?_, F.keeps hk, N.grown hk, h0, ?_, ?_⟩
  · intro hm
    rcases fp7 _ hm with h | h | h
    · exact absurd hLs (Nat.not_lt.mpr (five _ h))
    · exact (N _ h1).2.1 h.symm
    · exact (N _ h2).2.1 h.symm
  · exact fun b hb => new b (five b (wr5 b hb))
  · exact fun p hp hm => absurd (Heap.lt_size (N p hp).1) (Nat.not_lt.mpr (five _ (wr5 _ hm)))
  · exact ⟨e1, e2, ⟨_, _, e3⟩, e4, e5, a1.at fun o q => hk _ o q, a2.at fun o q => hk _ o q⟩
  · rintro i v m₁ news₁ h₁ tk₁ own hi ⟨T, vals, rfl, ⟨x, y, hx, hy, rfl⟩, hT⟩ hJ hnw hsub _ hown ⟨z1, z2, ⟨_, _, z3⟩, z4, z5, _, _⟩ F₁ N₁
    refine step i x y m₁ news₁ h₁ tk₁ own T (by simpa using hx) (by simpa using hy) hT hJ hnw ?_ ?_ F₁ N₁
    · intro p hp
      rcases fp7 _ (hsub p hp) with h | h | h
      · exact .inr (.inr fun q hq e => absurd (Heap.lt_size (N q hq).1) (Nat.not_lt.mpr (e ▸ five _ h)))
      · exact .inl h
      · exact .inr (.inl h)
    · intro b hb
      have hb5 := wr5 b hb
      have hbn := new b (five b hb5)
      have hbf : b ∈ [s.heap.objs.size + 4, s.heap.objs.size + 2, s.heap.objs.size + 3, s.heap.objs.size, s.heap.objs.size + 1, l1, l2] := by
        simp only [List.mem_cons, List.not_mem_nil, or_false] at hb5 ⊢
        rcases hb5 with rfl | rfl | rfl | rfl | rfl <;> simp
      have hex : ∃ o, h₁.get? b = some o := by
        simp only [List.mem_cons, List.not_mem_nil, or_false] at hb
        rcases hb with rfl | rfl | rfl | rfl
        · exact ⟨_, z1⟩
        · exact ⟨_, z3⟩
        · exact let ⟨o, ho, _⟩ := z4; ⟨o, ho⟩
        · exact let ⟨o, ho, _⟩ := z5; ⟨o, ho⟩
      obtain ⟨o, ho⟩ := hex
      exact ⟨o, hown b hbf hbn o ho⟩
  · intro h' tk m' news' F' N' _ hJ
    have e : min xs.toArray.size ys.toArray.size = min xs.length ys.length := by rw [List.size_toArray, List.size_toArray]
    exact done m' news' h' tk (e ▸ hJ) F' N'

end Mine
end
section
open PySem PySem.W PyProof.Rows PySem.Calls Builtin Builtin.ObjectAttr
namespace Mine
set_option maxRecDepth 100000
set_option maxHeartbeats 8000000
local macro_rules | `(tactic| walk_at "getAttr ref") => `(tactic| (k_here; k_dflt (refine' hk_bound ?k1 ?k2 ?k3 ?k4 ?k5 ?kh ?k6 ?k7 ?k8 ?k9 ?k10 ?k11 ?k12 ?_; (case k4 => k_inst); (case k1 => k_asm); (case k2 => k_asm); (case k3 => k_asm); (case k5 => k_is); (case kh => k_is); (case k6 => k_is); (case k7 => k_is); (case k8 => k_is); (case k9 => k_is); (case k10 => k_is); (case k11 => decide +kernel); (case k12 => k_get); k_whole); intro q' h' F' N' l1; (try k_lt l1); (try k_sweep)))
local macro_rules | `(tactic| walk_at "getAttr ref") => `(tactic| (k_here; k_dflt (refine' hk_own ?k1 ?k2 ?k3 ?k4 ?k5 ?k6 ?k7 ?k8 ?k9 ?_; (case k1 => k_asm); (case k2 => k_asm); (case k3 => k_inst); (case k4 => k_is); (case k5 => k_is); (case k6 => k_is); (case k7 => k_is); (case k8 => k_get); (case k9 => k_handed); k_whole)))
local macro_rules | `(tactic| walk_at "getMethod ref") => `(tactic| (k_here; k_dflt (refine' hk_method ?k1 ?k2 ?k3 ?k4 ?k5 ?_; (case k1 => k_asm); (case k2 => k_asm); (case k3 => k_inst); (case k4 => k_is); (case k5 => k_is); k_whole)))
local macro_rules | `(tactic| ktr_enter) => `(tactic| (refine' code_def ?k1 ?k2 ?k3 ?k4 ?k5 ?kA ?kF ?kK ?k6 ?k7 ?k8 ?k9 ?kB ?_ ?c2 ?c3 ?c4 ?c5; (case kA => exact rfl); (case kF => exact rfl); (case kK => first | assumption | exact rfl); (case k1 => k_asm); (case k2 => k_asm); (case k3 => k_asm); (case k4 => k_asm); (case k5 => k_asm); (case k6 => k_is); (case k7 => k_is); (case k8 => ktr_room); (case k9 => first | exact BindsTo.of_eq rfl | exact binds_K (by k_in) rfl (by k_is) rfl rfl rfl); (case c5 => decide); (case kB => exact locs rfl); (case c2 => exact rfl); (case c3 => exact rfl); (case c4 => exact rfl); k_whole; intro g' L' h' FG' F' N' B' X' T'; (try dsimp only); (try k_lift B'); (try k_fold)))
local macro_rules | `(tactic| ktr_call $c:term 0) => `(tactic| (refine wpAny_call ?_; k_dflt (refine' ct_use $c ?k1 ?k2 ?k3 ?k4 ?k5 ?kK ?kd ?ku ?kp ?_; (case k1 => k_asm); (case k2 => k_asm); (case k3 => k_asm); (case k4 => k_asm); (case k5 => k_asm); (case kK => first | assumption | exact rfl); (case kd => ktr_room); (case ku => ktr_units))))
local macro_rules | `(tactic| ktr_call $c:term 1) => `(tactic| (refine' call_meth ?N ?q ?_; (case N => k_asm); (case q => k_mem); k_dflt (refine' ct_use $c ?k1 ?k2 ?k3 ?k4 ?k5 ?kK ?kd ?ku ?kp ?_; (case k1 => k_asm); (case k2 => k_asm); (case k3 => k_asm); (case k4 => k_asm); (case k5 => k_asm); (case kK => first | assumption | exact rfl); (case kd => ktr_room); (case ku => ktr_units))))
local macro_rules | `(tactic| k_mem) => `(tactic| first | assumption | exact List.mem_cons_self .. | (refine' List.mem_cons_of_mem _ ?_; k_mem))
local macro_rules | `(tactic| kst_same) => `(tactic| (intro z h1 h2 h3; (simp only [List.forall_mem_cons, List.not_mem_nil, false_implies, implies_true, and_true, ne_eq] at h2); (simp only [List.contains_cons, List.contains_nil, Bool.or_false, Bool.or_eq_false_iff, beq_eq_false_iff_ne, ne_eq] at h3); (simp [kstB, h1, h2, h3]; done)))
local macro_rules | `(tactic| kby_size) => `(tactic| (rw [PySem.sizeLine_eq]; omega))
local macro_rules | `(tactic| walk_at "call builtin:str.lstrip") => `(tactic| (k_here; (refine KXw.lstrip (by assumption) (by kby_size) ?_); intro _ _))
local macro_rules | `(tactic| walk_at "call builtin:str.strip") => `(tactic| (k_here; (refine KXw.strip (by assumption) (by kby_size) ?_); intro _ _))
local macro_rules | `(tactic| walk_at "call builtin:str.strip") => `(tactic| (k_here; (refine KXw.stripChars (by assumption) (by kby_size) ?_); intro _ _))
local macro_rules | `(tactic| walk_at "call builtin:str.upper") => `(tactic| (k_here; (refine KXw.upper (by assumption) (by decide +kernel) ?_); intro _ _))
local macro_rules | `(tactic| walk_at "call builtin:str.partition") => `(tactic| (k_here; (refine KXpa.partition (by k_asm) (by k_asm) (by decide) (by assumption) (by assumption) (by assumption) (by kby_size) ?_); intro D' _ _ _ _ _ F' N' l1; (try k_lt l1)))
local macro_rules | `(tactic| walk_at "call builtin:str.split") => `(tactic| (k_here; (refine KSpl.split1 (by k_asm) (by k_asm) (by decide) ?_ (by kby_size)); intro D' _ _ _ _ _ F' N' l1; (try k_lt l1)))
--FROM MN3
theorem zip_news {h₀ h : Heap} {L : Addr} {nv nw own st mu : Led} (N : News h₀ L h (nv ++ ((nw ++ (own ++ st)) ++ mu))) : News h₀ L h (own ++ ((nv ++ (nw ++ st)) ++ mu)) := by
  intro p hp
  refine N p ?_
  rcases List.mem_append.mp hp with hp | hp
  · exact List.mem_append_right _ (List.mem_append_left _ (List.mem_append_right _ (List.mem_append_left _ hp)))
  rcases List.mem_append.mp hp with hp | hp
  · rcases List.mem_append.mp hp with hp | hp
    · exact List.mem_append_left _ hp
    rcases List.mem_append.mp hp with hp | hp
    · exact List.mem_append_right _ (List.mem_append_left _ (List.mem_append_left _ hp))
    · exact List.mem_append_right _ (List.mem_append_left _ (List.mem_append_right _ (List.mem_append_right _ hp)))
  · exact List.mem_append_right _ (List.mem_append_right _ hp)
theorem zip_wr {a : Ads} {own st nw nv : Led} {wr : List Addr} {oT oU o1 o2 o3 e1 e2 e3 pT pU p1 p2 p3 q1 q2 q3 : Obj} {R2 R3 : Led} (hnw : ∀ p ∈ st ++ muL a oT oU o1 o2 o3 e1 e2 e3, p.1 ∉ wr) (hwr : ∀ b ∈ wr, ∃ o, (b, o) ∈ own)
    (fr2 : ∀ p ∈ nw, ∀ q ∈ (own ++ st) ++ R2, q.1 ≠ p.1) (fr3 : ∀ p ∈ nv, ∀ q ∈ (nw ++ (own ++ st)) ++ R3, q.1 ≠ p.1) : ∀ p ∈ (nv ++ (nw ++ st)) ++ muL a pT pU p1 p2 p3 q1 q2 q3, p.1 ∉ wr := by
  intro p hp hm
  rcases List.mem_append.mp hp with hp | hp
  · rcases List.mem_append.mp hp with hp | hp
    · obtain ⟨o, ho⟩ := hwr _ hm
      exact fr3 p hp _ (List.mem_append_left _ (List.mem_append_right _ (List.mem_append_left _ ho))) rfl
    rcases List.mem_append.mp hp with hp | hp
    · obtain ⟨o, ho⟩ := hwr _ hm
      exact fr2 p hp _ (List.mem_append_left _ (List.mem_append_left _ ho)) rfl
    · exact hnw p (List.mem_append_left _ hp) hm
  · obtain ⟨o, ho⟩ := mu_mem (oT := oT) (oU := oU) (o1 := o1) (o2 := o2) (o3 := o3) (e1 := e1) (e2 := e2) (e3 := e3) (mem_mu hp)
    exact hnw _ (List.mem_append_right _ ho) hm
theorem zip_fin {P : Params} {a : Ads} {ra rc : List Str} {own st nw nv : Led} {vT vU : List Value} {ds : List Dat} {b1 b2 b3 c1 c2 c3 : List (Str × Tok)} {bd : Nat} {v u : Value} {d : Dat} {oT oU o1 o2 o3 e1 e2 e3 pT pU p1 p2 p3 q1 q2 q3 : Obj} (R : RunAt P a ra rc st vT vU ds b1 b2 b3 c1 c2 c3 bd)
    (fr2 : ∀ p ∈ nw, ∀ q ∈ (own ++ st) ++ muL a oT oU o1 o2 o3 e1 e2 e3, q.1 ≠ p.1) (fr3 : ∀ p ∈ nv, ∀ q ∈ (nw ++ (own ++ st)) ++ muL a pT pU p1 p2 p3 q1 q2 q3, q.1 ≠ p.1) (d2 : DatIn nw v d) (d3 : DatIn nv u d) (hd : kqdOk 8 d = true) :
    RunAt P a ra rc (nv ++ (nw ++ st)) (vT ++ [v]) (vU ++ [u]) (ds ++ [d]) b1 b2 b3 c1 c2 c3 (bd + 1) := by
  have sub : ∀ p ∈ st, p ∈ nv ++ (nw ++ st) := fun p hp => List.mem_append_right _ (List.mem_append_right _ hp)
  refine { R with S := R.S.grow sub fun p hp => ?_, dT := dat_snoc (datAll_mono sub R.dT) (d2.mono fun p hp => List.mem_append_right _ (List.mem_append_left _ hp)), dU := dat_snoc (datAll_mono sub R.dU) (d3.mono fun p hp => List.mem_append_left _ hp), len := ?_, ok := fun e he => ?_ }
  · rcases List.mem_append.mp hp with hp | hp
    · exact off_of (fr3 p hp)
    rcases List.mem_append.mp hp with hp | hp
    · exact off_of (fr2 p hp)
    · exact R.S.off p hp
  · rw [List.length_append, List.length_singleton]; have := R.len; omega
  · rcases List.mem_append.mp he with he | he
    · exact R.ok e he
    · rw [List.mem_singleton.mp he]; exact hd
section
variable {w : World} {base : Heap} {mean : ExcName → Option Value} {mg mb : Str → Option Value} {L fa : Addr} {cd : Value} {s : Shared} {Q : Flow → Shared → Prop} {E : Value → Shared → Prop} {rest : Str → Option Value} {a : Ads} {ra rc : List Str} {st : Led} {nb ki pl : Int} {tn tk tw tp : Tok} {vl : Value} {tx : Str}
variable {vT vU : List Value} {ds : List Dat} {b1 b2 b3 c1 c2 c3 : List (Str × Tok)} {nT nU n1 n2 n3 k1 k2 k3 bd : Nat}
theorem l_zip (K0 : Below callerA base [] base) (X : Frag.In (Mine.hd.heap_39 w.params) base) (T : Top VW LO mean mg mb base) (hE : PassesOwn (model PG w) (lawAr L fa cd) (lawEnv L fa cd) E) (R : RunAt w.params a ra rc st vT vU ds b1 b2 b3 c1 c2 c3 bd) (hb : bd ≤ 200)
    (F : Fr base L s.heap (lawM a rest)) (N : News base L s.heap (st ++ ledM a vT vU b1 b2 b3 c1 c2 c3 nT nU n1 n2 n3 k1 k2 k3))
    (ret : ∀ m' st' vT' vU' ds' nT' nU' h' tk', Fr base L h' m' → Six a m' → News base L h' (st' ++ ledM a vT' vU' b1 b2 b3 c1 c2 c3 nT' nU' n1 n2 n3 k1 k2 k3) → RunAt w.params a ra rc st' vT' vU' ds' b1 b2 b3 c1 c2 c3 (bd + 3) → Q .next { s with heap := h', toks := tk' }) :
    wpAny (model PG w) (lawAr L fa cd) (execs ((lawBody.drop 14).take 1) (lawEnv L fa cd)) Q E s := by
  obtain ⟨nR, hR⟩ := R.S.hR
  obtain ⟨nM, hM⟩ := R.S.hM
  have hMoff := R.S.off _ hM
  have hl1 := updF_mem (stMur1 R.S.dif R.S.off (oT := listOf vT.toArray nT) (oU := listOf vU.toArray nU) (o1 := listOf (strValues b1).toArray n1) (o2 := listOf (strValues b2).toArray n2) (o3 := listOf (strValues b3).toArray n3) (e1 := listOf (strValues c1).toArray k1) (e2 := listOf (strValues c2).toArray k2) (e3 := listOf (strValues c3).toArray k3))
  have hl2 := updF_mem (stMur2 R.S.dif R.S.off (oT := listOf vT.toArray nT) (oU := listOf vU.toArray nU) (o1 := listOf (strValues b1).toArray n1) (o2 := listOf (strValues b2).toArray n2) (o3 := listOf (strValues b3).toArray n3) (e1 := listOf (strValues c1).toArray k1) (e2 := listOf (strValues c2).toArray k2) (e3 := listOf (strValues c3).toArray k3))
  have hl3 := updF_mem (stMur3 R.S.dif R.S.off (oT := listOf vT.toArray nT) (oU := listOf vU.toArray nU) (o1 := listOf (strValues b1).toArray n1) (o2 := listOf (strValues b2).toArray n2) (o3 := listOf (strValues b3).toArray n3) (e1 := listOf (strValues c1).toArray k1) (e2 := listOf (strValues c2).toArray k2) (e3 := listOf (strValues c3).toArray k3))
  revert hE
  refine fillit _ ?_
  k_fill
  dsimp only [lawAr, lawEnv, loopBody, lawBody, lawScope, lawDef, PySem.Challenge.pw_ez0283_01, List.getLast?, List.getLast, List.getElem?_cons_succ, List.getElem?_cons_zero, List.take, List.drop]
  intro hE
  obtain ⟨Ld, hLd⟩ : ∃ Ld, st ++ ledM a vT vU b1 b2 b3 c1 c2 c3 nT nU n1 n2 n3 k1 k2 k3 = Ld := ⟨_, rfl⟩
  have hMu : ∀ x ∈ MU a, ∃ o, (x, o) ∈ Ld := fun x hx => let ⟨o, ho⟩ := mu_mem hx; ⟨o, hLd ▸ List.mem_append_right _ ho⟩
  have hLd' := hLd
  unfold ledM at hLd'
  rw [hLd] at N
  rw [hLd'] at hl1 hl2 hl3
  replace hR : _ ∈ Ld := hLd ▸ List.mem_append_left _ hR
  replace hM : _ ∈ Ld := hLd ▸ List.mem_append_left _ hM
  delta lawM at F
  refine wpAny_execs_cons ?_
  refine For_turns F ?_ (hE := hE)
  repeat' ((fail_if_success (with_reducible show wpAny _ _ (PySem.call (Value.ref 351) _) _ _ _)); first | walk1 | (k_unfold; (try dsimp only)))
  try dsimp only
  refine wpAny_call ?_
  k_dflt (refine' cto_use (t_dueb w a.R a.r1 a.r2 a.r3 nR n1 n2 n3 b1 b2 b3 (b1.map (·.1)) (b2.map (·.1)) (b3.map (·.1)) R.ok1 R.ok2 R.ok3 rfl rfl rfl) ?k1z1 ?k2z1 ?k3z1 ?k4z1 ?k5z1 ?kKz1 ?kdz1 ?kuz1 ?kpz1 ?_; (case k1z1 => k_asm); (case k2z1 => k_asm); (case k3z1 => k_asm); (case k4z1 => k_asm); (case k5z1 => k_asm); (case kKz1 => first | assumption | exact rfl); (case kdz1 => ktr_room); (case kuz1 => ktr_units))
  · exact ⟨hR, hl1, hl2, hl3⟩
  intro h6 tk6 nwC vC F6 N6 lC dC
  try dsimp only
  obtain ⟨P, vsP, nP, rfl, hP, dP⟩ := dat_list dC
  obtain ⟨lz, rfl, hz⟩ := dat_strs (row := [bodyT "GPWPL," (b1.map (·.1)), bodyT "IIDTM," (b2.map (·.1)), bodyT "GPWPL," (b3.map (·.1))]) dP
  obtain ⟨t1, lsa, rfl, z3⟩ := KSpl.cons_of hz
  obtain ⟨t2, lsb, rfl, z4⟩ := KSpl.cons_of z3
  obtain ⟨t3, lsc, rfl, z5⟩ := KSpl.cons_of z4
  obtain rfl := KSpl.nil_of z5
  clear hz z3 z4 z5 dP
  repeat' ((fail_if_success (with_reducible show wpAny _ _ (PySem.call (Value.type "zip") _) _ _ _)); first | walk1 | (k_unfold; (try dsimp only)))
  try dsimp only
  rename Fr base L _ _ => F9
  rename News base L _ (nwC ++ Ld) => N9
  have hnC : ∀ p ∈ nwC ++ st, p.1 ∉ MU a := fun p hp hm => by
    rcases List.mem_append.mp hp with hp | hp
    · obtain ⟨o, ho⟩ := hMu _ hm
      exact lC p hp _ ho rfl
    · exact R.S.off p hp hm
  have R0 : RunAt w.params a ra rc (nwC ++ st) vT vU ds b1 b2 b3 c1 c2 c3 bd := { R with S := R.S.grow (fun p hp => List.mem_append_right _ hp) hnC, dT := datAll_mono (fun p hp => List.mem_append_right _ hp) R.dT, dU := datAll_mono (fun p hp => List.mem_append_right _ hp) R.dU }
  refine zip_turns (xs := [.ref a.x1, .ref a.x2, .ref a.x3]) (ys := strValues [(bodyT "GPWPL," (b1.map (·.1)), t1), (bodyT "IIDTM," (b2.map (·.1)), t2), (bodyT "GPWPL," (b3.map (·.1)), t3)]) (n1 := nM) (n2 := nP)
    (fun i m nx => Six a m ∧ ∃ st' vT' vU' ds' nT' nU', nx = st' ++ ledM a vT' vU' b1 b2 b3 c1 c2 c3 nT' nU' n1 n2 n3 k1 k2 k3 ∧ RunAt w.params a ra rc st' vT' vU' ds' b1 b2 b3 c1 c2 c3 (bd + i)) rfl F9 N9 (List.mem_append_right _ hM) (List.mem_append_left _ hP) ⟨six_law .., _, _, _, _, _, _, (by rw [← hLd, List.append_assoc]), R0⟩ ?step ?done
  case done =>
    rintro m' news' h' tk ⟨h6, st', vT', vU', ds', nT', nU', rfl, R'⟩ F' N'
    exact wpAny_execs_nil (ret _ _ _ _ _ _ _ _ _ F' h6 N' R')
  case step =>
    rintro i x y m₁ news₁ h₁ tk₁ own Tq hx hy hT ⟨h6, st', vT', vU', ds', nT', nU', rfl, R⟩ hnw hfr hwr F₁ N₁
    have F2 := F₁
    rw [h6.self] at F2
    delta lawM at F2
    clear F₁ F9
    have hown : ∀ p ∈ own, p.1 ∉ MU a := fun p hp hm => by
      rcases hfr p hp with h | h | h
      · exact hMoff (h ▸ hm)
      · obtain ⟨o, ho⟩ := hMu _ hm
        exact lC _ hP _ ho h
      · obtain ⟨o, ho⟩ := hMu _ hm
        exact h _ (List.mem_append_right _ ho) rfl
    have hoff : ∀ p ∈ own ++ st', p.1 ∉ MU a := fun p hp => by
      rcases List.mem_append.mp hp with hp | hp
      · exact hown p hp
      · exact R.S.off p hp
    have S1 : Sta w.params a ra rc (own ++ st') := R.S.grow (fun p hp => List.mem_append_right _ hp) hoff
    have hi : i < 3 := by
      have := (List.getElem?_eq_some_iff.mp hx).1
      exact this
    have lT : vT'.length ≤ 1000 := by rw [R.dT.length]; have := R.len; omega
    have lU : vU'.length ≤ 1000 := by rw [R.dU.length]; have := R.len; omega
    rcases i with _ | _ | _ | i
    · cases hx
      cases hy
      repeat' ((fail_if_success (with_reducible show wpAny _ _ (PySem.execs (List.cons _ _) _) _ _ _)); first | walk1 | (k_unfold; (try dsimp only)))
      try dsimp only
      rename Fr base L _ _ => F5
      rename News base L _ _ => N5
      have N6 := N5
      rw [← List.append_assoc] at N6
      refine execs_take 1 lastBody _ ?_
      refine l_finT1 (rest := m₁) K0 X T S1 (b1.map (·.1)) R.ok1 (msgs_of S1 R.e1 R.e2 R.e3 rfl).1 lT F5 N6 ?_
      intro nw v h2 tk2 F2 N2 fr2 d2
      have hoff2 : ∀ p ∈ nw ++ (own ++ st'), p.1 ∉ MU a := fun p hp => by
        rcases List.mem_append.mp hp with hp | hp
        · exact off_of (fr2 p hp)
        · exact hoff p hp
      have S2 : Sta w.params a ra rc (nw ++ (own ++ st')) := S1.grow (fun p hp => List.mem_append_right _ hp) hoff2
      rw [← List.append_assoc] at N2
      refine l_finU (rest := m₁) K0 X T S2 (b1.map (·.1)) R.ok1 hW (by decide +kernel) (by decide +kernel) lU F2 N2 ?_
      intro nv u h3 tk3 F3 N3 fr3 d3
      exact LoopStepV.next (LoopStepU.intro (news₂ := (nv ++ (nw ++ st')) ++ ledM a (vT' ++ [v]) (vU' ++ [u]) b1 b2 b3 c1 c2 c3 (nT' + 1) (nU' + 1) n1 n2 n3 k1 k2 k3) F3 (zip_news N3) (zip_wr hnw hwr fr2 fr3) ⟨⟨rfl, rfl, rfl, rfl, rfl, rfl⟩, _, _, _, _, _, _, rfl, zip_fin R fr2 fr3 d2 d3 (againD_ok R.ok1 hW 6)⟩)
    · cases hx
      cases hy
      repeat' ((fail_if_success (with_reducible show wpAny _ _ (PySem.execs (List.cons _ _) _) _ _ _)); first | walk1 | (k_unfold; (try dsimp only)))
      try dsimp only
      rename Fr base L _ _ => F5
      rename News base L _ _ => N5
      have N6 := N5
      rw [← List.append_assoc] at N6
      refine execs_take 1 lastBody _ ?_
      refine l_finT2 (rest := m₁) K0 X T S1 (b2.map (·.1)) R.ok2 (msgs_of S1 R.e1 R.e2 R.e3 rfl).2.1 lT F5 N6 ?_
      intro nw v h2 tk2 F2 N2 fr2 d2
      have hoff2 : ∀ p ∈ nw ++ (own ++ st'), p.1 ∉ MU a := fun p hp => by
        rcases List.mem_append.mp hp with hp | hp
        · exact off_of (fr2 p hp)
        · exact hoff p hp
      have S2 : Sta w.params a ra rc (nw ++ (own ++ st')) := S1.grow (fun p hp => List.mem_append_right _ hp) hoff2
      rw [← List.append_assoc] at N2
      refine l_finU (rest := m₁) K0 X T S2 (b2.map (·.1)) R.ok2 hD (by decide +kernel) (by decide +kernel) lU F2 N2 ?_
      intro nv u h3 tk3 F3 N3 fr3 d3
      exact LoopStepV.next (LoopStepU.intro (news₂ := (nv ++ (nw ++ st')) ++ ledM a (vT' ++ [v]) (vU' ++ [u]) b1 b2 b3 c1 c2 c3 (nT' + 1) (nU' + 1) n1 n2 n3 k1 k2 k3) F3 (zip_news N3) (zip_wr hnw hwr fr2 fr3) ⟨⟨rfl, rfl, rfl, rfl, rfl, rfl⟩, _, _, _, _, _, _, rfl, zip_fin R fr2 fr3 d2 d3 (againD_ok R.ok2 hD 6)⟩)
    · cases hx
      cases hy
      repeat' ((fail_if_success (with_reducible show wpAny _ _ (PySem.execs (List.cons _ _) _) _ _ _)); first | walk1 | (k_unfold; (try dsimp only)))
      try dsimp only
      rename Fr base L _ _ => F5
      rename News base L _ _ => N5
      have N6 := N5
      rw [← List.append_assoc] at N6
      refine execs_take 1 lastBody _ ?_
      refine l_finT3 (rest := m₁) K0 X T S1 (b3.map (·.1)) R.ok3 (msgs_of S1 R.e1 R.e2 R.e3 rfl).2.2 lT F5 N6 ?_
      intro nw v h2 tk2 F2 N2 fr2 d2
      have hoff2 : ∀ p ∈ nw ++ (own ++ st'), p.1 ∉ MU a := fun p hp => by
        rcases List.mem_append.mp hp with hp | hp
        · exact off_of (fr2 p hp)
        · exact hoff p hp
      have S2 : Sta w.params a ra rc (nw ++ (own ++ st')) := S1.grow (fun p hp => List.mem_append_right _ hp) hoff2
      rw [← List.append_assoc] at N2
      refine l_finU (rest := m₁) K0 X T S2 (b3.map (·.1)) R.ok3 hW (by decide +kernel) (by decide +kernel) lU F2 N2 ?_
      intro nv u h3 tk3 F3 N3 fr3 d3
      exact LoopStepV.next (LoopStepU.intro (news₂ := (nv ++ (nw ++ st')) ++ ledM a (vT' ++ [v]) (vU' ++ [u]) b1 b2 b3 c1 c2 c3 (nT' + 1) (nU' + 1) n1 n2 n3 k1 k2 k3) F3 (zip_news N3) (zip_wr hnw hwr fr2 fr3) ⟨⟨rfl, rfl, rfl, rfl, rfl, rfl⟩, _, _, _, _, _, _, rfl, zip_fin R fr2 fr3 d2 d3 (againD_ok R.ok3 hW 6)⟩)
    · omega
end

end Mine
end
section
open PySem PySem.W PyProof.Rows PySem.Calls Builtin Builtin.ObjectAttr
namespace Mine
set_option maxRecDepth 100000
set_option maxHeartbeats 8000000
local macro_rules | `(tactic| walk_at "getAttr ref") => `(tactic| (k_here; k_dflt (refine' hk_bound ?k1 ?k2 ?k3 ?k4 ?k5 ?kh ?k6 ?k7 ?k8 ?k9 ?k10 ?k11 ?k12 ?_; (case k4 => k_inst); (case k1 => k_asm); (case k2 => k_asm); (case k3 => k_asm); (case k5 => k_is); (case kh => k_is); (case k6 => k_is); (case k7 => k_is); (case k8 => k_is); (case k9 => k_is); (case k10 => k_is); (case k11 => decide +kernel); (case k12 => k_get); k_whole); intro q' h' F' N' l1; (try k_lt l1); (try k_sweep)))
local macro_rules | `(tactic| walk_at "getAttr ref") => `(tactic| (k_here; k_dflt (refine' hk_own ?k1 ?k2 ?k3 ?k4 ?k5 ?k6 ?k7 ?k8 ?k9 ?_; (case k1 => k_asm); (case k2 => k_asm); (case k3 => k_inst); (case k4 => k_is); (case k5 => k_is); (case k6 => k_is); (case k7 => k_is); (case k8 => k_get); (case k9 => k_handed); k_whole)))
local macro_rules | `(tactic| walk_at "getMethod ref") => `(tactic| (k_here; k_dflt (refine' hk_method ?k1 ?k2 ?k3 ?k4 ?k5 ?_; (case k1 => k_asm); (case k2 => k_asm); (case k3 => k_inst); (case k4 => k_is); (case k5 => k_is); k_whole)))
local macro_rules | `(tactic| ktr_enter) => `(tactic| (refine' code_def ?k1 ?k2 ?k3 ?k4 ?k5 ?kA ?kF ?kK ?k6 ?k7 ?k8 ?k9 ?kB ?_ ?c2 ?c3 ?c4 ?c5; (case kA => exact rfl); (case kF => exact rfl); (case kK => first | assumption | exact rfl); (case k1 => k_asm); (case k2 => k_asm); (case k3 => k_asm); (case k4 => k_asm); (case k5 => k_asm); (case k6 => k_is); (case k7 => k_is); (case k8 => ktr_room); (case k9 => first | exact BindsTo.of_eq rfl | exact binds_K (by k_in) rfl (by k_is) rfl rfl rfl); (case c5 => decide); (case kB => exact locs rfl); (case c2 => exact rfl); (case c3 => exact rfl); (case c4 => exact rfl); k_whole; intro g' L' h' FG' F' N' B' X' T'; (try dsimp only); (try k_lift B'); (try k_fold)))
local macro_rules | `(tactic| ktr_call $c:term 0) => `(tactic| (refine wpAny_call ?_; k_dflt (refine' ct_use $c ?k1 ?k2 ?k3 ?k4 ?k5 ?kK ?kd ?ku ?kp ?_; (case k1 => k_asm); (case k2 => k_asm); (case k3 => k_asm); (case k4 => k_asm); (case k5 => k_asm); (case kK => first | assumption | exact rfl); (case kd => ktr_room); (case ku => ktr_units))))
local macro_rules | `(tactic| ktr_call $c:term 1) => `(tactic| (refine' call_meth ?N ?q ?_; (case N => k_asm); (case q => k_mem); k_dflt (refine' ct_use $c ?k1 ?k2 ?k3 ?k4 ?k5 ?kK ?kd ?ku ?kp ?_; (case k1 => k_asm); (case k2 => k_asm); (case k3 => k_asm); (case k4 => k_asm); (case k5 => k_asm); (case kK => first | assumption | exact rfl); (case kd => ktr_room); (case ku => ktr_units))))
local macro_rules | `(tactic| k_mem) => `(tactic| first | assumption | exact List.mem_cons_self .. | (refine' List.mem_cons_of_mem _ ?_; k_mem))
local macro_rules | `(tactic| kst_same) => `(tactic| (intro z h1 h2 h3; (simp only [List.forall_mem_cons, List.not_mem_nil, false_implies, implies_true, and_true, ne_eq] at h2); (simp only [List.contains_cons, List.contains_nil, Bool.or_false, Bool.or_eq_false_iff, beq_eq_false_iff_ne, ne_eq] at h3); (simp [kstB, h1, h2, h3]; done)))
local macro_rules | `(tactic| kby_size) => `(tactic| (rw [PySem.sizeLine_eq]; omega))
local macro_rules | `(tactic| walk_at "call builtin:str.lstrip") => `(tactic| (k_here; (refine KXw.lstrip (by assumption) (by kby_size) ?_); intro _ _))
local macro_rules | `(tactic| walk_at "call builtin:str.strip") => `(tactic| (k_here; (refine KXw.strip (by assumption) (by kby_size) ?_); intro _ _))
local macro_rules | `(tactic| walk_at "call builtin:str.strip") => `(tactic| (k_here; (refine KXw.stripChars (by assumption) (by kby_size) ?_); intro _ _))
local macro_rules | `(tactic| walk_at "call builtin:str.upper") => `(tactic| (k_here; (refine KXw.upper (by assumption) (by decide +kernel) ?_); intro _ _))
local macro_rules | `(tactic| walk_at "call builtin:str.partition") => `(tactic| (k_here; (refine KXpa.partition (by k_asm) (by k_asm) (by decide) (by assumption) (by assumption) (by assumption) (by kby_size) ?_); intro D' _ _ _ _ _ F' N' l1; (try k_lt l1)))
local macro_rules | `(tactic| walk_at "call builtin:str.split") => `(tactic| (k_here; (refine KSpl.split1 (by k_asm) (by k_asm) (by decide) ?_ (by kby_size)); intro D' _ _ _ _ _ F' N' l1; (try k_lt l1)))
--FROM MN4
section
variable {w : World} {base : Heap} {mean : ExcName → Option Value} {mg mb : Str → Option Value} {L fa : Addr} {cd : Value} {s : Shared} {Q : Flow → Shared → Prop} {E : Value → Shared → Prop} {rest : Str → Option Value} {a : Ads} {ra rc : List Str} {st : Led} {nb ki pl : Int} {tn tk tw tp : Tok} {vl : Value} {tx : Str}
variable {vT vU : List Value} {ds : List Dat} {b1 b2 b3 c1 c2 c3 : List (Str × Tok)} {nT nU n1 n2 n3 k1 k2 k3 bd : Nat}
theorem l_ret (K0 : Below callerA base [] base) (X : Frag.In (Mine.hd.heap_39 w.params) base) (T : Top VW LO mean mg mb base) (R : RunAt w.params a ra rc st vT vU ds b1 b2 b3 c1 c2 c3 bd)
    (F : Fr base L s.heap (lawM a rest)) (N : News base L s.heap (st ++ ledM a vT vU b1 b2 b3 c1 c2 c3 nT nU n1 n2 n3 k1 k2 k3))
    (ret : ∀ h' tk', Fr base L h' (lawM a rest) → Q (.ret (.bool true)) { s with heap := h', toks := tk' }) :
    wpAny (model PG w) (lawAr L fa cd) (execs (lawBody.drop 15) (lawEnv L fa cd)) Q E s := by
  refine fillit _ ?_
  k_fill
  dsimp only [lawAr, lawEnv, loopBody, lawBody, lawScope, lawDef, PySem.Challenge.pw_ez0283_01, List.getLast?, List.getLast, List.getElem?_cons_succ, List.getElem?_cons_zero, List.take, List.drop]
  have hT := updF_mem (stMuT R.S.dif R.S.off (oT := listOf vT.toArray nT) (oU := listOf vU.toArray nU) (o1 := listOf (strValues b1).toArray n1) (o2 := listOf (strValues b2).toArray n2) (o3 := listOf (strValues b3).toArray n3) (e1 := listOf (strValues c1).toArray k1) (e2 := listOf (strValues c2).toArray k2) (e3 := listOf (strValues c3).toArray k3))
  have hU := updF_mem (stMuU R.S.dif R.S.off (oT := listOf vT.toArray nT) (oU := listOf vU.toArray nU) (o1 := listOf (strValues b1).toArray n1) (o2 := listOf (strValues b2).toArray n2) (o3 := listOf (strValues b3).toArray n3) (e1 := listOf (strValues c1).toArray k1) (e2 := listOf (strValues c2).toArray k2) (e3 := listOf (strValues c3).toArray k3))
  obtain ⟨Ld, hLd⟩ : ∃ Ld, st ++ ledM a vT vU b1 b2 b3 c1 c2 c3 nT nU n1 n2 n3 k1 k2 k3 = Ld := ⟨_, rfl⟩
  have hLd' := hLd
  unfold ledM at hLd'
  rw [hLd] at N
  rw [hLd'] at hT hU
  have sub : ∀ p ∈ st, p ∈ Ld := fun p hp => hLd ▸ List.mem_append_left _ hp
  delta lawM at F ret
  repeat' ((fail_if_success (with_reducible show wpAny _ _ (PySem.compareOp _ _ _) _ _ _)); first | walk1 | (k_unfold; (try dsimp only)))
  try dsimp only
  refine kqd_eq N hT rfl rfl R.dT sub hU rfl rfl R.dU sub R.ok R.ok (by first | decide | ke_room) ?_
  simp only [decide_true]
  first | exact ret _ _ (by assumption) | (k_steps; exact ret _ _ (by assumption))
end

end Mine
end
section
open PySem PySem.W PyProof.Rows PySem.Calls Builtin Builtin.ObjectAttr
namespace Mine
set_option maxRecDepth 100000
set_option maxHeartbeats 8000000
local macro_rules | `(tactic| walk_at "getAttr ref") => `(tactic| (k_here; k_dflt (refine' hk_bound ?k1 ?k2 ?k3 ?k4 ?k5 ?kh ?k6 ?k7 ?k8 ?k9 ?k10 ?k11 ?k12 ?_; (case k4 => k_inst); (case k1 => k_asm); (case k2 => k_asm); (case k3 => k_asm); (case k5 => k_is); (case kh => k_is); (case k6 => k_is); (case k7 => k_is); (case k8 => k_is); (case k9 => k_is); (case k10 => k_is); (case k11 => decide +kernel); (case k12 => k_get); k_whole); intro q' h' F' N' l1; (try k_lt l1); (try k_sweep)))
local macro_rules | `(tactic| walk_at "getAttr ref") => `(tactic| (k_here; k_dflt (refine' hk_own ?k1 ?k2 ?k3 ?k4 ?k5 ?k6 ?k7 ?k8 ?k9 ?_; (case k1 => k_asm); (case k2 => k_asm); (case k3 => k_inst); (case k4 => k_is); (case k5 => k_is); (case k6 => k_is); (case k7 => k_is); (case k8 => k_get); (case k9 => k_handed); k_whole)))
local macro_rules | `(tactic| walk_at "getMethod ref") => `(tactic| (k_here; k_dflt (refine' hk_method ?k1 ?k2 ?k3 ?k4 ?k5 ?_; (case k1 => k_asm); (case k2 => k_asm); (case k3 => k_inst); (case k4 => k_is); (case k5 => k_is); k_whole)))
local macro_rules | `(tactic| ktr_enter) => `(tactic| (refine' code_def ?k1 ?k2 ?k3 ?k4 ?k5 ?kA ?kF ?kK ?k6 ?k7 ?k8 ?k9 ?kB ?_ ?c2 ?c3 ?c4 ?c5; (case kA => exact rfl); (case kF => exact rfl); (case kK => first | assumption | exact rfl); (case k1 => k_asm); (case k2 => k_asm); (case k3 => k_asm); (case k4 => k_asm); (case k5 => k_asm); (case k6 => k_is); (case k7 => k_is); (case k8 => ktr_room); (case k9 => first | exact BindsTo.of_eq rfl | exact binds_K (by k_in) rfl (by k_is) rfl rfl rfl); (case c5 => decide); (case kB => exact locs rfl); (case c2 => exact rfl); (case c3 => exact rfl); (case c4 => exact rfl); k_whole; intro g' L' h' FG' F' N' B' X' T'; (try dsimp only); (try k_lift B'); (try k_fold)))
local macro_rules | `(tactic| ktr_call $c:term 0) => `(tactic| (refine wpAny_call ?_; k_dflt (refine' ct_use $c ?k1 ?k2 ?k3 ?k4 ?k5 ?kK ?kd ?ku ?kp ?_; (case k1 => k_asm); (case k2 => k_asm); (case k3 => k_asm); (case k4 => k_asm); (case k5 => k_asm); (case kK => first | assumption | exact rfl); (case kd => ktr_room); (case ku => ktr_units))))
local macro_rules | `(tactic| ktr_call $c:term 1) => `(tactic| (refine' call_meth ?N ?q ?_; (case N => k_asm); (case q => k_mem); k_dflt (refine' ct_use $c ?k1 ?k2 ?k3 ?k4 ?k5 ?kK ?kd ?ku ?kp ?_; (case k1 => k_asm); (case k2 => k_asm); (case k3 => k_asm); (case k4 => k_asm); (case k5 => k_asm); (case kK => first | assumption | exact rfl); (case kd => ktr_room); (case ku => ktr_units))))
local macro_rules | `(tactic| k_mem) => `(tactic| first | assumption | exact List.mem_cons_self .. | (refine' List.mem_cons_of_mem _ ?_; k_mem))
local macro_rules | `(tactic| kst_same) => `(tactic| (intro z h1 h2 h3; (simp only [List.forall_mem_cons, List.not_mem_nil, false_implies, implies_true, and_true, ne_eq] at h2); (simp only [List.contains_cons, List.contains_nil, Bool.or_false, Bool.or_eq_false_iff, beq_eq_false_iff_ne, ne_eq] at h3); (simp [kstB, h1, h2, h3]; done)))
local macro_rules | `(tactic| kby_size) => `(tactic| (rw [PySem.sizeLine_eq]; omega))
local macro_rules | `(tactic| walk_at "call builtin:str.lstrip") => `(tactic| (k_here; (refine KXw.lstrip (by assumption) (by kby_size) ?_); intro _ _))
local macro_rules | `(tactic| walk_at "call builtin:str.strip") => `(tactic| (k_here; (refine KXw.strip (by assumption) (by kby_size) ?_); intro _ _))
local macro_rules | `(tactic| walk_at "call builtin:str.strip") => `(tactic| (k_here; (refine KXw.stripChars (by assumption) (by kby_size) ?_); intro _ _))
local macro_rules | `(tactic| walk_at "call builtin:str.upper") => `(tactic| (k_here; (refine KXw.upper (by assumption) (by decide +kernel) ?_); intro _ _))
local macro_rules | `(tactic| walk_at "call builtin:str.partition") => `(tactic| (k_here; (refine KXpa.partition (by k_asm) (by k_asm) (by decide) (by assumption) (by assumption) (by assumption) (by kby_size) ?_); intro D' _ _ _ _ _ F' N' l1; (try k_lt l1)))
local macro_rules | `(tactic| walk_at "call builtin:str.split") => `(tactic| (k_here; (refine KSpl.split1 (by k_asm) (by k_asm) (by decide) ?_ (by kby_size)); intro D' _ _ _ _ _ F' N' l1; (try k_lt l1)))
--FROM MN5
theorem cuts_same : ∀ k, k < 10 → cutT (Txt.join "," (cutT (Txt.join "," (startB.take k)))) = cutT (Txt.join "," (startB.take k)) := by decide +kernel
theorem rowB_cut (o : Int) : cutT (Txt.join "," (rowB o)) = rowB o := cuts_same _ (by
  have h1 := Int.fmod_lt_of_pos o (show (0 : Int) < 10 by decide)
  have h2 := Int.fmod_nonneg_of_pos o (show (0 : Int) < 10 by decide)
  omega)
theorem fr_pick {h₀ h : Heap} {L : Addr} {m : Str → Option Value} {x0 : Str} {v : Option Value} (F : Fr h₀ L h m) (e : m x0 = v) : Fr h₀ L h (fun x => if x = x0 then v else m x) := by
  have : (fun x => if x = x0 then v else m x) = m := by
    funext x
    split
    · subst x; exact e.symm
    · rfl
  rw [this]
  exact F
theorem news_ne {h₀ h : Heap} {L : Addr} {news : Led} (N : News h₀ L h news) {x y : Addr} {o p : Obj} (h1 : (x, o) ∈ news) (h2 : (y, p) ∈ news) (hc : o.cls ≠ p.cls) : @Ne Nat x y := by
  intro e
  have e' : x = y := e
  subst e'
  have a1 := (N _ h1).1
  have a2 := (N _ h2).1
  rw [a1] at a2
  exact hc (congrArg Obj.cls (Option.some.inj a2))
theorem inst_list (c : Addr) (d : Addr) (vs : Array Value) (n : Nat) : (instObj c d).cls ≠ (listOf vs n).cls := by
  unfold instObj W.listOf
  simp
theorem dict_list (P : Params) (k1 v1 k2 v2 k3 : Tok) (tk ty : Str) (l : Addr) (vs : Array Value) (n : Nat) : (msgDict P k1 v1 k2 v2 k3 tk ty l).cls ≠ (listOf vs n).cls := by
  unfold msgDict dictOf W.listOf
  simp
theorem pair_fin {P : Params} {a : Ads} {ra rc : List Str} {st nw nv : Led} {vT vU : List Value} {ds : List Dat} {b1 b2 b3 c1 c2 c3 : List (Str × Tok)} {bd : Nat} {v u : Value} {d : Dat} {oT oU o1 o2 o3 e1 e2 e3 pT pU p1 p2 p3 q1 q2 q3 : Obj} (R : RunAt P a ra rc st vT vU ds b1 b2 b3 c1 c2 c3 bd)
    (fr2 : ∀ p ∈ nw, ∀ q ∈ st ++ muL a oT oU o1 o2 o3 e1 e2 e3, q.1 ≠ p.1) (fr3 : ∀ p ∈ nv, ∀ q ∈ (nw ++ st) ++ muL a pT pU p1 p2 p3 q1 q2 q3, q.1 ≠ p.1) (d2 : DatIn (nv ++ (nw ++ st)) v d) (d3 : DatIn (nv ++ (nw ++ st)) u d) (hd : kqdOk 8 d = true) :
    RunAt P a ra rc (nv ++ (nw ++ st)) (vT ++ [v]) (vU ++ [u]) (ds ++ [d]) b1 b2 b3 c1 c2 c3 (bd + 1) := by
  have sub : ∀ p ∈ st, p ∈ nv ++ (nw ++ st) := fun p hp => List.mem_append_right _ (List.mem_append_right _ hp)
  refine { R with S := R.S.grow sub fun p hp => ?_, dT := dat_snoc (datAll_mono sub R.dT) d2, dU := dat_snoc (datAll_mono sub R.dU) d3, len := ?_, ok := fun e he => ?_ }
  · rcases List.mem_append.mp hp with hp | hp
    · exact off_of (fr3 p hp)
    rcases List.mem_append.mp hp with hp | hp
    · exact off_of (fr2 p hp)
    · exact R.S.off p hp
  · rw [List.length_append, List.length_singleton]; have := R.len; omega
  · rcases List.mem_append.mp he with he | he
    · exact R.ok e he
    · rw [List.mem_singleton.mp he]; exact hd
theorem Sta.more {P : Params} {a : Ads} {ra rc : List Str} {st nw : Led} {oT oU o1 o2 o3 e1 e2 e3 : Obj} (S : Sta P a ra rc st) (fr : ∀ p ∈ nw, ∀ q ∈ st ++ muL a oT oU o1 o2 o3 e1 e2 e3, q.1 ≠ p.1) : Sta P a ra rc (nw ++ st) :=
  S.grow (fun p hp => List.mem_append_right _ hp) fun p hp => by
    rcases List.mem_append.mp hp with hp | hp
    · exact off_of (fr p hp)
    · exact S.off p hp
theorem endD_ok {r1 r2 r3 : List Str} (h1 : OkRow r1) (h2 : OkRow r2) (h3 : OkRow r3) : kqdOk 8 (endD r1 r2 r3) = true := by
  refine klist_ok fun d hd => ?_
  simp only [List.mem_cons, List.not_mem_nil, or_false] at hd
  rcases hd with rfl | rfl
  · exact namesDat_ok h1 h2 h3 5
  · exact bareDat_ok h1 h2 h3 6
section
variable {w : World} {base : Heap} {mean : ExcName → Option Value} {mg mb : Str → Option Value} {L fa : Addr} {cd : Value} {s : Shared} {Q : Flow → Shared → Prop} {E : Value → Shared → Prop} {Sc : Addr} {vs : List Value} {ns : List Int}
theorem l_second (K0 : Below callerA base [] base) (X : Frag.In (Mine.hd.heap_39 w.params) base) (T : Top VW LO mean mg mb base) (hE : PassesOwn (model PG w) (lawAr L fa cd) (lawEnv L fa cd) E) (hL : base.IsList Sc vs.toArray) (hI : IntsAre vs ns) (hlen : ns.length ≤ 63)
    {rest : Str → Option Value} {a : Ads} {ra rc : List Str} {st : Led} {vT vU : List Value} {ds : List Dat} {b1 b2 b3 c1 c2 c3 : List (Str × Tok)} {nT nU n1 n2 n3 k1 k2 k3 : Nat} (R : RunAt w.params a ra rc st vT vU ds b1 b2 b3 c1 c2 c3 3)
    (F : Fr base L s.heap (lawM a (fun x => if x = "script" then some (.ref Sc) else rest x))) (N : News base L s.heap (st ++ ledM a vT vU b1 b2 b3 c1 c2 c3 nT nU n1 n2 n3 k1 k2 k3))
    (ret : ∀ h' tk' m', Fr base L h' m' → Q (.ret (.bool true)) { s with heap := h', toks := tk' }) :
    wpAny (model PG w) (lawAr L fa cd) (execs (lawBody.drop 9) (lawEnv L fa cd)) Q E s := by
  refine execs_at 9 1 lawBody s ?_
  refine l_loop K0 X T hE hL hI hlen R F N ?_
  clear R N F
  intro m1 st vT vU ds b1 b2 b3 c1 c2 c3 nT nU h1 tk1 F1 h6 N1 R
  rw [h6.self] at F1
  have lT : vT.length ≤ 900 := by rw [R.dT.length]; have := R.len; omega
  have lU : vU.length ≤ 900 := by rw [R.dU.length]; have := R.len; omega
  refine execs_at 10 1 lawBody _ ?_
  refine l_toldB K0 X T R.S (len9 R.e1 R.ok1) (len9 R.e2 R.ok2) (len9 R.e3 R.ok3) R.za.few R.zc.few R.e1 R.e2 R.e3 (by omega) F1 N1 ?_
  intro nw v h2 tk2 F2 N2 fr2 d2
  have S2 := R.S.more fr2
  rw [← List.append_assoc] at N2
  refine execs_at 11 1 lawBody _ ?_
  refine l_dueB K0 X T S2 (len9 rfl R.ok1) (len9 rfl R.ok2) (len9 rfl R.ok3) rfl rfl rfl (by omega) F2 N2 ?_
  intro nv u h3 tk3 F3 N3 fr3 d3
  rw [← List.append_assoc] at N3
  have R3 := pair_fin R fr2 fr3 (d2.mono fun p hp => List.mem_append_right _ (List.mem_append_left _ hp)) (d3 _ S2) (snapD_ok R.ok1 R.ok2 R.ok3 R.za R.zc)
  refine execs_at 12 1 lawBody _ ?_
  refine l_end1 K0 X T R3.S R3.ok1 R3.ok2 R3.ok3 R3.e1 R3.e2 R3.e3 (by rw [List.length_append, List.length_singleton]; omega) F3 N3 ?_
  intro nw4 v4 h4 tk4 F4 N4 fr4 d4
  have S4 := R3.S.more fr4
  rw [← List.append_assoc] at N4
  refine execs_at 13 1 lawBody _ ?_
  refine l_end2 K0 X T S4 R3.ok1 R3.ok2 R3.ok3 rfl rfl rfl (by rw [List.length_append, List.length_singleton]; omega) F4 N4 ?_
  intro nv5 u5 h5 tk5 F5 N5 fr5 d5
  rw [← List.append_assoc] at N5
  have R5 := pair_fin R3 fr4 fr5 (d4.mono fun p hp => List.mem_append_right _ (List.mem_append_left _ hp)) (d5.mono fun p hp => List.mem_append_left _ hp) (endD_ok R3.ok1 R3.ok2 R3.ok3)
  refine execs_at 14 1 lawBody _ ?_
  refine l_zip K0 X T hE R5 (by omega) F5 N5 ?_
  intro m6 st6 vT6 vU6 ds6 nT6 nU6 h6' tk6 F6 s6 N6 R6
  rw [s6.self] at F6
  refine l_ret K0 X T R6 F6 N6 ?_
  intro h7 tk7 F7
  exact ret h7 tk7 _ F7
end

end Mine
end
section
open PySem PySem.W PyProof.Rows PySem.Calls Builtin Builtin.ObjectAttr
namespace Mine
set_option maxRecDepth 100000
set_option maxHeartbeats 8000000
local macro_rules | `(tactic| walk_at "getAttr ref") => `(tactic| (k_here; k_dflt (refine' hk_bound ?k1 ?k2 ?k3 ?k4 ?k5 ?kh ?k6 ?k7 ?k8 ?k9 ?k10 ?k11 ?k12 ?_; (case k4 => k_inst); (case k1 => k_asm); (case k2 => k_asm); (case k3 => k_asm); (case k5 => k_is); (case kh => k_is); (case k6 => k_is); (case k7 => k_is); (case k8 => k_is); (case k9 => k_is); (case k10 => k_is); (case k11 => decide +kernel); (case k12 => k_get); k_whole); intro q' h' F' N' l1; (try k_lt l1); (try k_sweep)))
local macro_rules | `(tactic| walk_at "getAttr ref") => `(tactic| (k_here; k_dflt (refine' hk_own ?k1 ?k2 ?k3 ?k4 ?k5 ?k6 ?k7 ?k8 ?k9 ?_; (case k1 => k_asm); (case k2 => k_asm); (case k3 => k_inst); (case k4 => k_is); (case k5 => k_is); (case k6 => k_is); (case k7 => k_is); (case k8 => k_get); (case k9 => k_handed); k_whole)))
local macro_rules | `(tactic| walk_at "getMethod ref") => `(tactic| (k_here; k_dflt (refine' hk_method ?k1 ?k2 ?k3 ?k4 ?k5 ?_; (case k1 => k_asm); (case k2 => k_asm); (case k3 => k_inst); (case k4 => k_is); (case k5 => k_is); k_whole)))
local macro_rules | `(tactic| ktr_enter) => `(tactic| (refine' code_def ?k1 ?k2 ?k3 ?k4 ?k5 ?kA ?kF ?kK ?k6 ?k7 ?k8 ?k9 ?kB ?_ ?c2 ?c3 ?c4 ?c5; (case kA => exact rfl); (case kF => exact rfl); (case kK => first | assumption | exact rfl); (case k1 => k_asm); (case k2 => k_asm); (case k3 => k_asm); (case k4 => k_asm); (case k5 => k_asm); (case k6 => k_is); (case k7 => k_is); (case k8 => ktr_room); (case k9 => first | exact BindsTo.of_eq rfl | exact binds_K (by k_in) rfl (by k_is) rfl rfl rfl); (case c5 => decide); (case kB => exact locs rfl); (case c2 => exact rfl); (case c3 => exact rfl); (case c4 => exact rfl); k_whole; intro g' L' h' FG' F' N' B' X' T'; (try dsimp only); (try k_lift B'); (try k_fold)))
local macro_rules | `(tactic| ktr_call $c:term 0) => `(tactic| (refine wpAny_call ?_; k_dflt (refine' ct_use $c ?k1 ?k2 ?k3 ?k4 ?k5 ?kK ?kd ?ku ?kp ?_; (case k1 => k_asm); (case k2 => k_asm); (case k3 => k_asm); (case k4 => k_asm); (case k5 => k_asm); (case kK => first | assumption | exact rfl); (case kd => ktr_room); (case ku => ktr_units))))
local macro_rules | `(tactic| ktr_call $c:term 1) => `(tactic| (refine' call_meth ?N ?q ?_; (case N => k_asm); (case q => k_mem); k_dflt (refine' ct_use $c ?k1 ?k2 ?k3 ?k4 ?k5 ?kK ?kd ?ku ?kp ?_; (case k1 => k_asm); (case k2 => k_asm); (case k3 => k_asm); (case k4 => k_asm); (case k5 => k_asm); (case kK => first | assumption | exact rfl); (case kd => ktr_room); (case ku => ktr_units))))
local macro_rules | `(tactic| k_mem) => `(tactic| first | assumption | exact List.mem_cons_self .. | (refine' List.mem_cons_of_mem _ ?_; k_mem))
local macro_rules | `(tactic| kst_same) => `(tactic| (intro z h1 h2 h3; (simp only [List.forall_mem_cons, List.not_mem_nil, false_implies, implies_true, and_true, ne_eq] at h2); (simp only [List.contains_cons, List.contains_nil, Bool.or_false, Bool.or_eq_false_iff, beq_eq_false_iff_ne, ne_eq] at h3); (simp [kstB, h1, h2, h3]; done)))
local macro_rules | `(tactic| kby_size) => `(tactic| (rw [PySem.sizeLine_eq]; omega))
local macro_rules | `(tactic| walk_at "call builtin:str.lstrip") => `(tactic| (k_here; (refine KXw.lstrip (by assumption) (by kby_size) ?_); intro _ _))
local macro_rules | `(tactic| walk_at "call builtin:str.strip") => `(tactic| (k_here; (refine KXw.strip (by assumption) (by kby_size) ?_); intro _ _))
local macro_rules | `(tactic| walk_at "call builtin:str.strip") => `(tactic| (k_here; (refine KXw.stripChars (by assumption) (by kby_size) ?_); intro _ _))
local macro_rules | `(tactic| walk_at "call builtin:str.upper") => `(tactic| (k_here; (refine KXw.upper (by assumption) (by decide +kernel) ?_); intro _ _))
local macro_rules | `(tactic| walk_at "call builtin:str.partition") => `(tactic| (k_here; (refine KXpa.partition (by k_asm) (by k_asm) (by decide) (by assumption) (by assumption) (by assumption) (by kby_size) ?_); intro D' _ _ _ _ _ F' N' l1; (try k_lt l1)))
local macro_rules | `(tactic| walk_at "call builtin:str.split") => `(tactic| (k_here; (refine KSpl.split1 (by k_asm) (by k_asm) (by decide) ?_ (by kby_size)); intro D' _ _ _ _ _ F' N' l1; (try k_lt l1)))
--FROM MN6
theorem start_ok {w : World} {h₀ h : Heap} {L : Addr} {T1 U1 R r1 r2 r3 H h1 h3 KP kp1 kp3 M x1 x2 x3 dx1 dx2 dx3 d1 d2 d3 : Addr} {ls1 ls2 ls3 lsd : List (Str × Tok)} {n n1 n2 n3 m1 m2 m3 m4 m5 m6 c c1 c2 c3 cT cU : Nat} {q1 q2 q3 q4 q5 p1 p2 p3 p4 p5 t1 t2 t3 t4 t5 : Tok} {vT vU : List Value} {nT nU : Led} {ra rb rc : List Str} {ds : List Dat}
    (N : News h₀ L h ((U1, listOf (List.toArray vU) cU) :: (nU ++ ((T1, listOf (List.toArray vT) cT) :: (nT ++ ((M, listOf #[.ref x1, .ref x2, .ref x3] c) :: ([(d3, listOf (strValues ls3).toArray c3), (x3, instObj 253 dx3), (dx3, msgDict w.params p1 p2 p3 p4 p5 "GP" "WPL" d3)] ++ ([(d1, listOf (strValues ls1).toArray c1), (x1, instObj 253 dx1), (dx1, msgDict w.params q1 q2 q3 q4 q5 "GP" "WPL" d1)] ++ ([(d2, listOf (strValues lsd).toArray c2), (x2, instObj 274 dx2), (dx2, msgDict w.params t1 t2 t3 t4 t5 "II" "DTM" d2)] ++ [(KP, listOf #[.ref kp1, .ref kp3] m1), (kp3, listOf (strValues ls3).toArray m2), (kp1, listOf (strValues ls1).toArray m3), (H, listOf #[.ref h1, .ref h3] m4), (h3, listOf (strValues ls3).toArray m5), (h1, listOf (strValues ls1).toArray m6), (R, listOf #[.ref r1, .ref r2, .ref r3] n), (r3, listOf (strValues ls3).toArray n3), (r2, listOf (strValues ls2).toArray n2), (r1, listOf (strValues ls1).toArray n1)])))))))))
    (o1 : @LT.lt Nat _ r1 r2) (o2 : @LT.lt Nat _ r2 r3) (o3 : @LT.lt Nat _ r3 R) (o4 : @LT.lt Nat _ R h1) (o5 : @LT.lt Nat _ h1 h3) (o6 : @LT.lt Nat _ h3 H) (o7 : @LT.lt Nat _ H kp1) (o8 : @LT.lt Nat _ kp1 kp3) (o9 : @LT.lt Nat _ kp3 KP)
    (l2 : ∀ p ∈ [(d2, listOf (strValues lsd).toArray c2), (x2, instObj 274 dx2), (dx2, msgDict w.params t1 t2 t3 t4 t5 "II" "DTM" d2)], AllLt p.1 [(KP, listOf #[.ref kp1, .ref kp3] m1), (kp3, listOf (strValues ls3).toArray m2), (kp1, listOf (strValues ls1).toArray m3), (H, listOf #[.ref h1, .ref h3] m4), (h3, listOf (strValues ls3).toArray m5), (h1, listOf (strValues ls1).toArray m6), (R, listOf #[.ref r1, .ref r2, .ref r3] n), (r3, listOf (strValues ls3).toArray n3), (r2, listOf (strValues ls2).toArray n2), (r1, listOf (strValues ls1).toArray n1)]) (l1 : ∀ p ∈ [(d1, listOf (strValues ls1).toArray c1), (x1, instObj 253 dx1), (dx1, msgDict w.params q1 q2 q3 q4 q5 "GP" "WPL" d1)], AllLt p.1 ([(d2, listOf (strValues lsd).toArray c2), (x2, instObj 274 dx2), (dx2, msgDict w.params t1 t2 t3 t4 t5 "II" "DTM" d2)] ++ [(KP, listOf #[.ref kp1, .ref kp3] m1), (kp3, listOf (strValues ls3).toArray m2), (kp1, listOf (strValues ls1).toArray m3), (H, listOf #[.ref h1, .ref h3] m4), (h3, listOf (strValues ls3).toArray m5), (h1, listOf (strValues ls1).toArray m6), (R, listOf #[.ref r1, .ref r2, .ref r3] n), (r3, listOf (strValues ls3).toArray n3), (r2, listOf (strValues ls2).toArray n2), (r1, listOf (strValues ls1).toArray n1)])) (l3 : ∀ p ∈ [(d3, listOf (strValues ls3).toArray c3), (x3, instObj 253 dx3), (dx3, msgDict w.params p1 p2 p3 p4 p5 "GP" "WPL" d3)], AllLt p.1 ([(d1, listOf (strValues ls1).toArray c1), (x1, instObj 253 dx1), (dx1, msgDict w.params q1 q2 q3 q4 q5 "GP" "WPL" d1)] ++ ([(d2, listOf (strValues lsd).toArray c2), (x2, instObj 274 dx2), (dx2, msgDict w.params t1 t2 t3 t4 t5 "II" "DTM" d2)] ++ [(KP, listOf #[.ref kp1, .ref kp3] m1), (kp3, listOf (strValues ls3).toArray m2), (kp1, listOf (strValues ls1).toArray m3), (H, listOf #[.ref h1, .ref h3] m4), (h3, listOf (strValues ls3).toArray m5), (h1, listOf (strValues ls1).toArray m6), (R, listOf #[.ref r1, .ref r2, .ref r3] n), (r3, listOf (strValues ls3).toArray n3), (r2, listOf (strValues ls2).toArray n2), (r1, listOf (strValues ls1).toArray n1)]))) (lM : ∀ p ∈ [(d3, listOf (strValues ls3).toArray c3), (x3, instObj 253 dx3), (dx3, msgDict w.params p1 p2 p3 p4 p5 "GP" "WPL" d3)] ++ ([(d1, listOf (strValues ls1).toArray c1), (x1, instObj 253 dx1), (dx1, msgDict w.params q1 q2 q3 q4 q5 "GP" "WPL" d1)] ++ ([(d2, listOf (strValues lsd).toArray c2), (x2, instObj 274 dx2), (dx2, msgDict w.params t1 t2 t3 t4 t5 "II" "DTM" d2)] ++ [(KP, listOf #[.ref kp1, .ref kp3] m1), (kp3, listOf (strValues ls3).toArray m2), (kp1, listOf (strValues ls1).toArray m3), (H, listOf #[.ref h1, .ref h3] m4), (h3, listOf (strValues ls3).toArray m5), (h1, listOf (strValues ls1).toArray m6), (R, listOf #[.ref r1, .ref r2, .ref r3] n), (r3, listOf (strValues ls3).toArray n3), (r2, listOf (strValues ls2).toArray n2), (r1, listOf (strValues ls1).toArray n1)])), p.1 < M)
    (fT : ∀ p ∈ nT, ∀ q ∈ (M, listOf #[.ref x1, .ref x2, .ref x3] c) :: ([(d3, listOf (strValues ls3).toArray c3), (x3, instObj 253 dx3), (dx3, msgDict w.params p1 p2 p3 p4 p5 "GP" "WPL" d3)] ++ ([(d1, listOf (strValues ls1).toArray c1), (x1, instObj 253 dx1), (dx1, msgDict w.params q1 q2 q3 q4 q5 "GP" "WPL" d1)] ++ ([(d2, listOf (strValues lsd).toArray c2), (x2, instObj 274 dx2), (dx2, msgDict w.params t1 t2 t3 t4 t5 "II" "DTM" d2)] ++ [(KP, listOf #[.ref kp1, .ref kp3] m1), (kp3, listOf (strValues ls3).toArray m2), (kp1, listOf (strValues ls1).toArray m3), (H, listOf #[.ref h1, .ref h3] m4), (h3, listOf (strValues ls3).toArray m5), (h1, listOf (strValues ls1).toArray m6), (R, listOf #[.ref r1, .ref r2, .ref r3] n), (r3, listOf (strValues ls3).toArray n3), (r2, listOf (strValues ls2).toArray n2), (r1, listOf (strValues ls1).toArray n1)]))), q.1 ≠ p.1) (lT : ∀ p ∈ nT ++ ((M, listOf #[.ref x1, .ref x2, .ref x3] c) :: ([(d3, listOf (strValues ls3).toArray c3), (x3, instObj 253 dx3), (dx3, msgDict w.params p1 p2 p3 p4 p5 "GP" "WPL" d3)] ++ ([(d1, listOf (strValues ls1).toArray c1), (x1, instObj 253 dx1), (dx1, msgDict w.params q1 q2 q3 q4 q5 "GP" "WPL" d1)] ++ ([(d2, listOf (strValues lsd).toArray c2), (x2, instObj 274 dx2), (dx2, msgDict w.params t1 t2 t3 t4 t5 "II" "DTM" d2)] ++ [(KP, listOf #[.ref kp1, .ref kp3] m1), (kp3, listOf (strValues ls3).toArray m2), (kp1, listOf (strValues ls1).toArray m3), (H, listOf #[.ref h1, .ref h3] m4), (h3, listOf (strValues ls3).toArray m5), (h1, listOf (strValues ls1).toArray m6), (R, listOf #[.ref r1, .ref r2, .ref r3] n), (r3, listOf (strValues ls3).toArray n3), (r2, listOf (strValues ls2).toArray n2), (r1, listOf (strValues ls1).toArray n1)])))), p.1 < T1) (fU : ∀ p ∈ nU, ∀ q ∈ (T1, listOf (List.toArray vT) cT) :: (nT ++ ((M, listOf #[.ref x1, .ref x2, .ref x3] c) :: ([(d3, listOf (strValues ls3).toArray c3), (x3, instObj 253 dx3), (dx3, msgDict w.params p1 p2 p3 p4 p5 "GP" "WPL" d3)] ++ ([(d1, listOf (strValues ls1).toArray c1), (x1, instObj 253 dx1), (dx1, msgDict w.params q1 q2 q3 q4 q5 "GP" "WPL" d1)] ++ ([(d2, listOf (strValues lsd).toArray c2), (x2, instObj 274 dx2), (dx2, msgDict w.params t1 t2 t3 t4 t5 "II" "DTM" d2)] ++ [(KP, listOf #[.ref kp1, .ref kp3] m1), (kp3, listOf (strValues ls3).toArray m2), (kp1, listOf (strValues ls1).toArray m3), (H, listOf #[.ref h1, .ref h3] m4), (h3, listOf (strValues ls3).toArray m5), (h1, listOf (strValues ls1).toArray m6), (R, listOf #[.ref r1, .ref r2, .ref r3] n), (r3, listOf (strValues ls3).toArray n3), (r2, listOf (strValues ls2).toArray n2), (r1, listOf (strValues ls1).toArray n1)]))))), q.1 ≠ p.1) (lU : ∀ p ∈ nU ++ ((T1, listOf (List.toArray vT) cT) :: (nT ++ ((M, listOf #[.ref x1, .ref x2, .ref x3] c) :: ([(d3, listOf (strValues ls3).toArray c3), (x3, instObj 253 dx3), (dx3, msgDict w.params p1 p2 p3 p4 p5 "GP" "WPL" d3)] ++ ([(d1, listOf (strValues ls1).toArray c1), (x1, instObj 253 dx1), (dx1, msgDict w.params q1 q2 q3 q4 q5 "GP" "WPL" d1)] ++ ([(d2, listOf (strValues lsd).toArray c2), (x2, instObj 274 dx2), (dx2, msgDict w.params t1 t2 t3 t4 t5 "II" "DTM" d2)] ++ [(KP, listOf #[.ref kp1, .ref kp3] m1), (kp3, listOf (strValues ls3).toArray m2), (kp1, listOf (strValues ls1).toArray m3), (H, listOf #[.ref h1, .ref h3] m4), (h3, listOf (strValues ls3).toArray m5), (h1, listOf (strValues ls1).toArray m6), (R, listOf #[.ref r1, .ref r2, .ref r3] n), (r3, listOf (strValues ls3).toArray n3), (r2, listOf (strValues ls2).toArray n2), (r1, listOf (strValues ls1).toArray n1)])))))), p.1 < U1)
    (ea : ls1.map (·.1) = ra) (eb : ls2.map (·.1) = rb) (ec : ls3.map (·.1) = rc) (ed : lsd.map (·.1) = rb) (ha : OkRow ra) (hb : OkRow rb) (hc : OkRow rc) (dT : DatAll nT vT ds) (dU : DatAll nU vU ds) (hl : ds.length ≤ 3) (hk : ∀ d ∈ ds, kqdOk 8 d = true) :
    News h₀ L h ((nU ++ (nT ++ [(M, listOf #[.ref x1, .ref x2, .ref x3] c), (x3, instObj 253 dx3), (dx3, msgDict w.params p1 p2 p3 p4 p5 "GP" "WPL" d3), (x1, instObj 253 dx1), (dx1, msgDict w.params q1 q2 q3 q4 q5 "GP" "WPL" d1), (x2, instObj 274 dx2), (dx2, msgDict w.params t1 t2 t3 t4 t5 "II" "DTM" d2), (KP, listOf #[.ref kp1, .ref kp3] m1), (kp3, listOf (strValues ls3).toArray m2), (kp1, listOf (strValues ls1).toArray m3), (H, listOf #[.ref h1, .ref h3] m4), (h3, listOf (strValues ls3).toArray m5), (h1, listOf (strValues ls1).toArray m6), (R, listOf #[.ref r1, .ref r2, .ref r3] n)])) ++ ledM ⟨T1, U1, R, r1, r2, r3, H, h1, h3, KP, kp1, kp3, M, x1, x2, x3, dx1, dx2, dx3, d1, d2, d3⟩ vT vU ls1 ls2 ls3 ls1 lsd ls3 cT cU n1 n2 n3 c1 c2 c3) ∧ RunAt w.params ⟨T1, U1, R, r1, r2, r3, H, h1, h3, KP, kp1, kp3, M, x1, x2, x3, dx1, dx2, dx3, d1, d2, d3⟩ ra rc (nU ++ (nT ++ [(M, listOf #[.ref x1, .ref x2, .ref x3] c), (x3, instObj 253 dx3), (dx3, msgDict w.params p1 p2 p3 p4 p5 "GP" "WPL" d3), (x1, instObj 253 dx1), (dx1, msgDict w.params q1 q2 q3 q4 q5 "GP" "WPL" d1), (x2, instObj 274 dx2), (dx2, msgDict w.params t1 t2 t3 t4 t5 "II" "DTM" d2), (KP, listOf #[.ref kp1, .ref kp3] m1), (kp3, listOf (strValues ls3).toArray m2), (kp1, listOf (strValues ls1).toArray m3), (H, listOf #[.ref h1, .ref h3] m4), (h3, listOf (strValues ls3).toArray m5), (h1, listOf (strValues ls1).toArray m6), (R, listOf #[.ref r1, .ref r2, .ref r3] n)])) vT vU ds ls1 ls2 ls3 ls1 lsd ls3 3 := by
  have Ld2 := l2 _ (.head _)
  have Lx2 := l2 _ (.tail _ (.head _))
  have Ldx2 := l2 _ (.tail _ (.tail _ (.head _)))
  have Ld1 := l1 _ (.head _)
  have Lx1 := l1 _ (.tail _ (.head _))
  have Ldx1 := l1 _ (.tail _ (.tail _ (.head _)))
  have Ld3 := l3 _ (.head _)
  have Lx3 := l3 _ (.tail _ (.head _))
  have Ldx3 := l3 _ (.tail _ (.tail _ (.head _)))
  simp only [AllLt, List.cons_append, List.nil_append, and_true] at Ld2 Lx2 Ldx2 Ld1 Lx1 Ldx1 Ld3 Lx3 Ldx3
  have Md3 : @LT.lt Nat _ d3 M := lM (d3, _) (.head _)
  have Mx3 : @LT.lt Nat _ x3 M := lM (x3, _) (.tail _ (.head _))
  have Mdx3 : @LT.lt Nat _ dx3 M := lM (dx3, _) (.tail _ (.tail _ (.head _)))
  have Md1 : @LT.lt Nat _ d1 M := lM (d1, _) (.tail _ (.tail _ (.tail _ (.head _))))
  have Mx1 : @LT.lt Nat _ x1 M := lM (x1, _) (.tail _ (.tail _ (.tail _ (.tail _ (.head _)))))
  have Mdx1 : @LT.lt Nat _ dx1 M := lM (dx1, _) (.tail _ (.tail _ (.tail _ (.tail _ (.tail _ (.head _))))))
  have Md2 : @LT.lt Nat _ d2 M := lM (d2, _) (.tail _ (.tail _ (.tail _ (.tail _ (.tail _ (.tail _ (.head _)))))))
  have Mx2 : @LT.lt Nat _ x2 M := lM (x2, _) (.tail _ (.tail _ (.tail _ (.tail _ (.tail _ (.tail _ (.tail _ (.head _))))))))
  have Mdx2 : @LT.lt Nat _ dx2 M := lM (dx2, _) (.tail _ (.tail _ (.tail _ (.tail _ (.tail _ (.tail _ (.tail _ (.tail _ (.head _)))))))))
  have MKP : @LT.lt Nat _ KP M := lM (KP, _) (.tail _ (.tail _ (.tail _ (.tail _ (.tail _ (.tail _ (.tail _ (.tail _ (.tail _ (.head _))))))))))
  have Mkp3 : @LT.lt Nat _ kp3 M := lM (kp3, _) (.tail _ (.tail _ (.tail _ (.tail _ (.tail _ (.tail _ (.tail _ (.tail _ (.tail _ (.tail _ (.head _)))))))))))
  have Mkp1 : @LT.lt Nat _ kp1 M := lM (kp1, _) (.tail _ (.tail _ (.tail _ (.tail _ (.tail _ (.tail _ (.tail _ (.tail _ (.tail _ (.tail _ (.tail _ (.head _))))))))))))
  have MH : @LT.lt Nat _ H M := lM (H, _) (.tail _ (.tail _ (.tail _ (.tail _ (.tail _ (.tail _ (.tail _ (.tail _ (.tail _ (.tail _ (.tail _ (.tail _ (.head _)))))))))))))
  have Mh3 : @LT.lt Nat _ h3 M := lM (h3, _) (.tail _ (.tail _ (.tail _ (.tail _ (.tail _ (.tail _ (.tail _ (.tail _ (.tail _ (.tail _ (.tail _ (.tail _ (.tail _ (.head _))))))))))))))
  have Mh1 : @LT.lt Nat _ h1 M := lM (h1, _) (.tail _ (.tail _ (.tail _ (.tail _ (.tail _ (.tail _ (.tail _ (.tail _ (.tail _ (.tail _ (.tail _ (.tail _ (.tail _ (.tail _ (.head _)))))))))))))))
  have MR : @LT.lt Nat _ R M := lM (R, _) (.tail _ (.tail _ (.tail _ (.tail _ (.tail _ (.tail _ (.tail _ (.tail _ (.tail _ (.tail _ (.tail _ (.tail _ (.tail _ (.tail _ (.tail _ (.head _))))))))))))))))
  have Mr3 : @LT.lt Nat _ r3 M := lM (r3, _) (.tail _ (.tail _ (.tail _ (.tail _ (.tail _ (.tail _ (.tail _ (.tail _ (.tail _ (.tail _ (.tail _ (.tail _ (.tail _ (.tail _ (.tail _ (.tail _ (.head _)))))))))))))))))
  have Mr2 : @LT.lt Nat _ r2 M := lM (r2, _) (.tail _ (.tail _ (.tail _ (.tail _ (.tail _ (.tail _ (.tail _ (.tail _ (.tail _ (.tail _ (.tail _ (.tail _ (.tail _ (.tail _ (.tail _ (.tail _ (.tail _ (.head _))))))))))))))))))
  have Mr1 : @LT.lt Nat _ r1 M := lM (r1, _) (.tail _ (.tail _ (.tail _ (.tail _ (.tail _ (.tail _ (.tail _ (.tail _ (.tail _ (.tail _ (.tail _ (.tail _ (.tail _ (.tail _ (.tail _ (.tail _ (.tail _ (.tail _ (.head _)))))))))))))))))))
  have TM : @LT.lt Nat _ M T1 := lT (M, _) (List.mem_append_right _ (.head _))
  have Td3 : @LT.lt Nat _ d3 T1 := lT (d3, _) (List.mem_append_right _ (.tail _ (.head _)))
  have Tx3 : @LT.lt Nat _ x3 T1 := lT (x3, _) (List.mem_append_right _ (.tail _ (.tail _ (.head _))))
  have Tdx3 : @LT.lt Nat _ dx3 T1 := lT (dx3, _) (List.mem_append_right _ (.tail _ (.tail _ (.tail _ (.head _)))))
  have Td1 : @LT.lt Nat _ d1 T1 := lT (d1, _) (List.mem_append_right _ (.tail _ (.tail _ (.tail _ (.tail _ (.head _))))))
  have Tx1 : @LT.lt Nat _ x1 T1 := lT (x1, _) (List.mem_append_right _ (.tail _ (.tail _ (.tail _ (.tail _ (.tail _ (.head _)))))))
  have Tdx1 : @LT.lt Nat _ dx1 T1 := lT (dx1, _) (List.mem_append_right _ (.tail _ (.tail _ (.tail _ (.tail _ (.tail _ (.tail _ (.head _))))))))
  have Td2 : @LT.lt Nat _ d2 T1 := lT (d2, _) (List.mem_append_right _ (.tail _ (.tail _ (.tail _ (.tail _ (.tail _ (.tail _ (.tail _ (.head _)))))))))
  have Tx2 : @LT.lt Nat _ x2 T1 := lT (x2, _) (List.mem_append_right _ (.tail _ (.tail _ (.tail _ (.tail _ (.tail _ (.tail _ (.tail _ (.tail _ (.head _))))))))))
  have Tdx2 : @LT.lt Nat _ dx2 T1 := lT (dx2, _) (List.mem_append_right _ (.tail _ (.tail _ (.tail _ (.tail _ (.tail _ (.tail _ (.tail _ (.tail _ (.tail _ (.head _)))))))))))
  have TKP : @LT.lt Nat _ KP T1 := lT (KP, _) (List.mem_append_right _ (.tail _ (.tail _ (.tail _ (.tail _ (.tail _ (.tail _ (.tail _ (.tail _ (.tail _ (.tail _ (.head _))))))))))))
  have Tkp3 : @LT.lt Nat _ kp3 T1 := lT (kp3, _) (List.mem_append_right _ (.tail _ (.tail _ (.tail _ (.tail _ (.tail _ (.tail _ (.tail _ (.tail _ (.tail _ (.tail _ (.tail _ (.head _)))))))))))))
  have Tkp1 : @LT.lt Nat _ kp1 T1 := lT (kp1, _) (List.mem_append_right _ (.tail _ (.tail _ (.tail _ (.tail _ (.tail _ (.tail _ (.tail _ (.tail _ (.tail _ (.tail _ (.tail _ (.tail _ (.head _))))))))))))))
  have TH : @LT.lt Nat _ H T1 := lT (H, _) (List.mem_append_right _ (.tail _ (.tail _ (.tail _ (.tail _ (.tail _ (.tail _ (.tail _ (.tail _ (.tail _ (.tail _ (.tail _ (.tail _ (.tail _ (.head _)))))))))))))))
  have Th3 : @LT.lt Nat _ h3 T1 := lT (h3, _) (List.mem_append_right _ (.tail _ (.tail _ (.tail _ (.tail _ (.tail _ (.tail _ (.tail _ (.tail _ (.tail _ (.tail _ (.tail _ (.tail _ (.tail _ (.tail _ (.head _))))))))))))))))
  have Th1 : @LT.lt Nat _ h1 T1 := lT (h1, _) (List.mem_append_right _ (.tail _ (.tail _ (.tail _ (.tail _ (.tail _ (.tail _ (.tail _ (.tail _ (.tail _ (.tail _ (.tail _ (.tail _ (.tail _ (.tail _ (.tail _ (.head _)))))))))))))))))
  have TR : @LT.lt Nat _ R T1 := lT (R, _) (List.mem_append_right _ (.tail _ (.tail _ (.tail _ (.tail _ (.tail _ (.tail _ (.tail _ (.tail _ (.tail _ (.tail _ (.tail _ (.tail _ (.tail _ (.tail _ (.tail _ (.tail _ (.head _))))))))))))))))))
  have Tr3 : @LT.lt Nat _ r3 T1 := lT (r3, _) (List.mem_append_right _ (.tail _ (.tail _ (.tail _ (.tail _ (.tail _ (.tail _ (.tail _ (.tail _ (.tail _ (.tail _ (.tail _ (.tail _ (.tail _ (.tail _ (.tail _ (.tail _ (.tail _ (.head _)))))))))))))))))))
  have Tr2 : @LT.lt Nat _ r2 T1 := lT (r2, _) (List.mem_append_right _ (.tail _ (.tail _ (.tail _ (.tail _ (.tail _ (.tail _ (.tail _ (.tail _ (.tail _ (.tail _ (.tail _ (.tail _ (.tail _ (.tail _ (.tail _ (.tail _ (.tail _ (.tail _ (.head _))))))))))))))))))))
  have Tr1 : @LT.lt Nat _ r1 T1 := lT (r1, _) (List.mem_append_right _ (.tail _ (.tail _ (.tail _ (.tail _ (.tail _ (.tail _ (.tail _ (.tail _ (.tail _ (.tail _ (.tail _ (.tail _ (.tail _ (.tail _ (.tail _ (.tail _ (.tail _ (.tail _ (.tail _ (.head _)))))))))))))))))))))
  have UT : @LT.lt Nat _ T1 U1 := lU (T1, _) (List.mem_append_right _ (.head _))
  have gx1 : @Ne Nat x1 d1 := news_ne N (.tail _ (List.mem_append_right _ (.tail _ (List.mem_append_right _ (.tail _ (.tail _ (.tail _ (.tail _ (.tail _ (.head _)))))))))) (.tail _ (List.mem_append_right _ (.tail _ (List.mem_append_right _ (.tail _ (.tail _ (.tail _ (.tail _ (.head _))))))))) (inst_list _ _ _ _)
  have gd1 : @Ne Nat dx1 d1 := news_ne N (.tail _ (List.mem_append_right _ (.tail _ (List.mem_append_right _ (.tail _ (.tail _ (.tail _ (.tail _ (.tail _ (.tail _ (.head _))))))))))) (.tail _ (List.mem_append_right _ (.tail _ (List.mem_append_right _ (.tail _ (.tail _ (.tail _ (.tail _ (.head _))))))))) (dict_list _ _ _ _ _ _ _ _ _ _ _)
  have gx2 : @Ne Nat x2 d2 := news_ne N (.tail _ (List.mem_append_right _ (.tail _ (List.mem_append_right _ (.tail _ (.tail _ (.tail _ (.tail _ (.tail _ (.tail _ (.tail _ (.tail _ (.head _))))))))))))) (.tail _ (List.mem_append_right _ (.tail _ (List.mem_append_right _ (.tail _ (.tail _ (.tail _ (.tail _ (.tail _ (.tail _ (.tail _ (.head _)))))))))))) (inst_list _ _ _ _)
  have gd2 : @Ne Nat dx2 d2 := news_ne N (.tail _ (List.mem_append_right _ (.tail _ (List.mem_append_right _ (.tail _ (.tail _ (.tail _ (.tail _ (.tail _ (.tail _ (.tail _ (.tail _ (.tail _ (.head _)))))))))))))) (.tail _ (List.mem_append_right _ (.tail _ (List.mem_append_right _ (.tail _ (.tail _ (.tail _ (.tail _ (.tail _ (.tail _ (.tail _ (.head _)))))))))))) (dict_list _ _ _ _ _ _ _ _ _ _ _)
  have gx3 : @Ne Nat x3 d3 := news_ne N (.tail _ (List.mem_append_right _ (.tail _ (List.mem_append_right _ (.tail _ (.tail _ (.head _))))))) (.tail _ (List.mem_append_right _ (.tail _ (List.mem_append_right _ (.tail _ (.head _)))))) (inst_list _ _ _ _)
  have gd3 : @Ne Nat dx3 d3 := news_ne N (.tail _ (List.mem_append_right _ (.tail _ (List.mem_append_right _ (.tail _ (.tail _ (.tail _ (.head _)))))))) (.tail _ (List.mem_append_right _ (.tail _ (List.mem_append_right _ (.tail _ (.head _)))))) (dict_list _ _ _ _ _ _ _ _ _ _ _)
  have hdif : Dif ⟨T1, U1, R, r1, r2, r3, H, h1, h3, KP, kp1, kp3, M, x1, x2, x3, dx1, dx2, dx3, d1, d2, d3⟩ := ⟨by k_ne, by k_ne, by k_ne, by k_ne, by k_ne, by k_ne, by k_ne, by k_ne, by k_ne, by k_ne, by k_ne, by k_ne, by k_ne, by k_ne, by k_ne, by k_ne, by k_ne, by k_ne, by k_ne, by k_ne, by k_ne, by k_ne, by k_ne, by k_ne, by k_ne, by k_ne, by k_ne, by k_ne⟩
  have hoffE : ∀ p ∈ ([(M, listOf #[.ref x1, .ref x2, .ref x3] c), (x3, instObj 253 dx3), (dx3, msgDict w.params p1 p2 p3 p4 p5 "GP" "WPL" d3), (x1, instObj 253 dx1), (dx1, msgDict w.params q1 q2 q3 q4 q5 "GP" "WPL" d1), (x2, instObj 274 dx2), (dx2, msgDict w.params t1 t2 t3 t4 t5 "II" "DTM" d2), (KP, listOf #[.ref kp1, .ref kp3] m1), (kp3, listOf (strValues ls3).toArray m2), (kp1, listOf (strValues ls1).toArray m3), (H, listOf #[.ref h1, .ref h3] m4), (h3, listOf (strValues ls3).toArray m5), (h1, listOf (strValues ls1).toArray m6), (R, listOf #[.ref r1, .ref r2, .ref r3] n)] : Led), p.1 ∉ MU ⟨T1, U1, R, r1, r2, r3, H, h1, h3, KP, kp1, kp3, M, x1, x2, x3, dx1, dx2, dx3, d1, d2, d3⟩ := by
    intro p hp
    simp only [List.mem_cons, List.not_mem_nil, or_false] at hp
    rcases hp with rfl | rfl | rfl | rfl | rfl | rfl | rfl | rfl | rfl | rfl | rfl | rfl | rfl | rfl
    · intro hm
      simp only [MU, List.mem_cons, List.not_mem_nil, or_false] at hm
      rcases hm with hm | hm | hm | hm | hm | hm | hm | hm <;> exact absurd hm (neN (by omega))
    · intro hm
      simp only [MU, List.mem_cons, List.not_mem_nil, or_false] at hm
      rcases hm with hm | hm | hm | hm | hm | hm | hm | hm <;> exact absurd hm (neN (by omega))
    · intro hm
      simp only [MU, List.mem_cons, List.not_mem_nil, or_false] at hm
      rcases hm with hm | hm | hm | hm | hm | hm | hm | hm <;> exact absurd hm (neN (by omega))
    · intro hm
      simp only [MU, List.mem_cons, List.not_mem_nil, or_false] at hm
      rcases hm with hm | hm | hm | hm | hm | hm | hm | hm <;> exact absurd hm (neN (by omega))
    · intro hm
      simp only [MU, List.mem_cons, List.not_mem_nil, or_false] at hm
      rcases hm with hm | hm | hm | hm | hm | hm | hm | hm <;> exact absurd hm (neN (by omega))
    · intro hm
      simp only [MU, List.mem_cons, List.not_mem_nil, or_false] at hm
      rcases hm with hm | hm | hm | hm | hm | hm | hm | hm <;> exact absurd hm (neN (by omega))
    · intro hm
      simp only [MU, List.mem_cons, List.not_mem_nil, or_false] at hm
      rcases hm with hm | hm | hm | hm | hm | hm | hm | hm <;> exact absurd hm (neN (by omega))
    · intro hm
      simp only [MU, List.mem_cons, List.not_mem_nil, or_false] at hm
      rcases hm with hm | hm | hm | hm | hm | hm | hm | hm <;> exact absurd hm (neN (by omega))
    · intro hm
      simp only [MU, List.mem_cons, List.not_mem_nil, or_false] at hm
      rcases hm with hm | hm | hm | hm | hm | hm | hm | hm <;> exact absurd hm (neN (by omega))
    · intro hm
      simp only [MU, List.mem_cons, List.not_mem_nil, or_false] at hm
      rcases hm with hm | hm | hm | hm | hm | hm | hm | hm <;> exact absurd hm (neN (by omega))
    · intro hm
      simp only [MU, List.mem_cons, List.not_mem_nil, or_false] at hm
      rcases hm with hm | hm | hm | hm | hm | hm | hm | hm <;> exact absurd hm (neN (by omega))
    · intro hm
      simp only [MU, List.mem_cons, List.not_mem_nil, or_false] at hm
      rcases hm with hm | hm | hm | hm | hm | hm | hm | hm <;> exact absurd hm (neN (by omega))
    · intro hm
      simp only [MU, List.mem_cons, List.not_mem_nil, or_false] at hm
      rcases hm with hm | hm | hm | hm | hm | hm | hm | hm <;> exact absurd hm (neN (by omega))
    · intro hm
      simp only [MU, List.mem_cons, List.not_mem_nil, or_false] at hm
      rcases hm with hm | hm | hm | hm | hm | hm | hm | hm <;> exact absurd hm (neN (by omega))
  have hoffT : ∀ p ∈ nT, p.1 ∉ MU ⟨T1, U1, R, r1, r2, r3, H, h1, h3, KP, kp1, kp3, M, x1, x2, x3, dx1, dx2, dx3, d1, d2, d3⟩ := by
    intro p hp hm
    have e1 : @LT.lt Nat _ p.1 T1 := lT p (List.mem_append_left _ hp)
    simp only [MU, List.mem_cons, List.not_mem_nil, or_false] at hm
    rcases hm with hm | hm | hm | hm | hm | hm | hm | hm
    · exact absurd hm (neN (by omega))
    · exact absurd hm (neN (by omega))
    · exact fT p hp (r1, _) (.tail _ (.tail _ (.tail _ (.tail _ (.tail _ (.tail _ (.tail _ (.tail _ (.tail _ (.tail _ (.tail _ (.tail _ (.tail _ (.tail _ (.tail _ (.tail _ (.tail _ (.tail _ (.tail _ (.head _)))))))))))))))))))) hm.symm
    · exact fT p hp (r2, _) (.tail _ (.tail _ (.tail _ (.tail _ (.tail _ (.tail _ (.tail _ (.tail _ (.tail _ (.tail _ (.tail _ (.tail _ (.tail _ (.tail _ (.tail _ (.tail _ (.tail _ (.tail _ (.head _))))))))))))))))))) hm.symm
    · exact fT p hp (r3, _) (.tail _ (.tail _ (.tail _ (.tail _ (.tail _ (.tail _ (.tail _ (.tail _ (.tail _ (.tail _ (.tail _ (.tail _ (.tail _ (.tail _ (.tail _ (.tail _ (.tail _ (.head _)))))))))))))))))) hm.symm
    · exact fT p hp (d1, _) (.tail _ (.tail _ (.tail _ (.tail _ (.head _))))) hm.symm
    · exact fT p hp (d2, _) (.tail _ (.tail _ (.tail _ (.tail _ (.tail _ (.tail _ (.tail _ (.head _)))))))) hm.symm
    · exact fT p hp (d3, _) (.tail _ (.head _)) hm.symm
  have hoffU : ∀ p ∈ nU, p.1 ∉ MU ⟨T1, U1, R, r1, r2, r3, H, h1, h3, KP, kp1, kp3, M, x1, x2, x3, dx1, dx2, dx3, d1, d2, d3⟩ := by
    intro p hp hm
    have e1 : @LT.lt Nat _ p.1 U1 := lU p (List.mem_append_left _ hp)
    simp only [MU, List.mem_cons, List.not_mem_nil, or_false] at hm
    rcases hm with hm | hm | hm | hm | hm | hm | hm | hm
    · exact fU p hp (T1, _) (.head _) hm.symm
    · exact absurd hm (neN (by omega))
    · exact fU p hp (r1, _) (.tail _ (List.mem_append_right _ (.tail _ (.tail _ (.tail _ (.tail _ (.tail _ (.tail _ (.tail _ (.tail _ (.tail _ (.tail _ (.tail _ (.tail _ (.tail _ (.tail _ (.tail _ (.tail _ (.tail _ (.tail _ (.tail _ (.head _)))))))))))))))))))))) hm.symm
    · exact fU p hp (r2, _) (.tail _ (List.mem_append_right _ (.tail _ (.tail _ (.tail _ (.tail _ (.tail _ (.tail _ (.tail _ (.tail _ (.tail _ (.tail _ (.tail _ (.tail _ (.tail _ (.tail _ (.tail _ (.tail _ (.tail _ (.tail _ (.head _))))))))))))))))))))) hm.symm
    · exact fU p hp (r3, _) (.tail _ (List.mem_append_right _ (.tail _ (.tail _ (.tail _ (.tail _ (.tail _ (.tail _ (.tail _ (.tail _ (.tail _ (.tail _ (.tail _ (.tail _ (.tail _ (.tail _ (.tail _ (.tail _ (.tail _ (.head _)))))))))))))))))))) hm.symm
    · exact fU p hp (d1, _) (.tail _ (List.mem_append_right _ (.tail _ (.tail _ (.tail _ (.tail _ (.head _))))))) hm.symm
    · exact fU p hp (d2, _) (.tail _ (List.mem_append_right _ (.tail _ (.tail _ (.tail _ (.tail _ (.tail _ (.tail _ (.tail _ (.head _)))))))))) hm.symm
    · exact fU p hp (d3, _) (.tail _ (List.mem_append_right _ (.tail _ (.head _)))) hm.symm
  have S : Sta w.params ⟨T1, U1, R, r1, r2, r3, H, h1, h3, KP, kp1, kp3, M, x1, x2, x3, dx1, dx2, dx3, d1, d2, d3⟩ ra rc (nU ++ (nT ++ [(M, listOf #[.ref x1, .ref x2, .ref x3] c), (x3, instObj 253 dx3), (dx3, msgDict w.params p1 p2 p3 p4 p5 "GP" "WPL" d3), (x1, instObj 253 dx1), (dx1, msgDict w.params q1 q2 q3 q4 q5 "GP" "WPL" d1), (x2, instObj 274 dx2), (dx2, msgDict w.params t1 t2 t3 t4 t5 "II" "DTM" d2), (KP, listOf #[.ref kp1, .ref kp3] m1), (kp3, listOf (strValues ls3).toArray m2), (kp1, listOf (strValues ls1).toArray m3), (H, listOf #[.ref h1, .ref h3] m4), (h3, listOf (strValues ls3).toArray m5), (h1, listOf (strValues ls1).toArray m6), (R, listOf #[.ref r1, .ref r2, .ref r3] n)])) :=
    { off := fun p hp => by
        rcases List.mem_append.mp hp with hp | hp
        · exact hoffU p hp
        rcases List.mem_append.mp hp with hp | hp
        · exact hoffT p hp
        · exact hoffE p hp
      dif := hdif
      hR := ⟨_, List.mem_append_right _ (List.mem_append_right _ (.tail _ (.tail _ (.tail _ (.tail _ (.tail _ (.tail _ (.tail _ (.tail _ (.tail _ (.tail _ (.tail _ (.tail _ (.tail _ (.head _)))))))))))))))⟩
      hH := ⟨_, List.mem_append_right _ (List.mem_append_right _ (.tail _ (.tail _ (.tail _ (.tail _ (.tail _ (.tail _ (.tail _ (.tail _ (.tail _ (.tail _ (.head _))))))))))))⟩
      hh1 := ⟨_, _, List.mem_append_right _ (List.mem_append_right _ (.tail _ (.tail _ (.tail _ (.tail _ (.tail _ (.tail _ (.tail _ (.tail _ (.tail _ (.tail _ (.tail _ (.tail _ (.head _)))))))))))))), ea⟩
      hh3 := ⟨_, _, List.mem_append_right _ (List.mem_append_right _ (.tail _ (.tail _ (.tail _ (.tail _ (.tail _ (.tail _ (.tail _ (.tail _ (.tail _ (.tail _ (.tail _ (.head _))))))))))))), ec⟩
      hKP := ⟨_, List.mem_append_right _ (List.mem_append_right _ (.tail _ (.tail _ (.tail _ (.tail _ (.tail _ (.tail _ (.tail _ (.head _)))))))))⟩
      hp1 := ⟨_, _, List.mem_append_right _ (List.mem_append_right _ (.tail _ (.tail _ (.tail _ (.tail _ (.tail _ (.tail _ (.tail _ (.tail _ (.tail _ (.head _))))))))))), ea⟩
      hp3 := ⟨_, _, List.mem_append_right _ (List.mem_append_right _ (.tail _ (.tail _ (.tail _ (.tail _ (.tail _ (.tail _ (.tail _ (.tail _ (.head _)))))))))), ec⟩
      hM := ⟨_, List.mem_append_right _ (List.mem_append_right _ (.head _))⟩
      hx1 := List.mem_append_right _ (List.mem_append_right _ (.tail _ (.tail _ (.tail _ (.head _)))))
      hx2 := List.mem_append_right _ (List.mem_append_right _ (.tail _ (.tail _ (.tail _ (.tail _ (.tail _ (.head _)))))))
      hx3 := List.mem_append_right _ (List.mem_append_right _ (.tail _ (.head _)))
      hd1 := ⟨_, _, _, _, _, List.mem_append_right _ (List.mem_append_right _ (.tail _ (.tail _ (.tail _ (.tail _ (.head _))))))⟩
      hd2 := ⟨_, _, _, _, _, List.mem_append_right _ (List.mem_append_right _ (.tail _ (.tail _ (.tail _ (.tail _ (.tail _ (.tail _ (.head _))))))))⟩
      hd3 := ⟨_, _, _, _, _, List.mem_append_right _ (List.mem_append_right _ (.tail _ (.tail _ (.head _))))⟩ }
  refine ⟨?_, { S := S, dT := datAll_mono (fun p hp => List.mem_append_right _ (List.mem_append_left _ hp)) dT, dU := datAll_mono (fun p hp => List.mem_append_left _ hp) dU, len := hl, ok := hk, ok1 := ea ▸ ha, ok2 := eb ▸ hb, ok3 := ec ▸ hc, e1 := rfl, e2 := ed.trans eb.symm, e3 := rfl, za := ha, zc := hc }⟩
  intro p hp
  refine N p ?_
  rcases List.mem_append.mp hp with hp | hp
  · rcases List.mem_append.mp hp with hp | hp
    · exact .tail _ (List.mem_append_left _ hp)
    rcases List.mem_append.mp hp with hp | hp
    · exact .tail _ (List.mem_append_right _ (.tail _ (List.mem_append_left _ hp)))
    · simp only [List.mem_cons, List.not_mem_nil, or_false] at hp
      rcases hp with rfl | rfl | rfl | rfl | rfl | rfl | rfl | rfl | rfl | rfl | rfl | rfl | rfl | rfl
      · exact .tail _ (List.mem_append_right _ (.tail _ (List.mem_append_right _ (.head _))))
      · exact .tail _ (List.mem_append_right _ (.tail _ (List.mem_append_right _ (.tail _ (.tail _ (.head _))))))
      · exact .tail _ (List.mem_append_right _ (.tail _ (List.mem_append_right _ (.tail _ (.tail _ (.tail _ (.head _)))))))
      · exact .tail _ (List.mem_append_right _ (.tail _ (List.mem_append_right _ (.tail _ (.tail _ (.tail _ (.tail _ (.tail _ (.head _)))))))))
      · exact .tail _ (List.mem_append_right _ (.tail _ (List.mem_append_right _ (.tail _ (.tail _ (.tail _ (.tail _ (.tail _ (.tail _ (.head _))))))))))
      · exact .tail _ (List.mem_append_right _ (.tail _ (List.mem_append_right _ (.tail _ (.tail _ (.tail _ (.tail _ (.tail _ (.tail _ (.tail _ (.tail _ (.head _))))))))))))
      · exact .tail _ (List.mem_append_right _ (.tail _ (List.mem_append_right _ (.tail _ (.tail _ (.tail _ (.tail _ (.tail _ (.tail _ (.tail _ (.tail _ (.tail _ (.head _)))))))))))))
      · exact .tail _ (List.mem_append_right _ (.tail _ (List.mem_append_right _ (.tail _ (.tail _ (.tail _ (.tail _ (.tail _ (.tail _ (.tail _ (.tail _ (.tail _ (.tail _ (.head _))))))))))))))
      · exact .tail _ (List.mem_append_right _ (.tail _ (List.mem_append_right _ (.tail _ (.tail _ (.tail _ (.tail _ (.tail _ (.tail _ (.tail _ (.tail _ (.tail _ (.tail _ (.tail _ (.head _)))))))))))))))
      · exact .tail _ (List.mem_append_right _ (.tail _ (List.mem_append_right _ (.tail _ (.tail _ (.tail _ (.tail _ (.tail _ (.tail _ (.tail _ (.tail _ (.tail _ (.tail _ (.tail _ (.tail _ (.head _))))))))))))))))
      · exact .tail _ (List.mem_append_right _ (.tail _ (List.mem_append_right _ (.tail _ (.tail _ (.tail _ (.tail _ (.tail _ (.tail _ (.tail _ (.tail _ (.tail _ (.tail _ (.tail _ (.tail _ (.tail _ (.head _)))))))))))))))))
      · exact .tail _ (List.mem_append_right _ (.tail _ (List.mem_append_right _ (.tail _ (.tail _ (.tail _ (.tail _ (.tail _ (.tail _ (.tail _ (.tail _ (.tail _ (.tail _ (.tail _ (.tail _ (.tail _ (.tail _ (.head _))))))))))))))))))
      · exact .tail _ (List.mem_append_right _ (.tail _ (List.mem_append_right _ (.tail _ (.tail _ (.tail _ (.tail _ (.tail _ (.tail _ (.tail _ (.tail _ (.tail _ (.tail _ (.tail _ (.tail _ (.tail _ (.tail _ (.tail _ (.head _)))))))))))))))))))
      · exact .tail _ (List.mem_append_right _ (.tail _ (List.mem_append_right _ (.tail _ (.tail _ (.tail _ (.tail _ (.tail _ (.tail _ (.tail _ (.tail _ (.tail _ (.tail _ (.tail _ (.tail _ (.tail _ (.tail _ (.tail _ (.tail _ (.head _))))))))))))))))))))
  · unfold ledM muL at hp
    simp only [List.mem_cons, List.not_mem_nil, or_false] at hp
    rcases hp with rfl | rfl | rfl | rfl | rfl | rfl | rfl | rfl
    · exact .tail _ (List.mem_append_right _ (.head _))
    · exact .head _
    · exact .tail _ (List.mem_append_right _ (.tail _ (List.mem_append_right _ (.tail _ (.tail _ (.tail _ (.tail _ (.tail _ (.tail _ (.tail _ (.tail _ (.tail _ (.tail _ (.tail _ (.tail _ (.tail _ (.tail _ (.tail _ (.tail _ (.tail _ (.tail _ (.tail _ (.head _)))))))))))))))))))))))
    · exact .tail _ (List.mem_append_right _ (.tail _ (List.mem_append_right _ (.tail _ (.tail _ (.tail _ (.tail _ (.tail _ (.tail _ (.tail _ (.tail _ (.tail _ (.tail _ (.tail _ (.tail _ (.tail _ (.tail _ (.tail _ (.tail _ (.tail _ (.tail _ (.head _))))))))))))))))))))))
    · exact .tail _ (List.mem_append_right _ (.tail _ (List.mem_append_right _ (.tail _ (.tail _ (.tail _ (.tail _ (.tail _ (.tail _ (.tail _ (.tail _ (.tail _ (.tail _ (.tail _ (.tail _ (.tail _ (.tail _ (.tail _ (.tail _ (.tail _ (.head _)))))))))))))))))))))
    · exact .tail _ (List.mem_append_right _ (.tail _ (List.mem_append_right _ (.tail _ (.tail _ (.tail _ (.tail _ (.head _))))))))
    · exact .tail _ (List.mem_append_right _ (.tail _ (List.mem_append_right _ (.tail _ (.tail _ (.tail _ (.tail _ (.tail _ (.tail _ (.tail _ (.head _)))))))))))
    · exact .tail _ (List.mem_append_right _ (.tail _ (List.mem_append_right _ (.tail _ (.head _)))))

end Mine
end
section
open PySem PySem.W PyProof.Rows PySem.Calls Builtin Builtin.ObjectAttr
namespace Mine
set_option maxRecDepth 100000
set_option maxHeartbeats 8000000
local macro_rules | `(tactic| walk_at "getAttr ref") => `(tactic| (k_here; k_dflt (refine' hk_bound ?k1 ?k2 ?k3 ?k4 ?k5 ?kh ?k6 ?k7 ?k8 ?k9 ?k10 ?k11 ?k12 ?_; (case k4 => k_inst); (case k1 => k_asm); (case k2 => k_asm); (case k3 => k_asm); (case k5 => k_is); (case kh => k_is); (case k6 => k_is); (case k7 => k_is); (case k8 => k_is); (case k9 => k_is); (case k10 => k_is); (case k11 => decide +kernel); (case k12 => k_get); k_whole); intro q' h' F' N' l1; (try k_lt l1); (try k_sweep)))
local macro_rules | `(tactic| walk_at "getAttr ref") => `(tactic| (k_here; k_dflt (refine' hk_own ?k1 ?k2 ?k3 ?k4 ?k5 ?k6 ?k7 ?k8 ?k9 ?_; (case k1 => k_asm); (case k2 => k_asm); (case k3 => k_inst); (case k4 => k_is); (case k5 => k_is); (case k6 => k_is); (case k7 => k_is); (case k8 => k_get); (case k9 => k_handed); k_whole)))
local macro_rules | `(tactic| walk_at "getMethod ref") => `(tactic| (k_here; k_dflt (refine' hk_method ?k1 ?k2 ?k3 ?k4 ?k5 ?_; (case k1 => k_asm); (case k2 => k_asm); (case k3 => k_inst); (case k4 => k_is); (case k5 => k_is); k_whole)))
local macro_rules | `(tactic| ktr_enter) => `(tactic| (refine' code_def ?k1 ?k2 ?k3 ?k4 ?k5 ?kA ?kF ?kK ?k6 ?k7 ?k8 ?k9 ?kB ?_ ?c2 ?c3 ?c4 ?c5; (case kA => exact rfl); (case kF => exact rfl); (case kK => first | assumption | exact rfl); (case k1 => k_asm); (case k2 => k_asm); (case k3 => k_asm); (case k4 => k_asm); (case k5 => k_asm); (case k6 => k_is); (case k7 => k_is); (case k8 => ktr_room); (case k9 => first | exact BindsTo.of_eq rfl | exact binds_K (by k_in) rfl (by k_is) rfl rfl rfl); (case c5 => decide); (case kB => exact locs rfl); (case c2 => exact rfl); (case c3 => exact rfl); (case c4 => exact rfl); k_whole; intro g' L' h' FG' F' N' B' X' T'; (try dsimp only); (try k_lift B'); (try k_fold)))
local macro_rules | `(tactic| ktr_call $c:term 0) => `(tactic| (refine wpAny_call ?_; k_dflt (refine' ct_use $c ?k1 ?k2 ?k3 ?k4 ?k5 ?kK ?kd ?ku ?kp ?_; (case k1 => k_asm); (case k2 => k_asm); (case k3 => k_asm); (case k4 => k_asm); (case k5 => k_asm); (case kK => first | assumption | exact rfl); (case kd => ktr_room); (case ku => ktr_units))))
local macro_rules | `(tactic| ktr_call $c:term 1) => `(tactic| (refine' call_meth ?N ?q ?_; (case N => k_asm); (case q => k_mem); k_dflt (refine' ct_use $c ?k1 ?k2 ?k3 ?k4 ?k5 ?kK ?kd ?ku ?kp ?_; (case k1 => k_asm); (case k2 => k_asm); (case k3 => k_asm); (case k4 => k_asm); (case k5 => k_asm); (case kK => first | assumption | exact rfl); (case kd => ktr_room); (case ku => ktr_units))))
local macro_rules | `(tactic| k_mem) => `(tactic| first | assumption | exact List.mem_cons_self .. | (refine' List.mem_cons_of_mem _ ?_; k_mem))
local macro_rules | `(tactic| kst_same) => `(tactic| (intro z h1 h2 h3; (simp only [List.forall_mem_cons, List.not_mem_nil, false_implies, implies_true, and_true, ne_eq] at h2); (simp only [List.contains_cons, List.contains_nil, Bool.or_false, Bool.or_eq_false_iff, beq_eq_false_iff_ne, ne_eq] at h3); (simp [kstB, h1, h2, h3]; done)))
local macro_rules | `(tactic| kby_size) => `(tactic| (rw [PySem.sizeLine_eq]; omega))
local macro_rules | `(tactic| walk_at "call builtin:str.lstrip") => `(tactic| (k_here; (refine KXw.lstrip (by assumption) (by kby_size) ?_); intro _ _))
local macro_rules | `(tactic| walk_at "call builtin:str.strip") => `(tactic| (k_here; (refine KXw.strip (by assumption) (by kby_size) ?_); intro _ _))
local macro_rules | `(tactic| walk_at "call builtin:str.strip") => `(tactic| (k_here; (refine KXw.stripChars (by assumption) (by kby_size) ?_); intro _ _))
local macro_rules | `(tactic| walk_at "call builtin:str.upper") => `(tactic| (k_here; (refine KXw.upper (by assumption) (by decide +kernel) ?_); intro _ _))
local macro_rules | `(tactic| walk_at "call builtin:str.partition") => `(tactic| (k_here; (refine KXpa.partition (by k_asm) (by k_asm) (by decide) (by assumption) (by assumption) (by assumption) (by kby_size) ?_); intro D' _ _ _ _ _ F' N' l1; (try k_lt l1)))
local macro_rules | `(tactic| walk_at "call builtin:str.split") => `(tactic| (k_here; (refine KSpl.split1 (by k_asm) (by k_asm) (by decide) ?_ (by kby_size)); intro D' _ _ _ _ _ F' N' l1; (try k_lt l1)))
--FROM MN7
theorem fr_six {h₀ h : Heap} {L : Addr} {m : Str → Option Value} {a : Ads} (F : Fr h₀ L h m) (six : Six a m) : Fr h₀ L h (lawM a m) := by
  have e := six.self
  rw [← e]
  exact F
section
variable {w : World} {base : Heap} {mean : ExcName → Option Value} {mg mb : Str → Option Value} {L fa : Addr} {cd : Value} {s : Shared} {Q : Flow → Shared → Prop} {E : Value → Shared → Prop} {Sc : Addr} {vs : List Value} {ns : List Int}
theorem law_main (K0 : Below callerA base [] base) (X : Frag.In (Mine.hd.heap_39 w.params) base) (T : Top VW LO mean mg mb base) (hE : PassesOwn (model PG w) (lawAr L fa cd) (lawEnv L fa cd) E) (hL : base.IsList Sc vs.toArray) (hI : IntsAre vs ns) (hlen : ns.length ≤ 63)
    (F : Fr base L s.heap (fun x => if x = "script" then some (.ref Sc) else none)) (N : News base L s.heap [])
    (ret : ∀ h' tk' m', Fr base L h' m' → Q (.ret (.bool true)) { s with heap := h', toks := tk' }) :
    wpAny (model PG w) (lawAr L fa cd) (execs lawBody (lawEnv L fa cd)) Q E s := by
  refine execs_take 2 lawBody s ?_
  refine l_ints2 K0 X T hL hI hlen F N ?_
  intro z o t u h1 tk1 F1 N1
  refine execs_at 2 1 lawBody _ ?_
  refine l_rows K0 X T z o t u F1 N1 ?_
  intro R r1 r2 r3 ls1 ls2 ls3 n n1 n2 n3 h2 tk2 F2 N2 o1 o2 o3 ea eb ec
  have ha := rowA_ok z
  have hb := rowB_ok o
  have hc := rowC_ok z
  refine execs_at 3 2 lawBody _ ?_
  refine l_copies K0 X T z o t u F2 N2 o1 o2 o3 (len9 ea ha) (len9 eb hb) (len9 ec hc) ?_
  intro H h1' h3' KP kp1 kp3 m1 m2 m3 m4 m5 m6 h3 tk3 F3 N3 o4 o5 o6 o7 o8 o9
  refine execs_at 5 1 lawBody _ ?_
  have F3' := fr_pick (x0 := "rows") F3 rfl
  have hR3 := N3
  refine l_read K0 X T F3' N3 (by k_mem) (by k_mem) (rowB o) hb eb (rowB_cut o) ?_
  intro x2 d2 dx2 t1 t2 t3 t4 t5 c2 lsd h4 tk4 F4 N4 l2 ed
  refine execs_at 6 1 lawBody _ ?_
  have F4' := fr_pick (x0 := "read") (fr_pick (x0 := "handed") F4 rfl) rfl
  refine l_msgs K0 X T F4' N4 (List.mem_append_right _ (by k_mem)) (List.mem_append_right _ (by k_mem)) (List.mem_append_right _ (by k_mem)) (len9 ea ha) (len9 ec hc) ea ec ?_
  intro M x1 d1 dx1 x3 d3 dx3 q1 q2 q3 q4 q5 c1 p1 p2 p3 p4 p5 c3 c h5 tk5 F5 N5 lM l3 l1
  refine execs_at 7 1 lawBody _ ?_
  refine l_told K0 X T (rowA z) (rowB o) (rowC z) ha hb hc F5 N5 (.head _) ?m1 ?m2 ?m3 ?_
  case m1 => exact ⟨d1, dx1, _, _, _, _, _, ls1, c1, by k_mem, by k_mem, by k_mem, ea⟩
  case m2 => exact ⟨d2, dx2, _, _, _, _, _, lsd, c2, by k_mem, by k_mem, by k_mem, ed⟩
  case m3 => exact ⟨d3, dx3, _, _, _, _, _, ls3, c3, by k_mem, by k_mem, by k_mem, ec⟩
  intro T1 cT nT vT h6 tk6 F6 N6 fT lT dT
  refine execs_at 8 1 lawBody _ ?_
  have F6' := fr_pick (x0 := "rows") F6 rfl
  refine l_due (ls4 := []) (r1 := r1) (r2 := r2) (r3 := r3) (n := n) (n1 := n1) (n2 := n2) (n3 := n3) K0 X T (rowA z) (rowB o) (rowC z) ha hb hc F6' N6 ?r0 ?r1 ?r2 ?r3 ea eb ec ?_
  case r0 => exact .tail _ (List.mem_append_right _ (by k_mem))
  case r1 => exact .tail _ (List.mem_append_right _ (by k_mem))
  case r2 => exact .tail _ (List.mem_append_right _ (by k_mem))
  case r3 => exact .tail _ (List.mem_append_right _ (by k_mem))
  intro U1 cU nU vU h7 tk7 F7 N7 fU lU dU
  obtain ⟨N8, R8⟩ := start_ok (H := H) (h1 := h1') (h3 := h3') (kp1 := kp1) (kp3 := kp3) N7 o1 o2 o3 o4 o5 o6 o7 o8 o9 l2 l1 l3 lM fT lT fU lU ea eb ec ed ha hb hc dT dU (Nat.le_refl 3) (fun d hd => by
    simp only [List.mem_cons, List.not_mem_nil, or_false] at hd
    rcases hd with rfl | rfl | rfl
    · exact namesDat_ok ha hb hc 6
    · exact bareDat_ok ha hb hc 7
    · exact lineDat_ok ha hb hc 7)
  have F8 := fr_pick (x0 := "script") F7 rfl
  have F9 := fr_six (a := ⟨T1, U1, R, r1, r2, r3, H, h1', h3', KP, kp1, kp3, M, x1, x2, x3, dx1, dx2, dx3, d1, d2, d3⟩) F8 ⟨rfl, rfl, rfl, rfl, rfl, rfl⟩
  exact l_second K0 X T hE hL hI hlen R8 F9 N8 fun h' tk' m' F' => ret h' tk' m' F'
end

end Mine
end
section
open PySem PySem.W PyProof.Rows PySem.Calls Builtin Builtin.ObjectAttr
namespace Mine
set_option maxRecDepth 100000
set_option maxHeartbeats 8000000
local macro_rules | `(tactic| walk_at "getAttr ref") => `(tactic| (k_here; k_dflt (refine' hk_bound ?k1 ?k2 ?k3 ?k4 ?k5 ?kh ?k6 ?k7 ?k8 ?k9 ?k10 ?k11 ?k12 ?_; (case k4 => k_inst); (case k1 => k_asm); (case k2 => k_asm); (case k3 => k_asm); (case k5 => k_is); (case kh => k_is); (case k6 => k_is); (case k7 => k_is); (case k8 => k_is); (case k9 => k_is); (case k10 => k_is); (case k11 => decide +kernel); (case k12 => k_get); k_whole); intro q' h' F' N' l1; (try k_lt l1); (try k_sweep)))
local macro_rules | `(tactic| walk_at "getAttr ref") => `(tactic| (k_here; k_dflt (refine' hk_own ?k1 ?k2 ?k3 ?k4 ?k5 ?k6 ?k7 ?k8 ?k9 ?_; (case k1 => k_asm); (case k2 => k_asm); (case k3 => k_inst); (case k4 => k_is); (case k5 => k_is); (case k6 => k_is); (case k7 => k_is); (case k8 => k_get); (case k9 => k_handed); k_whole)))
local macro_rules | `(tactic| walk_at "getMethod ref") => `(tactic| (k_here; k_dflt (refine' hk_method ?k1 ?k2 ?k3 ?k4 ?k5 ?_; (case k1 => k_asm); (case k2 => k_asm); (case k3 => k_inst); (case k4 => k_is); (case k5 => k_is); k_whole)))
local macro_rules | `(tactic| ktr_enter) => `(tactic| (refine' code_def ?k1 ?k2 ?k3 ?k4 ?k5 ?kA ?kF ?kK ?k6 ?k7 ?k8 ?k9 ?kB ?_ ?c2 ?c3 ?c4 ?c5; (case kA => exact rfl); (case kF => exact rfl); (case kK => first | assumption | exact rfl); (case k1 => k_asm); (case k2 => k_asm); (case k3 => k_asm); (case k4 => k_asm); (case k5 => k_asm); (case k6 => k_is); (case k7 => k_is); (case k8 => ktr_room); (case k9 => first | exact BindsTo.of_eq rfl | exact binds_K (by k_in) rfl (by k_is) rfl rfl rfl); (case c5 => decide); (case kB => exact locs rfl); (case c2 => exact rfl); (case c3 => exact rfl); (case c4 => exact rfl); k_whole; intro g' L' h' FG' F' N' B' X' T'; (try dsimp only); (try k_lift B'); (try k_fold)))
local macro_rules | `(tactic| ktr_call $c:term 0) => `(tactic| (refine wpAny_call ?_; k_dflt (refine' ct_use $c ?k1 ?k2 ?k3 ?k4 ?k5 ?kK ?kd ?ku ?kp ?_; (case k1 => k_asm); (case k2 => k_asm); (case k3 => k_asm); (case k4 => k_asm); (case k5 => k_asm); (case kK => first | assumption | exact rfl); (case kd => ktr_room); (case ku => ktr_units))))
local macro_rules | `(tactic| ktr_call $c:term 1) => `(tactic| (refine' call_meth ?N ?q ?_; (case N => k_asm); (case q => k_mem); k_dflt (refine' ct_use $c ?k1 ?k2 ?k3 ?k4 ?k5 ?kK ?kd ?ku ?kp ?_; (case k1 => k_asm); (case k2 => k_asm); (case k3 => k_asm); (case k4 => k_asm); (case k5 => k_asm); (case kK => first | assumption | exact rfl); (case kd => ktr_room); (case ku => ktr_units))))
local macro_rules | `(tactic| k_mem) => `(tactic| first | assumption | exact List.mem_cons_self .. | (refine' List.mem_cons_of_mem _ ?_; k_mem))
local macro_rules | `(tactic| kst_same) => `(tactic| (intro z h1 h2 h3; (simp only [List.forall_mem_cons, List.not_mem_nil, false_implies, implies_true, and_true, ne_eq] at h2); (simp only [List.contains_cons, List.contains_nil, Bool.or_false, Bool.or_eq_false_iff, beq_eq_false_iff_ne, ne_eq] at h3); (simp [kstB, h1, h2, h3]; done)))
local macro_rules | `(tactic| kby_size) => `(tactic| (rw [PySem.sizeLine_eq]; omega))
local macro_rules | `(tactic| walk_at "call builtin:str.lstrip") => `(tactic| (k_here; (refine KXw.lstrip (by assumption) (by kby_size) ?_); intro _ _))
local macro_rules | `(tactic| walk_at "call builtin:str.strip") => `(tactic| (k_here; (refine KXw.strip (by assumption) (by kby_size) ?_); intro _ _))
local macro_rules | `(tactic| walk_at "call builtin:str.strip") => `(tactic| (k_here; (refine KXw.stripChars (by assumption) (by kby_size) ?_); intro _ _))
local macro_rules | `(tactic| walk_at "call builtin:str.upper") => `(tactic| (k_here; (refine KXw.upper (by assumption) (by decide +kernel) ?_); intro _ _))
local macro_rules | `(tactic| walk_at "call builtin:str.partition") => `(tactic| (k_here; (refine KXpa.partition (by k_asm) (by k_asm) (by decide) (by assumption) (by assumption) (by assumption) (by kby_size) ?_); intro D' _ _ _ _ _ F' N' l1; (try k_lt l1)))
local macro_rules | `(tactic| walk_at "call builtin:str.split") => `(tactic| (k_here; (refine KSpl.split1 (by k_asm) (by k_asm) (by decide) ?_ (by kby_size)); intro D' _ _ _ _ _ F' N' l1; (try k_lt l1)))
--FROM MN8
theorem fr_script {h₀ h : Heap} {L : Addr} {n : Str} {v : Value} (F : Fr h₀ L h (fun x => List.lookup x [(n, v)].reverse)) : Fr h₀ L h (fun x => if x = n then some v else none) := by
  have e : (fun x => if x = n then some v else none) = fun x => List.lookup x [(n, v)].reverse := by
    funext x
    show _ = List.lookup x [(n, v)]
    by_cases h : x = n
    · subst h
      simp [List.lookup]
    · have hb : (x == n) = false := beq_eq_false_iff_ne.mpr h
      simp [List.lookup, h, hb]
  rw [e]
  exact F
theorem law_holds : PySem.Challenge.rw_ez0283_01.Holds := Mine.hd (by
  k_go0
  (all_goals try k_fold)
  rename Fr _ _ _ _ => F9
  have F8 := fr_script F9
  refine law_main (by assumption) (by assumption) (by assumption) ?hE (by assumption) (by assumption) (by omega) F8 (by assumption) ?ret
  case hE => passes_own
  case ret =>
    intro h' tk' m' F'
    first
    | wrow_close
    | (dsimp only; wrow_close)
    | (refine goodW_bool F' (by assumption) ?_ ?_ <;> first | rfl | (intro _; rfl) | decide))

end Mine
end
theorem PySem.Challenge.cw_ez0283_01_holds : PySem.Challenge.rw_ez0283_01.Holds :=
  Mine.law_holds
