import PyProof.Rows.All
import Wide.All
import OpenK.AllK
import Wide.FinOn
import PySem.Challenge.RW_dn0181_02
set_option Elab.async false
set_option linter.all false
section PartMapRules
open PySem PySem.W PyProof.Rows
set_option maxRecDepth 100000
namespace Mine

theorem owner_map : Manifest.owners.lookup (String.ofList ['p', 'a', 'm'].reverse) = some Manifest.sig_map := by kernel_rfl
theorem slot_map_next : Slot "map" "__next__" "map.__next__" :=
  .of (owner := "map") (n := "__next__") (by rw [typeLookup_type, builtinLookup_eq_fast]; kernel_rfl) (by decide +kernel) (by decide +kernel) (by decide +kernel)
    (by first | exact .inl (by decide +kernel) | exact .inr (by decide +kernel)) (by rw [isSubtype_type]; kernel_rfl)
theorem slot_map_iter : Slot "map" "__iter__" "map.__iter__" :=
  .of (owner := "map") (n := "__iter__") (by rw [typeLookup_type, builtinLookup_eq_fast]; kernel_rfl) (by decide +kernel) (by decide +kernel) (by decide +kernel)
    (by first | exact .inl (by decide +kernel) | exact .inr (by decide +kernel)) (by rw [isSubtype_type]; kernel_rfl)
theorem slot_map_init : Slot "map" "__init__" "object.__init__" :=
  .of (owner := "object") (n := "__init__") (by rw [typeLookup_type, builtinLookup_eq_fast]; kernel_rfl) (by decide +kernel) (by decide +kernel) (by decide +kernel)
    (by first | exact .inl (by decide +kernel) | exact .inr (by decide +kernel)) (by rw [isSubtype_type]; kernel_rfl)
theorem entry_map_next : entryFor table "map.__next__" = some Builtin.«map.__next__» := entryFor_of_tree (by kernel_rfl)
theorem entry_map_new : entryFor table "map.__new__" = some Builtin.«map.__new__» := entryFor_of_tree (by kernel_rfl)
theorem entry_map_iter : entryFor table "map.__iter__" = some Builtin.«dict_keyiterator.__iter__» :=
  entryFor_alias (id' := "dict_keyiterator.__iter__") (by kernel_rfl) (by first | rfl | decide +kernel | (unfold String.splitOn; simp +decide [String.splitOnAux])) (by decide +kernel) (by kernel_rfl)
theorem args_map_next (a : Value) : argsOk "map.__next__" ⟨[a], []⟩ := by
  unfold argsOk; rw [signature?_of (id := "map.__next__") (n := ['_', '_', 't', 'x', 'e', 'n', '_', '_']) (o := ['p', 'a', 'm']) (by kernel_rfl) owner_map]; kernel_rfl
theorem args_map_iter (a : Value) : argsOk "map.__iter__" ⟨[a], []⟩ := by
  unfold argsOk; rw [signature?_of (id := "map.__iter__") (n := ['_', '_', 'r', 'e', 't', 'i', '_', '_']) (o := ['p', 'a', 'm']) (by kernel_rfl) owner_map]; kernel_rfl
theorem mro_map : mroOf (.type "map") = pure [.type "map", .type "object"] := by rw [mroOf_type]; kernel_rfl
theorem lookup_map_new : typeLookup (.type "map") "__new__" = pure (some (.builtin "map.__new__")) := by rw [typeLookup_type, builtinLookup_eq_fast]; kernel_rfl
theorem called_map : TypeCalled "map" "map.__new__" "object.__init__" :=
  ⟨by decide +kernel, by decide +kernel, ⟨_, _, mro_map⟩, madeBy_type mro_map lookup_map_new (by decide +kernel), by decide +kernel, by rw [isSubtype_type]; kernel_rfl, slot_map_init⟩
theorem typeCall_map (a b : Value) : checkTypeCall "map" ⟨[a, b], []⟩ = pure () := by kernel_rfl
theorem newCall_map (a b : Value) : checkBuiltinCall "map.__new__" ⟨[.type "map", a, b], []⟩ = pure () := by kernel_rfl
theorem sub_map : isSubtype (.type "map") (.type "map") = pure true := by rw [isSubtype_type]; kernel_rfl
theorem map_no_len : typeLookup (.type "map") "__len__" = pure none := by rw [typeLookup_type, builtinLookup_eq_fast]; kernel_rfl
theorem map_no_hint : typeLookup (.type "map") "__length_hint__" = pure none := by rw [typeLookup_type, builtinLookup_eq_fast]; kernel_rfl

abbrev IsMap (h : Heap) (z T : Addr) (f : Value) : Prop :=
  h.get? z = some { cls := .type "map", dict := none, data := .fields #[.ref T, f], slots := #[] }
abbrev IsOne (h : Heap) (T : Addr) (a : Value) : Prop := h.get? T = some { cls := .type "tuple", data := .seq #[a] }

abbrev mapH1 (h : Heap) (l : Addr) : Heap := h.push { cls := .type "list_iterator", data := .fields #[.ref l, .int 0 0] }
abbrev mapH2 (h : Heap) (l : Addr) : Heap := (mapH1 h l).push { cls := .type "tuple", data := .seq #[.ref h.objs.size] }
abbrev mapH3 (h : Heap) (l : Addr) (f : Value) : Heap := (mapH2 h l).push { cls := .type "map", data := .fields #[.ref (mapH1 h l).objs.size, f] }

theorem meets_map_new (f : Value) (l : Addr) (xs : Array Value) :
    Meets (Builtin.«map.__new__» ⟨[.type "map", f, .ref l], []⟩) (fun _ R s => s.heap.IsList l xs ∧
      R (.ok (.ret (.ref (mapH2 s.heap l).objs.size))) { s with heap := mapH3 s.heap l f }) :=
  .of_wp fun prog w A R s h => by
    obtain ⟨hp, g, d, tk, os⟩ := s; obtain ⟨hl1, h⟩ := h
    have hsub := sub_map
    have hL1 : Heap.IsList (Shared.heap ⟨hp, g, d, tk, os⟩) l xs := hl1
    wp_walk using wpAny_pyIter_list hL1
    exact ⟨_, rfl, h⟩
end Mine
end PartMapRules
section PartMapRules2
open PySem PySem.W PyProof.Rows
set_option maxRecDepth 100000
namespace Mine
section
variable {prog : Program} {w : World} {A : Around} {E : Value → Shared → Prop} {s : Shared} {h₀ : Heap} {L : Addr} {m : Str → Option Value} {news : List (Addr × Obj)}

abbrev iterObj (l : Addr) (i : Nat) : Obj := { cls := .type "list_iterator", data := .fields #[.ref l, .int i 0] }
abbrev oneObj (a : Addr) : Obj := { cls := .type "tuple", data := .seq #[.ref a] }
abbrev mapObj (T : Addr) (f : Value) : Obj := { cls := .type "map", data := .fields #[.ref T, f] }

theorem call_mapN {f : Value} {l : Addr} {xs : Array Value} {Q : Value → Shared → Prop} (F : Fr h₀ L s.heap m) (N : News h₀ L s.heap news) (hl : s.heap.IsList l xs)
    (h : ∀ h' it T z, Fr h₀ L h' m → News h₀ L h' ((z, mapObj T f) :: (T, oneObj it) :: (it, iterObj l 0) :: news) → (∀ p ∈ news, p.1 < it) → it < T → T < z → Q (.ref z) { s with heap := h' }) :
    wpAny (model prog w) A (call (.type "map") [f, .ref l]) Q E s := by
  refine callType_new called_map (by decide) (typeCall_map _ _) (newCall_map _ _) (fun obj => PySem.F.args_object_init_3 obj _ _) entry_map_new
    (meets_map_new f l xs) ⟨hl, ?_⟩
  have g : (mapH3 s.heap l f).get? (mapH2 s.heap l).objs.size = some _ := Heap.get?_push_size _ rfl
  have N1 := News.push F N (iterObj l 0)
  have F1 := F.push (iterObj l 0)
  have N2 := News.push F1 N1 (oneObj s.heap.objs.size)
  have F2 := F1.push (oneObj s.heap.objs.size)
  have N3 := News.push F2 N2 (mapObj (mapH1 s.heap l).objs.size f)
  have F3 := F2.push (mapObj (mapH1 s.heap l).objs.size f)
  have z1 : (mapH1 s.heap l).objs.size = s.heap.objs.size + 1 := Heap.size_push ..
  have z2 : (mapH2 s.heap l).objs.size = s.heap.objs.size + 2 := by rw [Heap.size_push, z1]
  show _ ∧ _
  refine ⟨⟨_, g, rfl⟩, h _ _ _ _ F3 N3 (fun p hp => Heap.lt_size (N p hp).1) ?_ ?_⟩
  · show s.heap.objs.size < (mapH1 s.heap l).objs.size
    rw [z1]; exact Nat.lt_succ_self _
  · show (mapH1 s.heap l).objs.size < (mapH2 s.heap l).objs.size
    rw [z1, z2]; exact Nat.lt_succ_self _

theorem map_next_item {z T it l : Addr} {k : Nat} {xs : Array Value} {x : Str} {t : Tok} {Q : Value → Shared → Prop}
    (hz : IsMap s.heap z T (.builtin "str.capitalize")) (hT : IsOne s.heap T (.ref it)) (hi : s.heap.IsListIter it l k) (hl : s.heap.IsList l xs) (hx : xs[k]? = some (.str x t)) (hlen : x.length ≤ 5592405) (hzi : z ≠ it)
    (hQ : ∀ h' tk t', h'.IsListIter it l (k + 1) → Heap.SameBut it s.heap h' → Q (.str (Txt.capitalize x) t') { s with heap := h', toks := tk }) :
    wpAny (model prog w) A (Builtin.«map.__next__» ⟨[.ref z], []⟩) (fun fin s' => ∃ v, fin = .done (.ret v) ∧ Q v s') E s := by
  show wpAny _ _ (field (.ref z) 0 >>= _) _ _ _
  refine wpAny_bind (wpAny_field hz rfl (x := .ref T) rfl ?_)
  refine wpAny_bind (wpAny_seqItems hT rfl ?_)
  refine wpAny_bind ?_
  simp only [List.forIn_toArray, List.forIn_cons, List.forIn_nil]
  refine wpAny_bind (wpAny_bind (wpAny_holding ?_))
  refine wpAny_nextOf_list_item hi hl hx fun h₁ hi₁ hs₁ => wpAny_pure (wpAny_pure ?_)
  have hz₁ : IsMap h₁ z T (.builtin "str.capitalize") := hs₁.extBut _ _ hzi hz
  show wpAny _ _ (field (.ref z) 1 >>= _) _ _ _
  refine wpAny_bind (wpAny_field hz₁ rfl (x := .builtin "str.capitalize") rfl ?_)
  refine wpAny_bind (wpAny_holding ?_)
  show wpAny _ _ (call (.builtin "str.capitalize") [.str x t]) _ _ _
  refine SCL.capitalize hlen fun t' k' _ => ?_
  refine wpAny_bind (wpAny_letGo (wpAny_pure ⟨_, rfl, ?_⟩))
  exact hQ h₁ k' t' hi₁ hs₁

theorem map_next_end {z T it l : Addr} {k : Nat} {xs : Array Value} {f : Value} {Q : Fin → Shared → Prop} (hh : A.handled = none)
    (hz : IsMap s.heap z T f) (hT : IsOne s.heap T (.ref it)) (hi : s.heap.IsListIter it l k) (hl : s.heap.IsList l xs) (hx : xs[k]? = none)
    (hE : ∀ h' e, Heap.ExtBut it s.heap h' → (∃ o, h'.get? e = some o ∧ o.cls = .type "StopIteration") → E (.ref e) { s with heap := h' }) :
    wpAny (model prog w) A (Builtin.«map.__next__» ⟨[.ref z], []⟩) Q E s := by
  show wpAny _ _ (field (.ref z) 0 >>= _) _ _ _
  refine wpAny_bind (wpAny_field hz rfl (x := .ref T) rfl ?_)
  refine wpAny_bind (wpAny_seqItems hT rfl ?_)
  refine wpAny_bind ?_
  simp only [List.forIn_toArray, List.forIn_cons, List.forIn_nil]
  refine wpAny_bind (wpAny_bind (wpAny_holding ?_))
  exact wpAny_nextOf_list_end hh hi hl hx hE

theorem walks_map (hh : A.handled = none) (z T it l : Addr) (hzi : z ≠ it) (hTi : T ≠ it) (hli : l ≠ it) (xs : Array Value) (ss : List Str) (hS : StrsAre xs.toList ss) (hlen : ∀ x ∈ ss, x.length ≤ 5592405) :
    Walks prog w A z [z, T, it, l] [it] ss.length (fun i v => ∃ x t, ss[i]? = some x ∧ v = .str (Txt.capitalize x) t)
      (fun i h => IsMap h z T (.builtin "str.capitalize") ∧ IsOne h T (.ref it) ∧ h.IsListIter it l i ∧ h.IsList l xs) where
  sub := fun b hb => by simp at hb; simp [hb]
  frame := fun i h h' st hk => ⟨hk z (by simp) _ st.1, hk T (by simp) _ st.2.1, st.2.2.1.at fun o e => hk it (by simp) o e, st.2.2.2.at fun o e => hk l (by simp) o e⟩
  item := fun i s Q E hi st hQ => by
    obtain ⟨hz, hT, hit, hl⟩ := st
    obtain ⟨t, ht⟩ := hS.get i ss[i] (by simp [hi])
    have hx : xs[i]? = some (.str ss[i] t) := by simpa using ht
    have hTy : s.TypeIs (.ref z) "map" := ⟨_, hz, rfl⟩
    unfold pyNext
    refine wpAny_bind (wpAny_attempt (wpAny_callSpecial?_slot (name := Str.ofString "__next__") hTy slot_map_next
      (wpAny_call_entry slot_map_next hTy entry_map_next (map_next_item hz hT hit hl hx (hlen _ (List.getElem_mem hi)) hzi fun h' tk t' a b => wpAny_pure ?_) (args_map_next _))))
    exact hQ _ h' tk ⟨ss[i], t', by simp [hi], rfl⟩ ⟨b.extBut _ _ hzi hz, b.extBut _ _ hTi hT, a, hl.extBut b.extBut hli⟩ fun c o hc e => b.extBut _ _ (fun h => hc (by simp [h])) e
  done := fun s Q E st hQ => by
    obtain ⟨hz, hT, hit, hl⟩ := st
    have hTy : s.TypeIs (.ref z) "map" := ⟨_, hz, rfl⟩
    have hx : xs[ss.length]? = none := by
      have := hS.length
      simp only [Array.length_toList] at this
      exact Array.getElem?_eq_none (by omega)
    unfold pyNext
    refine wpAny_bind (wpAny_attempt (wpAny_callSpecial?_slot (name := Str.ofString "__next__") hTy slot_map_next
      (wpAny_call_entry slot_map_next hTy entry_map_next (map_next_end hh hz hT hit hl hx fun h' e hk he => ?_) (args_map_next _))))
    obtain ⟨o, ho, hc⟩ := he
    refine wpAny_bind (wpAny_isInstance (T := "StopIteration") (b := true) ⟨o, ho, hc⟩ isSubtype_stop ?_)
    exact wpAny_pure (hQ h' s.toks fun b o hb e => hk b o (fun h => hb (by simp [h])) e)
  self := fun i s Q E st hQ => by
    have hTy : s.TypeIs (.ref z) "map" := ⟨_, st.1, rfl⟩
    refine wpAny_pyIter_slot hTy slot_map_iter (wpAny_call_entry slot_map_iter hTy entry_map_iter ?_ (args_map_iter _))
    show wpAny _ _ (ret (.ref z)) _ _ s
    exact wpAny_pure ⟨_, rfl, "map", _, hTy, slot_map_next.lookup, hQ⟩
end

/-- what was drawn from the map, read as texts -/
theorem strs_of_items {ss : List Str} {acc : Array Value} (h : ItemsOf (fun i v => ∃ x t, ss[i]? = some x ∧ v = .str (Txt.capitalize x) t) acc ss.length) : ∃ lst : List (Str × Tok), acc.toList = strValues lst ∧ lst.map (·.1) = ss.map Txt.capitalize := by
  have key : ∀ (vs : List Value) (ss : List Str), vs.length = ss.length → (∀ (i : Nat) (v : Value), vs[i]? = some v → ∃ x t, ss[i]? = some x ∧ v = Value.str (Txt.capitalize x) t) →
      ∃ lst : List (Str × Tok), vs = strValues lst ∧ lst.map (·.1) = ss.map Txt.capitalize := by
    intro vs
    induction vs with
    | nil =>
      intro ss e _
      cases ss with
      | nil => exact ⟨[], rfl, rfl⟩
      | cons => cases e
    | cons v vs ih =>
      intro ss e k
      cases ss with
      | nil => cases e
      | cons y ss =>
        obtain ⟨lst, e1, e2⟩ := ih ss (Nat.succ.inj e) (fun i u hu => k (i + 1) u hu)
        obtain ⟨y', t, hy, hv⟩ := k 0 v rfl
        cases hy
        exact ⟨(Txt.capitalize y, t) :: lst, by rw [hv, e1]; rfl, by rw [List.map_cons, List.map_cons, e2]⟩
  exact key acc.toList ss (by simpa using h.1) (fun i v hv => h.2 i v (by simpa using hv))

section
variable {prog : Program} {w : World} {A : Around} {E : Value → Shared → Prop} {s : Shared}
/-- what has neither a length nor a hint asks for room -/
theorem asks_room {T : String} {v : Value} {Q : Bool → Shared → Prop} (t : s.TypeIs v T) (n1 : typeLookup (.type T) "__len__" = pure none) (n2 : typeLookup (.type T) "__length_hint__" = pure none) (h : Q true s) :
    wpAny (model prog w) A (Builtin.List.listLengthHint v) Q E s :=
  wpAny_bind (wpAny_specialOf t n1 (wpAny_bind (wpAny_specialOf t n2 (wpAny_pure h))))
/-- room made in an empty list leaves it empty, and all else as it was -/
theorem room_made {S : Addr} {k : Nat} {Q : Unit → Shared → Prop} (hS : s.heap.get? S = some (listOf #[] k))
    (h : ∀ h' k', h'.get? S = some (listOf #[] k') → (∀ b o, b ≠ S → s.heap.get? b = some o → h'.get? b = some o) → Q () { s with heap := h' }) : wpAny (model prog w) A (Builtin.List.listTouch (.ref S)) Q E s := by
  have g1 := Heap.get?_update_self (Obj.mapSeq (·.push Value.none)) hS rfl
  have g2 := Heap.get?_update_self (Obj.mapSeq (·.pop)) g1 rfl
  refine wpAny_bind (wpAny_updateSeq hS rfl (wpAny_updateSeq g1 rfl (h _ _ g2 fun b o hb e => ?_)))
  rw [Heap.get?_update_other _ _ (Ne.symm hb), Heap.get?_update_other _ _ (Ne.symm hb)]
  exact e
/-- the items of a map of str.capitalize over a list of texts, all drawn into a new list -/
theorem map_collected {z T it l : Addr} {xs : Array Value} {ss : List Str} {Q : List Value → Shared → Prop} (hh : A.handled = none) (hzi : z ≠ it) (hTi : T ≠ it) (hli : l ≠ it) (hS : StrsAre xs.toList ss) (hlen : ∀ x ∈ ss, x.length ≤ 5592405) (hsz : ss.length ≤ sizeLine)
    (hz : IsMap s.heap z T (.builtin "str.capitalize")) (hT : IsOne s.heap T (.ref it)) (hi : s.heap.IsListIter it l 0) (hl : s.heap.IsList l xs)
    (h : ∀ h' tk lst, lst.map (·.1) = ss.map Txt.capitalize → (∀ b o, b ≠ it → s.heap.get? b = some o → h'.get? b = some o) → Q (strValues lst) { s with heap := h', toks := tk }) : wpAny (model prog w) A (collect (.ref z)) Q E s := by
  have W := (walks_map (prog := prog) (w := w) (A := A.in1) hh z T it l hzi hTi hli xs ss hS hlen).toS
  have low : ∀ b ∈ [z, T, it, l], b ≠ s.heap.objs.size := by
    obtain ⟨_, oi, _⟩ := hi
    obtain ⟨_, ol, _⟩ := hl
    simp only [List.mem_cons, List.not_mem_nil, or_false]
    rintro b (rfl | rfl | rfl | rfl)
    · exact Nat.ne_of_lt (Heap.lt_size hz)
    · exact Nat.ne_of_lt (Heap.lt_size hT)
    · exact Nat.ne_of_lt (Heap.lt_size oi)
    · exact Nat.ne_of_lt (Heap.lt_size ol)
  have out : s.heap.objs.size ∉ [z, T, it, l] := fun hm => low _ hm rfl
  refine wpAny_bind (wpAny_runValue (codeAny_builtin PySem.F.entry_proto_collect ?_))
  rw [Around.under_plainId PySem.F.plain_proto_collect]
  refine wpAny_bind (wpAny_newObj_type (wpAny_pure ⟨plainId_quiet PySem.F.plain_list_iadd _, codeAny_builtin PySem.F.entry_list_iadd ?_⟩))
  rw [Around.under_plainId PySem.F.plain_list_iadd]
  have fresh : (s.heap.push (listOf #[] 0)).get? s.heap.objs.size = some (listOf #[] 0) := Heap.get?_push_size _ rfl
  have z1 : (s.heap.push (listOf #[] 0)).get? z = some (mapObj T (.builtin "str.capitalize")) := Heap.get?_push_of_some _ hz
  have notSeq : (Builtin.List.listSameRef (.ref s.heap.objs.size) (.ref z) || Value.type "map" == Value.type "list" || Value.type "map" == Value.type "tuple") = false := by
    have e : Builtin.List.listSameRef (.ref s.heap.objs.size) (.ref z) = false := beq_eq_false_iff_ne.mpr fun e => low z (List.mem_cons_self ..) e.symm
    rw [e]; decide
  show wpAny _ A.in1 (Builtin.List.listExtendWith (.ref s.heap.objs.size) (.ref z) (.ref s.heap.objs.size)) _ _ { s with heap := s.heap.push (listOf #[] 0) }
  unfold Builtin.List.listExtendWith
  refine wpAny_bind (wpAny_typeOf (T := "map") ⟨_, z1, rfl⟩ ?_)
  rw [if_neg (by rw [notSeq]; decide)]
  refine wpAny_bind (W.self 0 _ _ _ ⟨z1, Heap.get?_push_of_some _ hT, hi.at fun o e => Heap.get?_push_of_some _ e, hl.at fun o e => Heap.get?_push_of_some _ e⟩ (wpAny_bind (wpAny_holding (asks_room (T := "map") ⟨_, z1, rfl⟩ map_no_len map_no_hint ?_))))
  refine wpAny_bind (wpAny_rule (wpAny_bind (room_made fresh fun h' k' hS' keep => ?_)))
  have keep0 : ∀ b o, b ≠ s.heap.objs.size → s.heap.get? b = some o → h'.get? b = some o := fun b o hb e => keep b o hb (Heap.get?_push_of_some _ e)
  refine wpAny_pure ⟨plainId_quiet PySem.F.plain_extend_loop _, codeAny_extend_loopS W hsz _ out _ ss.length 0 _ _ _ rfl (Nat.zero_le _) ?_ hS' (ItemsOf.nil _) fun s' acc c' hm hA hacc => ?_⟩
  · exact ⟨keep0 z _ (low z (by simp)) hz, keep0 T _ (low T (by simp)) hT, hi.at fun o e => keep0 it o (low it (by simp)) e, hl.at fun o e => keep0 l o (low l (by simp)) e⟩
  · refine wpAny_bind (wpAny_load hA ?_)
    obtain ⟨lst, e1, e2⟩ := strs_of_items hacc
    refine wpAny_pure ?_
    rw [e1, Moved.eq_with hm]
    exact h _ _ lst e2 fun b o hb e => hm.heap b o (by simp [hb, Nat.ne_of_lt (Heap.lt_size e)]) (keep0 b o (Nat.ne_of_lt (Heap.lt_size e)) e)
/-- texts that fit are joined -/
theorem tail_gives {x : Str} {lst : List (Str × Tok)} (ok : JoinOk x (lst.map (·.1)) = true) : Gives (joinTail x (strValues lst)) (joinMade x lst) ∧ (Txt.join x (lst.map (·.1))).length ≤ sizeLine := by
  have fits := Bool.not_eq_true' _ ▸ ok
  have g := gives_joinTail x lst fits
  refine ⟨?_, joinFit_length fits⟩
  rcases lst with _ | ⟨p, _ | ⟨q, r⟩⟩ <;> exact g
/-- str.join over what is no list and no tuple and is its own iterator, by what is drawn from it -/
theorem join_drawn (x : Str) (t : Tok) (I : Addr) (T : String) (hn : (Value.type T == Value.type "list" || Value.type T == Value.type "tuple") = false) :
    MeetsIn prog w (Builtin.«str.join» ⟨[.str x t, .ref I], []⟩) (fun B R u => u.TypeIs (.ref I) T ∧ (∀ Q' E', Q' (.ref I) u → wpAny (model prog w) B.in1 (pyIter (.ref I)) Q' E' u) ∧
      wpAny (model prog w) B.in1 (collect (.ref I)) (fun vs u' => ∃ lst : List (Str × Tok), vs = strValues lst ∧ JoinOk x (lst.map (·.1)) = true ∧ ∀ t' k, R (.ok (.ret (.str (Txt.join x (lst.map (·.1))) t'))) { u' with toks := k }) (fun e u' => R (.error e) u') u) := by
  rintro B R u ⟨ht, own, draw⟩
  rw [join_tree_other]
  refine wpAny_bind (wpAny_typeOf ht ?_)
  rw [if_neg (by rw [hn]; decide)]
  refine wpAny_bind (wpAny_tryCatch (own _ _ (wpAny_bind (wpAny_mono draw ?_ fun _ _ e => e))))
  rintro _ u' ⟨lst, rfl, ok, k⟩
  obtain ⟨g, le⟩ := tail_gives ok
  exact g prog w B R u' (post_join lst ⟨le, k⟩)
end

section
variable {prog : Program} {w : World} {A : Around} {E : Value → Shared → Prop} {s : Shared} {h₀ : Heap} {L : Addr} {m : Str → Option Value} {news : List (Addr × Obj)}
theorem join_mapN {sep : Str} {t : Tok} {z T it l : Addr} {vs : List Value} {ss : List Str} {Q : Value → Shared → Prop} (hh : A.handled = none) (F : Fr h₀ L s.heap m)
    (N : News h₀ L s.heap ((z, mapObj T (.builtin "str.capitalize")) :: (T, oneObj it) :: (it, iterObj l 0) :: news)) (hl : s.heap.IsList l vs.toArray) (hS : StrsAre vs ss)
    (hnew : ∀ p ∈ news, p.1 < it) (h1 : it < T) (h2 : T < z) (hli : l ≠ it) (hlen : ∀ x ∈ ss, x.length ≤ 5592405) (hsz : ss.length ≤ sizeLine) (hok : JoinOk sep (ss.map Txt.capitalize) = true)
    (hQ : ∀ h' tk t', Fr h₀ L h' m → News h₀ L h' news → Q (.str (Txt.join sep (ss.map Txt.capitalize)) t') { s with heap := h', toks := tk }) :
    wpAny (model prog w) A (call (.builtin "str.join") [.str sep t, .ref z]) Q E s := by
  have nz := N _ (List.mem_cons_self ..)
  have nT := N _ (List.mem_cons_of_mem _ (List.mem_cons_self ..))
  have ni := N _ (List.mem_cons_of_mem _ (List.mem_cons_of_mem _ (List.mem_cons_self ..)))
  have hzi : z ≠ it := Nat.ne_of_gt (Nat.lt_trans h1 h2)
  have hTi : T ≠ it := Nat.ne_of_gt h1
  have hit : s.heap.IsListIter it l 0 := ⟨_, ni.1, rfl, rfl⟩
  have hSl : StrsAre vs.toArray.toList ss := by simpa using hS
  refine call_meetsIn PySem.F.slot_str_join (typeIs_str _ _ _) PySem.F.entry_str_join (PySem.F.args_str_join_2 _ _) (join_drawn sep t z "map" (by decide)) ⟨⟨_, nz.1, rfl⟩, fun Q' E' q => ?_, ?_⟩
  · exact (walks_map (prog := prog) (w := w) (A := A.in1) hh z T it l hzi hTi hli vs.toArray ss hSl hlen).self 0 s Q' E' ⟨nz.1, nT.1, hit, hl⟩ q
  · refine map_collected (A := A.in1) hh hzi hTi hli hSl hlen hsz nz.1 nT.1 hit hl fun h' tk lst e keep => ⟨lst, rfl, by rw [e]; exact hok, fun t' k => ?_⟩
    rw [e]
    refine hQ h' k t' ⟨F.ns.extBut keep (Ne.symm ni.2.1), fun b o q => keep b o (fun c => ?_) (F.keep b o q), F.above⟩ fun p hp => ?_
    · rw [c, ni.2.2] at q; cases q
    · have q := N p (List.mem_cons_of_mem _ (List.mem_cons_of_mem _ (List.mem_cons_of_mem _ hp)))
      exact ⟨keep _ _ (Nat.ne_of_lt (hnew p hp)) q.1, q.2⟩
end

section
variable {prog : Program} {w : World} {A : Around} {E : Value → Shared → Prop} {s : Shared} {K : Frag} {h₀ : Heap} {L : Addr} {m : Str → Option Value}
theorem attr_type {T : String} {name : Str} {v : Value} {expr : Bool} {Q : Value → Shared → Prop} (F : Fr h₀ L s.heap m) (X₀ : K.In h₀) (ht : kitMeta T = true) (hs : Manifest.isStub T = false)
    (e : findCls K (.type T) (.type "type") name = some (.val v)) (hh : handedIn v = true) (h : Q v { s with toks := s.toks + 1 }) : wpAny (model prog w) A (getAttr (.type T) name expr) Q E s := by
  have G := X₀.keeps F.keep
  have plain : opaqueClassAbove (.type T) = pure none := by simp only [opaqueClassAbove, hs]; rfl
  refine cls_open G (Looks.of_pure plain) (Looks.of_pure (kitMeta_of ht)) type_tga (looks_hook G (r := none) rfl) ?_ e (wpAny_pure ?_)
  · show subIn K _ _ = _
    rfl
  · show wpAny _ _ (handedOut v) _ _ _
    exact wpAny_of_eq (handedOut_of hh) h
end

section
variable {prog : Program} {w : World} {A : Around} {E : Value → Shared → Prop} {s : Shared} {h₀ : Heap} {L : Addr} {m : Str → Option Value} {news : List (Addr × Obj)}
theorem split_none {x : Str} {t : Tok} {Q : Value → Shared → Prop} (hF : Fr h₀ L s.heap m) (hN : News h₀ L s.heap news)
    (h : ∀ D l h' k, l.map (·.1) = Txt.words x → StrsAre (strValues l) (l.map (·.1)) → Fr h₀ L h' m → News h₀ L h' ((D, listOf (strValues l).toArray 0) :: news) → (∀ p ∈ news, p.1 < D) → Q (.ref D) { s with heap := h', toks := k }) (hsz : x.length + 2 ≤ sizeLine) :
    wpAny (model prog w) A (call (.builtin "str.split") [.str x t, .none]) Q E s :=
  splitN0None hF hN (fun l h' k e ha _ _ F N => h _ l h' k e ha F N fun p hp => Heap.lt_size (hN p hp).1) hsz
end
end Mine
end PartMapRules2
section PartAsc
open PySem PySem.W PyProof.Rows
set_option maxRecDepth 100000
namespace Mine
def Ascii (x : Str) : Prop := ∀ c ∈ x.cps, c < 128
theorem Ascii.append {x y : Str} (hx : Ascii x) (hy : Ascii y) : Ascii (x ++ y) := by
  intro c hc
  have : c ∈ x.cps ++ y.cps := hc
  rcases Array.mem_append.mp this with h | h
  · exact hx c h
  · exact hy c h
theorem asc_foldl {x : Str} (hx : Ascii x) (hx1 : x.length ≤ 1) : ∀ (n : Nat) (acc : Array Nat), (∀ c ∈ acc, c < 128) → (∀ c ∈ (List.replicate n x.cps).foldl (· ++ ·) acc, c < 128) ∧ ((List.replicate n x.cps).foldl (· ++ ·) acc).size ≤ acc.size + n
  | 0, acc, h => ⟨h, by simp⟩
  | n + 1, acc, h => by
    rw [List.replicate_succ, List.foldl_cons]
    have h2 : ∀ c ∈ acc ++ x.cps, c < 128 := fun c hc => (Array.mem_append.mp hc).elim (h c) (hx c)
    obtain ⟨a, b⟩ := asc_foldl hx hx1 n (acc ++ x.cps) h2
    refine ⟨a, ?_⟩
    rw [Array.size_append] at b
    have : x.cps.size ≤ 1 := hx1
    omega
theorem asc_mul {x : Str} {n : Int} (hx : Ascii x) (hx1 : x.length ≤ 1) (h1 : 1 ≤ n) (h8 : n ≤ 8) : Ascii (Txt.mul x n) ∧ (Txt.mul x n).length ≤ 8 := by
  unfold Txt.mul
  rw [if_neg (by omega)]
  split
  · exact ⟨hx, by omega⟩
  · obtain ⟨a, b⟩ := asc_foldl hx hx1 n.toNat #[] (fun c hc => by simp at hc)
    refine ⟨a, ?_⟩
    have : (#[] : Array Nat).size = 0 := rfl
    exact Nat.le_trans b (by omega)
section
variable {prog : Program} {w : World} {A : Around} {E : Value → Shared → Prop} {s : Shared}
theorem mul_ascii {x : Str} {t u : Tok} {n : Int} {Q : Value → Shared → Prop} (hx : Ascii x) (hx1 : x.length ≤ 1) (h1 : 1 ≤ n) (h8 : n ≤ 8) (h : ∀ y t' k, Ascii y → y.length ≤ 8 → Q (.str y t') { s with toks := k }) :
    wpAny (model prog w) A (binaryOp .Mult (.str x t) (.int n u)) Q E s := by
  obtain ⟨a, b⟩ := asc_mul hx hx1 h1 h8
  refine SB.mul ⟨?_, ?_, ?_⟩ fun t' k => h _ t' k a b
  · have e1 : decide (n < -(2 ^ 63 : Int)) = false := decide_eq_false (by omega)
    have e2 : decide (n ≥ (2 ^ 63 : Int)) = false := decide_eq_false (by omega)
    rw [e1, e2]; rfl
  · intro _ _ hc
    have : (1152921504606846975 : Int) ≤ (2 ^ 63 - 1) / n := by
      rw [Int.le_ediv_iff_mul_le (by omega)]; omega
    omega
  · intro _ _
    have h2 : x.length * n.toNat ≤ 1 * 8 := Nat.mul_le_mul hx1 (by omega)
    unfold Builtin.Str.tooLong
    exact decide_eq_false (by rw [sizeLine_eq]; omega)
theorem asc_one {c : Nat} (h : c < 128) : Ascii ⟨#[c]⟩ := fun d hd => by simp at hd; omega
theorem asc_empty : Ascii (Str.ofString "") := fun d hd => by
  have e : Str.ofString "" = ⟨#[]⟩ := by decide +kernel
  rw [e] at hd; simp at hd
theorem item_asc {x : Str} (hx : Ascii x) (i : Int) : Ascii (Txt.item x i) := by
  refine asc_one ?_
  cases h : Txt.charAt x i with
  | none => decide
  | some c =>
    show c < 128
    unfold Txt.charAt at h
    obtain ⟨j, _, hj⟩ := Option.bind_eq_some_iff.mp h
    exact hx c (Array.mem_of_getElem? hj)
theorem item_code {x : Str} (hx : Ascii x) (i : Int) : (Txt.item x i).cps.getD 0 0 < 128 := by
  have h := item_asc hx i
  exact h _ (by simp [Txt.item])
theorem item_len (x : Str) (i : Int) : (Txt.item x i).length ≤ 1 := Nat.le_of_eq rfl
end
end Mine
end PartAsc
section PartCompRules
open PySem PySem.W PyProof.Rows
set_option maxRecDepth 100000
namespace Mine
section
variable {prog : Program} {w : World} {A : Around} {h₀ : Heap} {L : Addr} {m : Str → Option Value} {env : Env} {ct elt : Expr} {x : Str} {scope : Scope} {cl : List (Str × Addr)} {s : Shared} {S : List (Addr × Obj) → Prop} {P : Nat → Value → Prop} {Fin : List Value → List (Addr × Obj) → Prop} {news : List (Addr × Obj)}
/-- a weaker end -/
theorem end_to {I C D : Addr} {oI oC oD : Obj} {r r' : Value → List (Addr × Obj) → Prop} {y : Value} {s₁ s₂ : Shared} (q : LCg.CompEnd h₀ L m s₁ I oI C oC D oD S r y s₂) (k : ∀ nw, r y nw → r' y nw) : LCg.CompEnd h₀ L m s₁ I oI C oC D oD S r' y s₂ := by
  obtain ⟨h', tk, nw, e, F, N, off, hS, hr⟩ := q
  exact ⟨h', tk, nw, e, F, N, off, hS, k nw hr⟩
/-- a comprehension by what holds of the list between the turns -/
theorem comp_by {n : Nat} (Inv : Nat → List Value → Prop) (last : ∀ ys, Inv n ys → Fin ys news)
    (step : ∀ i ys v I oI C oC D m₂ h tk (E' : Value → Shared → Prop), i < n → Inv i ys → P i v → LCg.NsObj oC m₂ → m₂ x = some v → Fr h₀ L h m → News h₀ L h ((I, oI) :: (C, oC) :: (D, LCg.lst ys) :: news) → LCg.Off3 I C D news → ((@Ne Nat I C) ∧ (@Ne Nat I D) ∧ (@Ne Nat C D)) →
      wpAny (model prog w) A (eval elt (compEnvC scope cl C env)) (LCg.CompEnd h₀ L m { s with heap := h, toks := tk } I oI C oC D (LCg.lst ys) S (fun y nw => nw = news ∧ Inv (i + 1) (ys ++ [y]))) E' { s with heap := h, toks := tk }) :
    ∀ (left i : Nat) (ys : List Value), i + left = n → Inv i ys → LCg.CompRest prog w A h₀ L m env elt x scope cl s S P Fin left i ys news
  | 0, i, ys, e, q => LCg.CompRest.zero (last ys (e ▸ q))
  | left + 1, i, ys, e, q => LCg.CompRest.succ fun v I oI C oC D m₂ h tk E' hv hC hx F N off ne =>
    wpAny_mono (step i ys v I oI C oC D m₂ h tk E' (by omega) q hv hC hx F N off ne) (fun y _ z => end_to z fun nw ⟨e', q'⟩ => e' ▸ comp_by Inv last step left (i + 1) (ys ++ [y]) (by omega) q') fun _ _ z => z
theorem comp_rest {α : Type} (IsIt : α → Value → Prop) {n : Nat} (xs : List α) (g : α → Str) (hn : xs.length = n) (hP : ∀ i v, i < n → P i v → ∃ a, xs[i]? = some a ∧ IsIt a v)
    (turn : ∀ a v I oI C oC D m₂ ys h tk (E' : Value → Shared → Prop), a ∈ xs → IsIt a v → LCg.NsObj oC m₂ → m₂ x = some v → Fr h₀ L h m → News h₀ L h ((I, oI) :: (C, oC) :: (D, LCg.lst ys) :: news) → LCg.Off3 I C D news → ((@Ne Nat I C) ∧ (@Ne Nat I D) ∧ (@Ne Nat C D)) →
      wpAny (model prog w) A (eval elt (compEnvC scope cl C env)) (LCg.CompEnd h₀ L m { s with heap := h, toks := tk } I oI C oC D (LCg.lst ys) S (fun y news' => KCtEl news (g a) y news')) E' { s with heap := h, toks := tk })
    (fin : ∀ ys, StrsAre ys (xs.map g) → Fin ys news) : LCg.CompRest prog w A h₀ L m env elt x scope cl s S P Fin n 0 [] news :=
  comp_by (fun i ys => StrsAre ys ((xs.take i).map g)) (fun ys q => fin ys (by rw [← hn, List.take_length] at q; exact q)) (fun i ys v I oI C oC D m₂ h tk E' hi q hv hC hx F N off ne => by
    obtain ⟨a, ha, it⟩ := hP i v hi hv
    refine wpAny_mono (turn a v I oI C oC D m₂ ys h tk E' (List.mem_of_getElem? ha) it hC hx F N off ne) (fun y _ z => end_to z fun nw el => ⟨el.1, ?_⟩) fun _ _ z => z
    obtain ⟨_, t, rfl⟩ := el
    rw [List.take_add_one, ha, List.map_append]
    exact kct_snoc q) n 0 [] (Nat.zero_add n) .nil
/-- the same with a test -/
theorem comp_byT {n : Nat} (Inv : Nat → List Value → Prop) (last : ∀ ys, Inv n ys → Fin ys news)
    (step : ∀ i ys v I oI C oC D m₂ h tk (E' : Value → Shared → Prop), i < n → Inv i ys → P i v → LCg.NsObj oC m₂ → m₂ x = some v → Fr h₀ L h m → News h₀ L h ((I, oI) :: (C, oC) :: (D, LCg.lst ys) :: news) → LCg.Off3 I C D news → ((@Ne Nat I C) ∧ (@Ne Nat I D) ∧ (@Ne Nat C D)) →
      wpAny (model prog w) A (isTrue ct (compEnvC scope cl C env) (eval ct (compEnvC scope cl C env))) (fun ok s' => if ok = true then
        wpAny (model prog w) A (eval elt (compEnvC scope cl C env)) (LCg.CompEnd h₀ L m { s with heap := h, toks := tk } I oI C oC D (LCg.lst ys) S (fun y nw => nw = news ∧ Inv (i + 1) (ys ++ [y]))) E' s'
        else LCg.CompEnd h₀ L m { s with heap := h, toks := tk } I oI C oC D (LCg.lst ys) S (fun _ nw => nw = news ∧ Inv (i + 1) ys) Value.none s') E' { s with heap := h, toks := tk }) :
    ∀ (left i : Nat) (ys : List Value), i + left = n → Inv i ys → LCt.CompRestT prog w A h₀ L m env ct elt x scope cl s S P Fin left i ys news
  | 0, i, ys, e, q => LCt.CompRestT.zero (last ys (e ▸ q))
  | left + 1, i, ys, e, q => LCt.CompRestT.succ fun v I oI C oC D m₂ h tk E' hv hC hx F N off ne => by
    refine wpAny_mono (step i ys v I oI C oC D m₂ h tk E' (by omega) q hv hC hx F N off ne) (fun ok s' z => ?_) fun _ _ z => z
    cases ok <;> simp only [if_true, Bool.false_eq_true, if_false] at z ⊢
    · exact end_to z fun nw ⟨e', q'⟩ => e' ▸ comp_byT Inv last step left (i + 1) ys (by omega) q'
    · exact wpAny_mono z (fun y _ z' => end_to z' fun nw ⟨e', q'⟩ => e' ▸ comp_byT Inv last step left (i + 1) (ys ++ [y]) (by omega) q') fun _ _ z' => z'
theorem comp_restT {α : Type} (IsIt : α → Value → Prop) {n : Nat} (xs : List α) (p : α → Bool) (g : α → Str) (hn : xs.length = n) (hP : ∀ i v, i < n → P i v → ∃ a, xs[i]? = some a ∧ IsIt a v)
    (turn : ∀ a v I oI C oC D m₂ ys h tk (E' : Value → Shared → Prop), a ∈ xs → IsIt a v → LCg.NsObj oC m₂ → m₂ x = some v → Fr h₀ L h m → News h₀ L h ((I, oI) :: (C, oC) :: (D, LCg.lst ys) :: news) → LCg.Off3 I C D news → ((@Ne Nat I C) ∧ (@Ne Nat I D) ∧ (@Ne Nat C D)) →
      wpAny (model prog w) A (isTrue ct (compEnvC scope cl C env) (eval ct (compEnvC scope cl C env))) (fun ok s' => if ok = true then
        wpAny (model prog w) A (eval elt (compEnvC scope cl C env)) (LCg.CompEnd h₀ L m { s with heap := h, toks := tk } I oI C oC D (LCg.lst ys) S (fun y news' => p a = true ∧ KCtEl news (g a) y news')) E' s'
        else LCg.CompEnd h₀ L m { s with heap := h, toks := tk } I oI C oC D (LCg.lst ys) S (fun _ news' => p a = false ∧ news' = news) Value.none s') E' { s with heap := h, toks := tk })
    (fin : ∀ ys, StrsAre ys ((xs.filter p).map g) → Fin ys news) : LCt.CompRestT prog w A h₀ L m env ct elt x scope cl s S P Fin n 0 [] news :=
  comp_byT (fun i ys => StrsAre ys (((xs.take i).filter p).map g)) (fun ys q => fin ys (by rw [← hn, List.take_length] at q; exact q)) (fun i ys v I oI C oC D m₂ h tk E' hi q hv hC hx F N off ne => by
    obtain ⟨a, ha, it⟩ := hP i v hi hv
    have grown : xs.take (i + 1) = xs.take i ++ [a] := by rw [List.take_add_one, ha]; rfl
    refine wpAny_mono (turn a v I oI C oC D m₂ ys h tk E' (List.mem_of_getElem? ha) it hC hx F N off ne) (fun ok s' z => ?_) fun _ _ z => z
    cases ok <;> simp only [if_true, Bool.false_eq_true, if_false] at z ⊢
    · refine end_to z fun nw el => ⟨el.2, ?_⟩
      rw [grown, List.filter_append]
      simpa [el.1] using q
    · refine wpAny_mono z (fun y _ z' => end_to z' fun nw el => ⟨el.2.1, ?_⟩) fun _ _ z' => z'
      obtain ⟨pa, _, t, rfl⟩ := el
      rw [grown, List.filter_append]
      simpa [pa] using kct_snoc q) n 0 [] (Nat.zero_add n) .nil
end
theorem strs_item {vs : List Value} {ss : List Str} (h : StrsAre vs ss) : ∀ i v, i < vs.toArray.size → vs.toArray[i]? = some v → ∃ a, ss[i]? = some a ∧ ∃ t, v = .str a t := fun i v _ hv => by
  obtain ⟨y, t, e, hy⟩ := h.item i v (by simpa using hv)
  exact ⟨y, hy, t, e⟩
theorem ints_item {vs : List Value} {ns : List Int} (h : IntsAre vs ns) : ∀ i v, i < vs.toArray.size → vs.toArray[i]? = some v → ∃ a, ns[i]? = some a ∧ ∃ t, v = .int a t := fun i v _ hv => by
  obtain ⟨k, t, e, hk⟩ := IntsAre.at h i v (by simpa using hv)
  exact ⟨k, hk, t, e⟩
end Mine
end PartCompRules
section PartListRules
open PySem PySem.W PyProof.Rows
set_option maxRecDepth 100000
namespace Mine
section
variable {prog : Program} {w : World} {A : Around} {E : Value → Shared → Prop} {s : Shared} {h₀ : Heap} {L : Addr} {m : Str → Option Value} {rest : List (Addr × Obj)}
theorem append_head {l : Addr} {vs : List Value} {n : Nat} {v : Value} {Q : Value → Shared → Prop} (F : Fr h₀ L s.heap m) (N : News h₀ L s.heap ((l, listOf vs.toArray n) :: rest)) (off : ∀ p ∈ rest, p.1 ≠ l) (hsz : vs.length ≤ 100000)
    (h : ∀ h', Fr h₀ L h' m → News h₀ L h' ((l, listOf (vs ++ [v]).toArray (n + 1)) :: rest) → Q .none { s with heap := h' }) : wpAny (model prog w) A (call (.builtin "list.append") [.ref l, v]) Q E s := by
  have hpush : vs.toArray.push v = (vs ++ [v]).toArray := by simp
  refine append_K F N (Upd.head off) (fun h' F' N' => h h' F' ?_) (by rw [List.size_toArray, sizeLine_eq]; omega)
  rw [hpush] at N'
  exact N'
theorem item_last {value slice : PySem.Expr} {l : Addr} {ws : List Value} {v : Value} {u : Tok} {n : Nat} {Q : Value → Shared → Prop} (N : News h₀ L s.heap ((l, listOf (ws ++ [v]).toArray n) :: rest)) (h : Q v s)
    (hs : subscripted slice false (.ref l) (.int (-1) u) = operate [.ref l, .int (-1) u] (getItem (.ref l) (.int (-1) u))) :
    wpAny (model prog w) A (subscriptTail value slice (.ref l) (.int (-1) u)) Q E s := by
  refine kde_neg (j := ws.length) (News.isList N (.head _)) (by decide) (by decide) ?_ (by simp) h hs
  unfold seqIndex?
  simp only [List.length_append, List.length_singleton]
  have e : (if (-1 : Int) < 0 then -1 + ((ws.length + 1 : Nat) : Int) else -1) = (ws.length : Int) := by rw [if_pos (by decide)]; omega
  rw [e, if_pos (by simp only [Bool.and_eq_true, decide_eq_true_eq]; omega)]
  rfl
theorem set_last {l : Addr} {ws : List Value} {v v' : Value} {u : Tok} {n : Nat} {Q : Unit → Shared → Prop} (F : Fr h₀ L s.heap m) (N : News h₀ L s.heap ((l, listOf (ws ++ [v]).toArray n) :: rest)) (off : ∀ p ∈ rest, p.1 ≠ l)
    (h : ∀ h', Fr h₀ L h' m → News h₀ L h' ((l, listOf (ws ++ [v']).toArray n) :: rest) → Q () { s with heap := h' }) : wpAny (model prog w) A (setItem (.ref l) (.int (-1) u) v') Q E s := by
  have z := N _ (List.mem_cons_self ..)
  refine ki_setBack (n := n) z.1 (by decide) ?_ (by decide) (h _ (F.change (Heap.SameBut.update ..) z.2.1 z.2.2) ?_)
  · simp only [List.size_toArray, List.length_append, List.length_singleton]; omega
  · have e : (-1 + (((ws ++ [v]).toArray.size : Nat) : Int)).toNat = ws.length := by simp only [List.size_toArray, List.length_append, List.length_singleton]; omega
    rw [e]
    have := ki_turn (pre := []) (post := rest) (fun x => x.setIfInBounds ws.length v') (n' := n) (its' := (ws ++ [v']).toArray) N (List.forall_mem_nil _) off ?_ ?_
    · exact this
    · apply Array.toList_inj.mp
      simp
    · simp
end
theorem led_sub {q : Addr × Obj} {news own : List (Addr × Obj)} : ∀ p ∈ q :: news, p ∈ q :: (news ++ own) := fun p hp => by
  rcases List.mem_cons.mp hp with h | h
  · rw [h]; exact List.mem_cons_self ..
  · exact List.mem_cons_of_mem _ (List.mem_append_left _ h)
theorem led_own {q : Addr × Obj} {news own : List (Addr × Obj)} : ∀ p ∈ own, p ∈ q :: (news ++ own) := fun p hp => List.mem_cons_of_mem _ (List.mem_append_right _ hp)
section
variable {M : Model} {A : Around} {E : Value → Shared → Prop} {s : Shared} {h₀ : Heap} {L : Addr} {m : Str → Option Value} {news : List (Addr × Obj)} {t : Sem Value} {Q : Value → Shared → Prop}
def CutInt (s : Shared) (v : Value) (s' : Shared) : Prop := ∃ z tk tok, v = .int z tok ∧ s' = { s with toks := tk }
def CutNat (h₀ : Heap) (L : Addr) (m : Str → Option Value) (news : List (Addr × Obj)) (s : Shared) (v : Value) (s' : Shared) : Prop := ∃ z tok h' tk, v = .int z tok ∧ s' = { s with heap := h', toks := tk } ∧ 0 ≤ z ∧ z ≤ 1000 ∧ Fr h₀ L h' m ∧ News h₀ L h' news
theorem cut_int (h1 : wpAny M A t (CutInt s) E s) (h2 : ∀ z tok tk, Q (.int z tok) { s with toks := tk }) : wpAny M A t Q E s :=
  wpAny_mono h1 (fun _ _ ⟨z, tk, tok, e1, e2⟩ => by rw [e1, e2]; exact h2 z tok tk) fun _ _ e => e
theorem cut_nat (_F : Fr h₀ L s.heap m) (_N : News h₀ L s.heap news) (h1 : wpAny M A t (CutNat h₀ L m news s) E s)
    (h2 : ∀ z tok h' tk, 0 ≤ z → z ≤ 1000 → Fr h₀ L h' m → News h₀ L h' news → Q (.int z tok) { s with heap := h', toks := tk }) : wpAny M A t Q E s :=
  wpAny_mono h1 (fun _ _ ⟨z, tok, h', tk, e1, e2, e3, e4, e5, e6⟩ => by rw [e1, e2]; exact h2 z tok h' tk e3 e4 e5 e6) fun _ _ e => e
theorem fmod_box (x : Int) {n : Nat} (hn : n ≤ 64) : 0 ≤ x.fmod ((n : Int) + 1) ∧ x.fmod ((n : Int) + 1) ≤ 1000 := by
  have h1 := Int.fmod_nonneg_of_pos x (b := (n : Int) + 1) (by omega)
  have h2 := Int.fmod_lt_of_pos x (b := (n : Int) + 1) (by omega)
  omega
end
theorem strs_values : ∀ {ys : List Value} {ss : List Str}, StrsAre ys ss → ∃ l : List (Str × Tok), strValues l = ys ∧ l.map (·.1) = ss
  | _, _, .nil => ⟨[], rfl, rfl⟩
  | _, _, .cons x t h => by
    obtain ⟨l, e1, e2⟩ := strs_values h
    exact ⟨(x, t) :: l, by rw [← e1]; rfl, by rw [← e2]; rfl⟩
section
variable {prog : Program} {w : World} {A : Around} {E : Value → Shared → Prop} {s : Shared}
theorem join_strs {D : Addr} {ys : List Value} {ss : List Str} {sep : Str} {t : Tok} {Q : Value → Shared → Prop} (hl : s.heap.IsList D ys.toArray) (hS : StrsAre ys ss) (hok : JoinOk sep ss = true)
    (hq : ∀ t' k, Q (.str (Txt.join sep ss) t') { s with toks := k }) : wpAny (model prog w) A (call (.builtin "str.join") [.str sep t, .ref D]) Q E s := by
  obtain ⟨l, e1, e2⟩ := strs_values hS
  rw [← e1] at hl
  exact SC.join hl e2 hok hq
end
end Mine
end PartListRules
section PartLoopRules
open PySem PySem.W PyProof.Rows
set_option maxRecDepth 100000
namespace Mine
section
variable {prog : Program} {w : World} {A : Around} {E : Value → Shared → Prop} {s : Shared} {env : Env} {h₀ : Heap} {x : Str} {body : List Stmt} {Q : Flow → Shared → Prop}
/-- a state told between the turns of a loop over values: as the library's KstS for ints, the turns counted -/
def KsS {σ : Type} (Led : σ → List (Addr × Obj)) (ps : σ → List (Str × Value)) (Facts : σ → Prop) (x : Str) (stored : List Str) (m₀ : Str → Option Value) (P : Nat → σ → Prop) (i : Nat) : (Str → Option Value) → List (Addr × Obj) → Prop :=
  KstS Led ps Facts x stored m₀ (fun done c => P done.length c) (List.replicate i 0)
theorem kss_end {σ : Type} {Led : σ → List (Addr × Obj)} {ps : σ → List (Str × Value)} {Facts : σ → Prop} {stored : List Str} {m₀ : Str → Option Value} {P : Nat → σ → Prop} {i : Nat} (c : σ) {L : Addr} {m' : Str → Option Value} {own news' : List (Addr × Obj)} {adr : List Addr} {s₁ : Shared} {h' : Heap} {tk : Nat}
    (F : Fr h₀ L h' m') (N : News h₀ L h' news') (hn : ∀ p ∈ Led c, p ∈ news') (ho : ∀ p ∈ own, p ∈ news') (ha : (Led c).map (·.1) = adr) (hf : Facts c) (hk : ∀ p ∈ ps c, m' p.1 = some p.2) (hr : ∀ z, z ≠ x → (∀ p ∈ ps c, z ≠ p.1) → stored.contains z = false → m' z = m₀ z) (hp : P i c) :
    InvEndN h₀ L (KsS Led ps Facts x stored m₀ P i) own adr s₁ { s₁ with heap := h', toks := tk } :=
  kst_end c F N hn ho ha hf hk hr (by simpa using hp)
/-- the loop over a list or a tuple that its walk is told of -/
theorem kss_seq {σ : Type} {l : Addr} {vs : List Value} {St : Nat → Heap → Prop} {m₀ : Str → Option Value} (o : Obj) (Led : σ → List (Addr × Obj)) (ps : σ → List (Str × Value)) (Facts : σ → Prop) (stored : List Str) (P : Nat → σ → Prop) (c₀ : σ)
    (W : Walks prog w A s.heap.objs.size [s.heap.objs.size, l] [s.heap.objs.size] vs.toArray.size (fun i v => vs.toArray[i]? = some v) St) (st : St 0 (s.heap.push o)) (hlL : l ≠ env.locals) (hoff : ∀ q ∈ Led c₀, q.1 ≠ l)
    (F : Fr h₀ env.locals s.heap m₀) (N : News h₀ env.locals s.heap (Led c₀)) (hf : Facts c₀) (hk : ∀ p ∈ ps c₀, m₀ p.1 = some p.2) (hp : P 0 c₀)
    (turn : ∀ (c : σ) i v (u : Str → Option Value) h tk own, i < vs.length → vs[i]? = some v → OwnOff own ((Led c₀).map (·.1)) → Facts c → P i c →
      Fr h₀ env.locals h (fun y => if y = x then some v else kstB (fun z => if stored.contains z then u z else m₀ z) (ps c) y) → News h₀ env.locals h (Led c ++ own) →
      wpAny (model prog w) A (execs body env) (InvPostN h₀ env.locals (KsS Led ps Facts x stored m₀ P (i + 1)) own ((Led c₀).map (·.1)) { s with heap := h, toks := tk } Q) E { s with heap := h, toks := tk })
    (done : ∀ (c : σ) (u : Str → Option Value) h tk, Facts c → P vs.length c → Fr h₀ env.locals h (fun y => if y = x then u y else kstB (fun z => if stored.contains z then u z else m₀ z) (ps c) y) → News h₀ env.locals h (Led c) → Q .next { s with heap := h, toks := tk }) :
    LoopAtV prog w A h₀ env x body Q E (.ref s.heap.objs.size) { s with heap := s.heap.push o } := by
  have young : ∀ q ∈ Led c₀, q.1 ≠ s.heap.objs.size := fun q hq => Nat.ne_of_lt (Heap.lt_size (N q hq).1)
  refine loop_invN (fun i => KsS Led ps Facts x stored m₀ P i) W ?_ ?_ ?_ ?_ st (F.push o) (News.grown N fun b o' e => Heap.get?_push_of_some _ e) ⟨c₀, rfl, hf, hk, fun _ _ _ _ => rfl, hp⟩ ?_ ?_
  · simp only [List.mem_cons, List.not_mem_nil, or_false, not_or]
    exact ⟨Nat.ne_of_lt F.ns.lt, Ne.symm hlL⟩
  · simp only [List.mem_singleton]
    rintro b rfl
    exact next_is_new F
  · exact fun q hq hI => young q hq (List.mem_singleton.mp hI)
  · simp only [List.mem_cons, List.not_mem_nil, or_false, not_or]
    exact fun q hq => ⟨young q hq, hoff q hq⟩
  · rintro i v m₁ nx h tk own hi hv _ off ⟨c, rfl, hf', h1, h2, hp'⟩ F₁ N₁
    exact turn c i v m₁ h tk own (by simpa using hi) (by simpa using hv) off hf' (by simpa using hp') (kst_fr h1 h2 F₁) N₁
  · rintro m₁ nx h tk ⟨c, rfl, hf', h1, h2, hp'⟩ F₁ N₁
    exact done c m₁ h tk hf' (by simpa using hp') (kst_frOut h1 h2 F₁) N₁
theorem kss_list {σ : Type} {l : Addr} {vs : List Value} {m₀ : Str → Option Value} (Led : σ → List (Addr × Obj)) (ps : σ → List (Str × Value)) (Facts : σ → Prop) (stored : List Str) (P : Nat → σ → Prop) (c₀ : σ)
    (hh : A.handled = none) (hl : s.heap.IsList l vs.toArray) (hlL : l ≠ env.locals) (hoff : ∀ q ∈ Led c₀, q.1 ≠ l) (F : Fr h₀ env.locals s.heap m₀) (N : News h₀ env.locals s.heap (Led c₀)) (hf : Facts c₀) (hk : ∀ p ∈ ps c₀, m₀ p.1 = some p.2) (hp : P 0 c₀)
    (turn : ∀ (c : σ) i v (u : Str → Option Value) h tk own, i < vs.length → vs[i]? = some v → OwnOff own ((Led c₀).map (·.1)) → Facts c → P i c →
      Fr h₀ env.locals h (fun y => if y = x then some v else kstB (fun z => if stored.contains z then u z else m₀ z) (ps c) y) → News h₀ env.locals h (Led c ++ own) →
      wpAny (model prog w) A (execs body env) (InvPostN h₀ env.locals (KsS Led ps Facts x stored m₀ P (i + 1)) own ((Led c₀).map (·.1)) { s with heap := h, toks := tk } Q) E { s with heap := h, toks := tk })
    (done : ∀ (c : σ) (u : Str → Option Value) h tk, Facts c → P vs.length c → Fr h₀ env.locals h (fun y => if y = x then u y else kstB (fun z => if stored.contains z then u z else m₀ z) (ps c) y) → News h₀ env.locals h (Led c) → Q .next { s with heap := h, toks := tk }) :
    wpAny (model prog w) A (pyIter (.ref l)) (fun it s₂ => LoopAtV prog w A h₀ env x body Q E it s₂) E s :=
  have ne : l ≠ s.heap.objs.size := by obtain ⟨_, e, _⟩ := hl; exact Nat.ne_of_lt (Heap.lt_size e)
  wpAny_pyIter_list hl (kss_seq _ Led ps Facts stored P c₀ (Walks.list hh _ l ne vs.toArray) ⟨⟨_, Heap.get?_push_size _ rfl, rfl, rfl⟩, hl.at fun o e => Heap.get?_push_of_some _ e⟩ hlL hoff F N hf hk hp turn done)
end
section
variable {prog : Program} {w : World} {A : Around} {E : Value → Shared → Prop} {s : Shared}
theorem split_raise {x : Str} {t u : Tok} {Q : Value → Shared → Prop} (hh : A.handled = none) (h : ∀ h' tk e, Heap.NewExc s.heap h' e "ValueError" → E (.ref e) { s with heap := h', toks := tk }) :
    wpAny (model prog w) A (call (.builtin "str.split") [.str x t, .str (Str.ofString "") u]) Q E s := by
  refine call_meets F.slot_str_split (typeIs_str _ _ _) F.entry_str_split (F.args_str_split_2 _ _) (raises_str_split_empty x (Str.ofString "") t u ?_ (by decide +kernel)) ⟨hh, h⟩
  have e1 : (Str.ofString "").length = 0 := by decide +kernel
  have e2 : Builtin.Str.strKind (Str.ofString "") = 1 := by decide +kernel
  rw [e1, e2, Bool.or_eq_false_iff, decide_eq_false_iff_not, decide_eq_false_iff_not]
  refine ⟨by omega, ?_⟩
  unfold Builtin.Str.strKind
  repeat' split
  all_goals omega
theorem str_empty {x : Str} (h : x.length = 0) : x = Str.ofString "" := by
  have e : Str.ofString "" = ⟨#[]⟩ := by decide +kernel
  rw [e]
  obtain ⟨a⟩ := x
  have : a = #[] := Array.eq_empty_of_size_eq_zero h
  rw [this]
theorem str_nonempty {x : Str} (h : 1 ≤ x.length) : (x == Str.ofString "") = false := by
  rw [beq_eq_false_iff_ne]
  intro e
  rw [e] at h
  have : (Str.ofString "").length = 0 := by decide +kernel
  omega
end
section
variable {prog : Program} {w : World} {A₀ : Around} {E : Value → Shared → Prop} {s' : Shared} {h₀ h : Heap} {outer : List Env} {L a e : Addr} {m : Str → Option Value} {name : Str} {scope : Scope} {cd : Value}
  {n : Str} {b₀ : Stmt} {suite : List Stmt} {pos np : Pos} {rest : List ExceptHandler} {Q : Flow → Shared → Prop} {news : List (Addr × Obj)}
  {p : Program} {loose : List Str} {mean : ExcName → Option Value} {mg mb : Str → Option Value} {x : Str} {X T' : String}
/-- as the library's rule for «except X as n», but the class of what was caught is told -/
theorem caught_as (K : Below A₀ h₀ outer h₀) (F : Fr h₀ L h m) (hsm : h.UpToSlots s'.heap) (R : RaisedN h₀ (envOf name scope L a cd :: outer) e (.type X) news s'.heap)
    (T : TopRead p loose mg mb h₀) (hv : bootBuiltins x = some (.type T'))
    (hexc : isSubtype (.type T') (.type "BaseException") = pure true) (hnt : isSubtype (.type ((Manifest.find? T').elim "type" fun y => y.metatype)) (.type "tuple") = pure false) (hsub : isSubtype (.type X) (.type T') = pure true)
    (k : ∀ h' tk oe, oe.cls = .type X → Fr h₀ L h' (fun y => if y = n then some (.ref e) else m y) → News h₀ L h' ((e, oe) :: news) →
      wpAny (model prog w) ((A₀.deeper (envOf name scope L a cd)).mark (some (.ref e))) (execs (b₀ :: suite) (envOf name scope L a cd))
        (fun f s₄ => wpAny (model prog w) (A₀.deeper (envOf name scope L a cd)) (do bindName (envOf name scope L a cd) n .none; unbindBehindTheSuite (envOf name scope L a cd) n pos) (fun _ s₅ => Q f s₅) E s₄)
        (AsSuiteRaised (model prog w) ((A₀.deeper (envOf name scope L a cd)).mark (some (.ref e))) (envOf name scope L a cd) n pos (notedBy (model prog w) ((A₀.deeper (envOf name scope L a cd)).mark (some (.ref e))) (envOf name scope L a cd) (cameBackBy (model prog w) (A₀.deeper (envOf name scope L a cd)) (envOf name scope L a cd) E)))
        { s' with heap := h', toks := tk })
    (h1 : x ∉ startupNames := by decide +kernel) (h2 : x ∉ loose := by decide +kernel) (h3 : x ∉ (recsOf p).map (·.name) := by decide +kernel) (h4 : x ∉ (litsOf p).map (·.1) := by decide +kernel) (h4c : x ∉ (clssOf p loose).map (·.name) := by decide +kernel) (hn : x ≠ "__name__" := by decide +kernel)
    (hk : scope.kind = .function := by rfl) (hlo : (envOf name scope L a cd).kindOf n = some .local := by rfl) (hx : (envOf name scope L a cd).kindOf x = some .globalImplicit := by rfl) (hd : (x == ("__debug__" : Str)) = false := by decide) :
    wpAny (model prog w) (A₀.deeper (envOf name scope L a cd)) (noteFrame (.ref e) (envOf name scope L a cd))
      (fun _ s₂ => wpAny (model prog w) (A₀.deeper (envOf name scope L a cd)) (setFlight (.ref e) none) (fun _ s₃ =>
        wpAny (model prog w) (A₀.deeper (envOf name scope L a cd)) (handleBy (.ref e) (envOf name scope L a cd) (.ExceptHandler (some (.Name x np)) (some n) (b₀ :: suite) pos :: rest)) Q E s₃) E s₂) E s' := by
  obtain ⟨B, _, below, led, fly⟩ := R
  have unborn : B.get? L = none := by
    obtain ⟨_, ⟨_, _, one, none, _⟩, _⟩ := fly.2.2.1
    cases one
    exact none
  refine wpAny_looks_onW (Around.frames_deeper K.stack) rfl fly fun _ f1 u1 => wpAny_landsW f1 fun _ f2 u2 => ?_
  have up := (hsm.trans u1).trans u2
  have g2 := flyingW_base below f2
  refine wpAny_handleBy_builtin_as (X := X) (T := T') (b := true) hexc hnt hsub (ld_builtin_at (F.of_stays g2.1 up) T.g (T.free x h1 h2 h3 h4 h4c) T.b ((T.builtins x hn).trans hv) ⟨rfl, g2.there, ?_⟩ hk hx hd)
  refine lands_againW f2 fun h₆ f3 u3 => ?_
  have g3 := flyingW_base below f3
  have F₆ := F.of_stays g3.1 (up.trans u3)
  obtain ⟨oe, _, at_e, cls_e, data_e, _⟩ := g3.first
  have N₆ : News h₀ L h₆ news := by
    intro q hq
    obtain ⟨was, fresh⟩ := led q hq
    refine ⟨f3.1 _ _ was, ?_, fresh⟩
    intro c
    rw [c, unborn] at was
    cases was
  refine stN F₆ (News.more F₆ N₆ at_e (fun es n c => ?_) g3.2.1) (fun h₇ F₇ N₇ => k h₇ _ oe cls_e F₇ N₇) hk hlo
  rw [data_e] at c
  cases c
end
section
variable {prog : Program} {w : World} {A : Around} {E : Value → Shared → Prop} {s : Shared} {h₀ : Heap} {L : Addr} {news : List (Addr × Obj)}
theorem type_of_exc {e : Addr} {oe : Obj} {T : String} {Q : Value → Shared → Prop} (N : News h₀ L s.heap ((e, oe) :: news)) (hc : oe.cls = .type T) (hn : (Value.type T == Value.type "builtin_function_or_method") = false) (h : Q (.type T) s) :
    wpAny (model prog w) A (call (.type "type") [.ref e]) Q E s := kto_cont ⟨oe, (N _ (.head _)).1, hc⟩ hn h
end
end Mine
end PartLoopRules
section PartTextMath
open PySem PySem.W PyProof.Rows PySem.Builtin PySem.Builtin.Str
set_option maxRecDepth 100000
namespace Mine
theorem len_list (x : Str) : x.cps.toList.length = x.length := by simp [Str.length]
theorem str_ext {x y : Str} (h : x.cps.toList = y.cps.toList) : x = y := Str.ext' (Array.toList_inj.mp h)
theorem slice_idx_beyond (len : Nat) (i : Int) {j : Int} (h : (len : Int) ≤ j) : strSliceIndices (some i) (some j) 1 len = strSliceIndices (some i) (some (len : Int)) 1 len := by
  have a1 : ¬ j < 0 := by omega
  have a2 : ¬ ((len : Int) < 0) := by omega
  have e1 : max (0 : Int) (min j (len : Int)) = len := by omega
  simp [strSliceIndices, a1, a2, e1]
theorem slice_list {x : Str} {k n : Nat} (hk : k ≤ x.length) : (Txt.slice x (some (k : Int)) (some ((k : Int) + (n : Int)))).cps.toList = (x.cps.toList.drop k).take n := by
  by_cases h : k + n ≤ x.length
  · have e := StrLaws.sliceText_plain (x := x) (i := (k : Int)) (j := (k : Int) + (n : Int)) ⟨by omega, by omega, by rw [len_list]; omega⟩
    show (StrLaws.sliceText x (some (k : Int)) (some ((k : Int) + (n : Int)))).cps.toList = _
    rw [e]
    have e1 : ((k : Int) + (n : Int) - (k : Int)).toNat = n := by omega
    have e2 : (k : Int).toNat = k := by omega
    rw [e1, e2]
  · have e := StrLaws.sliceText_plain (x := x) (i := (k : Int)) (j := (x.length : Int)) ⟨by omega, by omega, by rw [len_list]; omega⟩
    show (StrLaws.sliceText x (some (k : Int)) (some ((k : Int) + (n : Int)))).cps.toList = _
    have e0 : StrLaws.sliceText x (some (k : Int)) (some ((k : Int) + (n : Int))) = StrLaws.sliceText x (some (k : Int)) (some (x.length : Int)) := by
      unfold StrLaws.sliceText
      rw [slice_idx_beyond x.length (k : Int) (by omega)]
    rw [e0, e]
    have e1 : ((x.length : Int) - (k : Int)).toNat = x.length - k := by omega
    have e2 : (k : Int).toNat = k := by omega
    have hl : (x.cps.toList.drop k).length = x.length - k := by rw [List.length_drop, len_list]
    rw [e1, e2, List.take_of_length_le (by omega), List.take_of_length_le (by omega)]
theorem str_beq (x y : Str) : (x == y) = (x.cps.toList == y.cps.toList) := by
  cases h : x == y with
  | true => rw [beq_iff_eq.mp h]; simp
  | false =>
    symm
    rw [beq_eq_false_iff_ne] at h ⊢
    exact fun e => h (str_ext e)
theorem prefix_take (m l : List Nat) : m.isPrefixOf l = (l.take m.length == m) := by
  cases h : m.isPrefixOf l with
  | true => rw [List.isPrefixOf_iff_prefix, List.prefix_iff_eq_take] at h; rw [← h]; simp
  | false =>
    symm
    rw [beq_eq_false_iff_ne]
    intro e
    have : m.isPrefixOf l = true := by rw [List.isPrefixOf_iff_prefix, List.prefix_iff_eq_take]; exact e.symm
    rw [h] at this; cases this
theorem slice_prefix {text mark : Str} {k : Nat} (hk : k ≤ text.length) : (Txt.slice text (some (k : Int)) (some ((k : Int) + (mark.length : Int))) == mark) = mark.cps.toList.isPrefixOf (text.cps.toList.drop k) := by
  rw [str_beq, slice_list hk, prefix_take, len_list]
theorem item_at {text : Str} {k : Nat} (hk : k < text.length) : (Txt.item text (k : Int)).cps.toList = [text.cps.toList[k]'(by rw [len_list]; exact hk)] := by
  show [(Txt.charAt text (k : Int)).getD 0] = _
  have hk' : k < text.cps.size := hk
  have e : Txt.charAt text (k : Int) = some text.cps[k] := by
    unfold Txt.charAt seqIndex?
    have h1 : ¬ ((k : Int) < 0) := by omega
    have h2 : (k : Int) < (text.length : Int) := by omega
    have h3 : (0 : Int) ≤ k := by omega
    simp only [h1, if_false, h2, h3, decide_true, Bool.and_self, if_true, Int.toNat_natCast, Option.bind_some]
    exact Array.getElem?_eq_getElem hk'
  rw [e]
  show [text.cps[k]] = _
  rw [← Array.getElem_toList]
theorem item_getD {text : Str} {k : Nat} (hk : k < text.length) : (Txt.item text (k : Int)).cps.getD 0 0 = text.cps.toList[k]'(by rw [len_list]; exact hk) := by
  have h := item_at hk
  have : (Txt.item text (k : Int)).cps = #[text.cps.toList[k]'(by rw [len_list]; exact hk)] := Array.toList_inj.mp h
  rw [this]; rfl
theorem item_cps {text : Str} {k : Nat} (hk : k < text.length) : text.cps.toList.drop k = (Txt.item text (k : Int)).cps.getD 0 0 :: text.cps.toList.drop (k + 1) := by
  rw [item_getD hk, List.drop_eq_getElem_cons]
theorem slice_len {text mark : Str} {k : Nat} (hk : (k : Int) < text.length) (he : (Txt.slice text (some (k : Int)) (some ((k : Int) + (mark.length : Int))) == mark) = true) : k + mark.length ≤ text.length := by
  rw [slice_prefix (by omega), List.isPrefixOf_iff_prefix] at he
  have := he.length_le
  rw [len_list, List.length_drop, len_list] at this
  omega

/-! the parts between the marks, read from the left -/
def consHead (c : Nat) : List (List Nat) → List (List Nat)
  | [] => [[c]]
  | p :: r => (c :: p) :: r
def splitL (m : List Nat) : List Nat → List (List Nat)
  | [] => [[]]
  | c :: r => if m.isPrefixOf (c :: r) = true then [] :: splitL m (r.drop (m.length - 1)) else consHead c (splitL m r)
termination_by l => l.length
decreasing_by
  · simp only [List.length_drop, List.length_cons]; omega
  · simp
theorem splitL_nil (m : List Nat) : splitL m [] = [[]] := by rw [splitL]
theorem splitL_cons (m : List Nat) (c : Nat) (r : List Nat) : splitL m (c :: r) = if m.isPrefixOf (c :: r) = true then [] :: splitL m (r.drop (m.length - 1)) else consHead c (splitL m r) := by rw [splitL]
theorem splitL_ne (m : List Nat) : ∀ l, ∃ p r, splitL m l = p :: r
  | [] => ⟨_, _, splitL_nil m⟩
  | c :: r => by
    rw [splitL_cons]
    split
    · exact ⟨_, _, rfl⟩
    · cases splitL m r with
      | nil => exact ⟨_, _, rfl⟩
      | cons p q => exact ⟨_, _, rfl⟩
def prepend (w : List Nat) : List (List Nat) → List (List Nat)
  | [] => [w]
  | p :: r => (w ++ p) :: r
theorem at_prefix (x y : Str) (hy : 1 ≤ y.length) (k : Nat) : StrLaws.At x y x.length k ↔ y.cps.toList.isPrefixOf (x.cps.toList.drop k) = true := by
  unfold StrLaws.At
  rw [StrLaws.subAt_eq, prefix_take, len_list]
  constructor
  · exact fun h => h.2
  · intro h
    refine ⟨?_, h⟩
    have e := congrArg List.length (beq_iff_eq.mp h)
    rw [List.length_take, List.length_drop, len_list, len_list] at e
    omega
theorem split_skip (x y : Str) (hy : 1 ≤ y.length) : ∀ (n a c : Nat), c - a = n → a ≤ c → c ≤ x.length → (∀ k, a ≤ k → k < c → ¬ StrLaws.At x y x.length k) →
    splitL y.cps.toList (x.cps.toList.drop a) = prepend ((x.cps.toList.drop a).take (c - a)) (splitL y.cps.toList (x.cps.toList.drop c))
  | 0, a, c, hn, hac, hc, _ => by
    have e : a = c := by omega
    subst e
    obtain ⟨p, r, e⟩ := splitL_ne y.cps.toList (x.cps.toList.drop a)
    rw [e, Nat.sub_self, List.take_zero]; rfl
  | n + 1, a, c, hn, hac, hc, hno => by
    have hlt : a < x.cps.toList.length := by rw [len_list]; omega
    have ih := split_skip x y hy n (a + 1) c (by omega) (by omega) hc fun k h1 h2 => hno k (by omega) h2
    have hnp := hno a (Nat.le_refl _) (by omega)
    rw [at_prefix x y hy] at hnp
    rw [List.drop_eq_getElem_cons hlt] at hnp ⊢
    rw [splitL_cons, if_neg hnp, ih]
    obtain ⟨p, r, e⟩ := splitL_ne y.cps.toList (x.cps.toList.drop c)
    have e2 : c - a = (c - (a + 1)) + 1 := by omega
    rw [e, e2, List.take_succ_cons]
    rfl
theorem parts_split (x y : Str) (hy : 1 ≤ y.length) : ∀ (cuts : List Nat) (a f : Nat), StrLaws.ChainG x y x.length a cuts f → (∀ k, f ≤ k → ¬ StrLaws.At x y x.length k) → a ≤ x.length →
    (StrLaws.partsFrom x y.length a cuts).map (·.cps.toList) = splitL y.cps.toList (x.cps.toList.drop a)
  | [], a, f, h, hn, ha => by
    have e : f = a := h
    subst e
    rw [split_skip x y hy (x.length - f) f x.length rfl ha (Nat.le_refl _) fun k h1 _ => hn k h1]
    have e2 : x.cps.toList.drop x.length = [] := List.drop_of_length_le (by rw [len_list]; exact Nat.le_refl _)
    rw [e2, splitL_nil]
    show [(strSub x f x.length).cps.toList] = _
    rw [StrLaws.strSub_toList]
    simp [prepend]
  | c :: r, a, f, h, hn, ha => by
    obtain ⟨h1, h2, h3, h4⟩ := h
    have hcl : c + y.length ≤ x.length := h2.1
    have ih := parts_split x y hy r (c + y.length) f h4 hn hcl
    rw [split_skip x y hy (c - a) a c rfl h1 (by omega) h3]
    have hp := (at_prefix x y hy c).mp h2
    have hlt : c < x.cps.toList.length := by rw [len_list]; omega
    have e3 : splitL y.cps.toList (x.cps.toList.drop c) = [] :: splitL y.cps.toList (x.cps.toList.drop (c + y.length)) := by
      rw [List.drop_eq_getElem_cons hlt] at hp ⊢
      rw [splitL_cons, if_pos hp, List.drop_drop]
      have : c + 1 + (y.cps.toList.length - 1) = c + y.length := by rw [len_list]; omega
      rw [this]
    rw [e3]
    show (strSub x a c).cps.toList :: (StrLaws.partsFrom x y.length (c + y.length) r).map (·.cps.toList) = _
    rw [ih, StrLaws.strSub_toList]
    simp [prepend]
theorem kind_all {x : Str} {B : Nat} (h : x.cps.all (· < B) = true) : ∀ c ∈ x.cps.toList, c < B := by
  rw [← Array.all_toList] at h
  intro c hc
  exact of_decide_eq_true (List.all_eq_true.mp h c hc)
theorem kind_sub {x y : Str} (h : ∀ c ∈ y.cps.toList, c ∈ x.cps.toList) : PySem.Builtin.Str.strKind y ≤ PySem.Builtin.Str.strKind x := by
  have key : ∀ B : Nat, x.cps.all (· < B) = true → y.cps.all (· < B) = true := fun B hB => by
    have := kind_all hB
    rw [← Array.all_toList, List.all_eq_true]
    intro c hc
    exact decide_eq_true (this c (h c hc))
  unfold PySem.Builtin.Str.strKind
  by_cases a1 : x.cps.all (· < 256) = true
  · rw [if_pos a1, if_pos (key _ a1)]; exact Nat.le_refl _
  · rw [if_neg a1]
    by_cases a2 : x.cps.all (· < 65536) = true
    · rw [if_pos a2]
      split
      · omega
      · rw [if_pos (key _ a2)]; exact Nat.le_refl _
    · rw [if_neg a2]
      split
      · omega
      · split <;> omega
theorem split_eq (x y : Str) (hy : 1 ≤ y.length) : (Txt.split x y).map (·.cps.toList) = splitL y.cps.toList x.cps.toList := by
  obtain ⟨f, hG, hn⟩ := StrLaws.occ_tight x y hy
  have none : (∀ k, ¬ StrLaws.At x y x.length k) → [x.cps.toList] = splitL y.cps.toList x.cps.toList := by
    intro h
    have := split_skip x y hy (x.length - 0) 0 x.length rfl (Nat.zero_le _) (Nat.le_refl _) fun k _ _ => h k
    rw [List.drop_zero] at this
    have e2 : x.cps.toList.drop x.length = [] := List.drop_of_length_le (by rw [len_list]; exact Nat.le_refl _)
    rw [this, e2, splitL_nil, Nat.sub_zero, List.take_of_length_le (by rw [len_list]; exact Nat.le_refl _)]
    simp [prepend]
  unfold Txt.split
  split
  · rename_i hc
    refine none fun k hA => ?_
    have hp := (at_prefix x y hy k).mp hA
    rw [Bool.or_eq_true, decide_eq_true_eq, decide_eq_true_eq] at hc
    rcases hc with h | h
    · have := hA.1; omega
    · refine absurd (kind_sub (x := x) (y := y) fun c hc => ?_) (by omega)
      rw [List.isPrefixOf_iff_prefix] at hp
      exact List.mem_of_mem_drop (hp.subset hc)
  · split
    · rename_i he
      have e0 : occurrences x y 0 x.length (x.length + 1) = [] := List.isEmpty_iff.mp he
      rw [e0] at hG
      have ef : f = 0 := hG
      subst ef
      exact none fun k => hn k (Nat.zero_le _)
    · rw [StrLaws.partsBetween_eq]
      have := parts_split x y hy _ 0 f hG hn (Nat.zero_le _)
      rwa [List.drop_zero] at this
end Mine
end PartTextMath
section PartWordMath
open PySem PySem.W PyProof.Rows PySem.Builtin PySem.Builtin.Str
set_option maxRecDepth 100000
namespace Mine
def wordsAcc (sp : Nat → Bool) (cur : List Nat) : List Nat → List (List Nat)
  | [] => if cur = [] then [] else [cur]
  | c :: r => if sp c = true then (if cur = [] then wordsAcc sp [] r else cur :: wordsAcc sp [] r) else wordsAcc sp (cur ++ [c]) r
def subL (x : Str) (p : Nat × Nat) : List Nat := (strSub x p.1 p.2).cps.toList
def openWord (x : Str) (cur : Nat) : Option Nat → List Nat
  | none => []
  | some b => (x.cps.toList.drop b).take (cur - b)
theorem take_snoc (l : List Nat) {b k : Nat} (h : b ≤ k) (hk : k < l.length) : (l.drop b).take (k + 1 - b) = (l.drop b).take (k - b) ++ [l[k]] := by
  have e : k + 1 - b = (k - b) + 1 := by omega
  rw [e, List.take_add_one]
  have h2 : b + (k - b) = k := by omega
  simp [h2, hk]
theorem open_ne {x : Str} {cur b : Nat} (h1 : b < cur) (h2 : cur ≤ x.length) : openWord x cur (some b) ≠ [] := by
  intro e
  have := congrArg List.length e
  simp only [openWord, List.length_take, List.length_drop, len_list, List.length_nil] at this
  omega
theorem sw_words (x : Str) : ∀ (m cur : Nat) (ws : Array (Nat × Nat)) (start : Option Nat), cur + m = x.length → ws.size ≤ cur → (∀ b, start = some b → b < cur) →
    (StrLaws.swEnd x (forIn (List.range' cur m) ((none, ws, start) : StrLaws.SwSt) (StrLaws.swBody x (x.length + 1))).run).map (subL x) = ws.toList.map (subL x) ++ wordsAcc Unicode.isSpace (openWord x cur start) (x.cps.toList.drop cur)
  | 0, cur, ws, start, hm, hs, hb => by
    have hc : cur = x.length := by omega
    have e2 : x.cps.toList.drop cur = [] := List.drop_of_length_le (by rw [len_list, hc]; exact Nat.le_refl _)
    rw [e2]
    cases start with
    | none =>
      show (ws.toList).map (subL x) = _
      simp [wordsAcc, openWord]
    | some b =>
      have hne := open_ne (x := x) (hb b rfl) (by omega)
      show ((ws.push (b, x.length)).toList).map (subL x) = _
      rw [wordsAcc, if_neg hne, Array.toList_push, List.map_append]
      congr 1
      show [subL x (b, x.length)] = _
      unfold subL
      rw [StrLaws.strSub_toList, hc]
      rfl
  | m + 1, cur, ws, start, hm, hs, hb => by
    have hlt : cur < x.cps.toList.length := by rw [len_list]; omega
    have hlt' : cur < x.cps.size := by have : x.cps.size = x.length := rfl; omega
    have hd : x.cps.toList.drop cur = x.cps.toList[cur] :: x.cps.toList.drop (cur + 1) := List.drop_eq_getElem_cons hlt
    have hg : x.cps.getD cur 0 = x.cps.toList[cur] := by simp [Array.getD, hlt']
    rw [List.range'_succ, List.forIn_cons]
    unfold StrLaws.swBody
    have hl : ((ws.size == x.length + 1) = true) ↔ False := by
      constructor
      · intro h; have := beq_iff_eq.mp h; omega
      · exact False.elim
    dsimp only
    rw [if_neg (fun h => hl.mp h), hg, hd]
    cases start with
    | none =>
      cases hsp : Unicode.isSpace x.cps.toList[cur] with
      | true =>
        have ih := sw_words x m (cur + 1) ws none (by omega) (by omega) (fun b e => nomatch e)
        rw [wordsAcc, if_pos hsp]
        exact ih
      | false =>
        have ih := sw_words x m (cur + 1) ws (some cur) (by omega) (by omega) (fun b e => by cases e; omega)
        rw [wordsAcc, if_neg (by rw [hsp]; exact Bool.false_ne_true)]
        have e : openWord x (cur + 1) (some cur) = openWord x cur none ++ [x.cps.toList[cur]] := by
          show (x.cps.toList.drop cur).take (cur + 1 - cur) = _
          rw [take_snoc _ (Nat.le_refl _) hlt, Nat.sub_self, List.take_zero]
          rfl
        rw [e] at ih
        exact ih
    | some b =>
      have hbc := hb b rfl
      have hne := open_ne (x := x) hbc (by omega)
      cases hsp : Unicode.isSpace x.cps.toList[cur] with
      | true =>
        have ih := sw_words x m (cur + 1) (ws.push (b, cur)) none (by omega) (by rw [Array.size_push]; omega) (fun b e => nomatch e)
        rw [wordsAcc, if_pos hsp, if_neg hne]
        rw [Array.toList_push, List.map_append, List.append_assoc] at ih
        have e : subL x (b, cur) = openWord x cur (some b) := by
          unfold subL
          rw [StrLaws.strSub_toList]
          rfl
        rw [← e]
        exact ih
      | false =>
        have ih := sw_words x m (cur + 1) ws (some b) (by omega) (by omega) (fun b' e => by cases e; omega)
        rw [wordsAcc, if_neg (by rw [hsp]; exact Bool.false_ne_true)]
        have e : openWord x (cur + 1) (some b) = openWord x cur (some b) ++ [x.cps.toList[cur]] := take_snoc _ (Nat.le_of_lt hbc) hlt
        rw [e] at ih
        exact ih
theorem words_eq (x : Str) : (Txt.words x).map (·.cps.toList) = wordsAcc Unicode.isSpace [] x.cps.toList := by
  have h := sw_words x x.length 0 #[] none (by omega) (by simp) (fun b e => nomatch e)
  rw [← StrLaws.sw_eq, List.drop_zero] at h
  have h' : (spaceWords x (x.length + 1)).map (subL x) = wordsAcc Unicode.isSpace [] x.cps.toList := by simpa [openWord] using h
  unfold Txt.words
  split
  · rename_i he
    rw [beq_iff_eq.mp he] at h'
    rw [← h']
    show [x.cps.toList] = [subL x (0, x.length)]
    unfold subL
    rw [StrLaws.strSub_toList, List.drop_zero, Nat.sub_zero, List.take_of_length_le (by rw [len_list]; exact Nat.le_refl _)]
  · rw [← h']
    unfold PySem.wordsOf
    rw [List.map_map]
    rfl
theorem wordsAcc_congr {sp sp' : Nat → Bool} : ∀ (l cur : List Nat), (∀ c ∈ l, sp c = sp' c) → wordsAcc sp cur l = wordsAcc sp' cur l
  | [], _, _ => rfl
  | c :: r, cur, h => by
    have h1 := h c (List.mem_cons_self ..)
    have h2 := fun cur => wordsAcc_congr r cur fun d hd => h d (List.mem_cons_of_mem _ hd)
    rw [wordsAcc, wordsAcc, h1, h2, h2]
theorem map_list_inj : ∀ {a b : List Str}, a.map (·.cps.toList) = b.map (·.cps.toList) → a = b
  | [], [], _ => rfl
  | [], _ :: _, h => by cases h
  | _ :: _, [], h => by cases h
  | x :: a, y :: b, h => by
    have h1 := (List.cons.inj h).1
    have h2 := (List.cons.inj h).2
    rw [str_ext h1, map_list_inj h2]
/-- every sign of a word is a sign of the text and not white -/
theorem wordsAcc_mem {sp : Nat → Bool} : ∀ (l cur : List Nat), (∀ c ∈ cur, sp c = false) → ∀ w ∈ wordsAcc sp cur l, w ≠ [] ∧ ∀ c ∈ w, sp c = false ∧ (c ∈ cur ∨ c ∈ l)
  | [], cur, hc, w, hw => by
    unfold wordsAcc at hw
    split at hw
    · cases hw
    · rw [List.mem_singleton.mp hw]
      exact ⟨by assumption, fun c h => ⟨hc c h, .inl h⟩⟩
  | d :: r, cur, hc, w, hw => by
    unfold wordsAcc at hw
    have up : ∀ w ∈ wordsAcc sp [] r, w ≠ [] ∧ ∀ c ∈ w, sp c = false ∧ (c ∈ cur ∨ c ∈ d :: r) := fun w hw => by
      have := wordsAcc_mem r [] (fun c h => nomatch h) w hw
      refine ⟨this.1, fun c h => ⟨(this.2 c h).1, ?_⟩⟩
      rcases (this.2 c h).2 with h1 | h1
      · cases h1
      · exact .inr (List.mem_cons_of_mem _ h1)
    split at hw
    · split at hw
      · exact up w hw
      · rename_i hne
        rcases List.mem_cons.mp hw with rfl | hw
        · exact ⟨hne, fun c h => ⟨hc c h, .inl h⟩⟩
        · exact up w hw
    · rename_i hd
      have hd' : sp d = false := by simpa using hd
      have := wordsAcc_mem r (cur ++ [d]) (fun c h => by
        rcases List.mem_append.mp h with h | h
        · exact hc c h
        · rw [List.mem_singleton.mp h]; exact hd') w hw
      refine ⟨this.1, fun c h => ⟨(this.2 c h).1, ?_⟩⟩
      rcases (this.2 c h).2 with h1 | h1
      · rcases List.mem_append.mp h1 with h2 | h2
        · exact .inl h2
        · rw [List.mem_singleton.mp h2]; exact .inr (List.mem_cons_self ..)
      · exact .inr (List.mem_cons_of_mem _ h1)
end Mine
end PartWordMath
section PartCapMath
open PySem PySem.W PyProof.Rows PySem.Builtin PySem.Builtin.Str
set_option maxRecDepth 100000
namespace Mine
def joinL (m : List Nat) : List (List Nat) → List Nat
  | [] => []
  | [p] => p
  | p :: q :: r => p ++ m ++ joinL m (q :: r)
theorem join_list (sep : Str) : ∀ ss : List Str, (Txt.join sep ss).cps.toList = joinL sep.cps.toList (ss.map (·.cps.toList)) := by
  intro ss
  show (glued sep ss).cps.toList = _
  rw [StrLaws.glued_eq_join]
  induction ss with
  | nil => rfl
  | cons p r ih =>
    cases r with
    | nil => rfl
    | cons q r =>
      show (p ++ sep ++ Str.join sep (q :: r)).cps.toList = p.cps.toList ++ sep.cps.toList ++ joinL _ _
      rw [Str.cps_append, Str.cps_append, Array.toList_append, Array.toList_append, ih]
      rfl
def conv (fresh : Bool) (c : Nat) : Nat := if fresh = true ∧ 97 ≤ c ∧ c ≤ 122 then c - 32 else if fresh = false ∧ 65 ≤ c ∧ c ≤ 90 then c + 32 else c
def capF (fresh : Bool) : List Nat → List Nat
  | [] => []
  | c :: r => conv fresh c :: r.map (conv false)
theorem title_ascii : ∀ c, c < 128 → Unicode.titleOf c = [conv true c] := by decide +kernel
theorem lower_ascii : ∀ c, c < 128 → Unicode.lowerOf c = [conv false c] := by decide +kernel
theorem upper_ascii : ∀ c, c < 128 → Unicode.upperOf c = [conv true c] := by decide +kernel
theorem space_ascii : ∀ c, c < 128 → Unicode.isSpace c = (c == 32 || (decide (9 ≤ c) && decide (c ≤ 13)) || (decide (28 ≤ c) && decide (c ≤ 31))) := by decide +kernel
theorem lowerAt_ascii {s : Array Nat} {i : Nat} (hi : i < s.size) (h : s[i] < 128) : Unicode.lowerAt s i = [conv false s[i]] := by
  unfold Unicode.lowerAt
  rw [Array.getElem?_eq_getElem hi]
  dsimp only
  have e : (s[i] == 0x3A3) = false := by rw [beq_eq_false_iff_ne]; omega
  rw [e, Bool.false_and, if_neg Bool.false_ne_true]
  exact lower_ascii _ h
theorem flatten_single (l : List Nat) (f : Nat → Nat → Nat) : ∀ (k : Nat), ((l.mapIdx fun i c => (#[f (i + k) c] : Array Nat)).map (·.toList)).flatten = l.mapIdx fun i c => f (i + k) c := by
  induction l with
  | nil => intro k; rfl
  | cons c r ih =>
    intro k
    rw [List.mapIdx_cons, List.mapIdx_cons, List.map_cons, List.flatten_cons]
    have := ih (k + 1)
    have e : (fun i c => (#[f (i + 1 + k) c] : Array Nat)) = fun i c => #[f (i + (k + 1)) c] := by funext i c; rw [Nat.add_right_comm, Nat.add_assoc]
    have e2 : (fun i c => f (i + 1 + k) c) = fun i c => f (i + (k + 1)) c := by funext i c; rw [Nat.add_right_comm, Nat.add_assoc]
    rw [e, e2, this]
    rfl
theorem placed_list (x : Str) (g : Nat → Nat → List Nat) (f : Nat → Nat → Nat) (h : ∀ i (hi : i < x.cps.size), g i x.cps[i] = [f i x.cps[i]]) : (placed x g).toList = x.cps.toList.mapIdx f := by
  have e : (x.cps.mapIdx fun i c => (g i c).toArray) = x.cps.mapIdx fun i c => #[f i c] := by
    refine Array.ext (by simp) fun i h1 h2 => ?_
    have hi : i < x.cps.size := by simpa using h1
    simp only [Array.getElem_mapIdx]
    rw [h i hi]
  unfold placed
  rw [e]
  have h1 := flatten_single x.cps.toList f 0
  simp only [Nat.add_zero] at h1
  rw [← h1]
  rw [Array.toList_flatten]
  simp
theorem mapIdx_cap (c : Nat) (r : List Nat) : (c :: r).mapIdx (fun i c => if i = 0 then conv true c else conv false c) = capF true (c :: r) := by
  rw [List.mapIdx_cons]
  show _ = conv true c :: r.map (conv false)
  simp only [if_true]
  congr 1
  have : (fun i c => if i + 1 = 0 then conv true c else conv false c) = fun _ c => conv false c := by funext i c; rw [if_neg (by omega)]
  rw [this]
  apply List.ext_getElem (by simp)
  intro i h1 h2
  simp
theorem cap_ascii {x : Str} (h : Ascii x) : (Txt.capitalize x).cps.toList = capF true x.cps.toList := by
  unfold Txt.capitalize
  split
  · rename_i he
    have e : x.cps.toList = [] := by
      apply List.eq_nil_of_length_eq_zero
      rw [len_list]; exact beq_iff_eq.mp he
    rw [e]; rfl
  · rename_i he
    unfold Txt.capitalized
    show (placed x _).toList = _
    rw [placed_list x _ (fun i c => if i = 0 then conv true c else conv false c)]
    · cases hx : x.cps.toList with
      | nil => rfl
      | cons c r => exact mapIdx_cap c r
    · intro i hi
      have hc : x.cps[i] < 128 := h _ (Array.getElem_mem hi)
      by_cases h0 : i = 0
      · subst h0; simp only [beq_self_eq_true, if_true]; exact title_ascii _ hc
      · have e0 : (i == 0) = false := by rw [beq_eq_false_iff_ne]; exact h0
        simp only [e0, Bool.false_eq_true, if_false, if_neg h0]
        exact lowerAt_ascii hi hc
theorem ascii_list {x : Str} : Ascii x ↔ ∀ c ∈ x.cps.toList, c < 128 := by
  unfold Ascii
  constructor
  · intro h c hc; exact h c (Array.mem_toList_iff.mp hc)
  · intro h c hc; exact h c (Array.mem_toList_iff.mpr hc)
theorem caps_ascii : ∀ {ss : List Str}, (∀ s ∈ ss, Ascii s) → (ss.map Txt.capitalize).map (·.cps.toList) = (ss.map (·.cps.toList)).map (capF true)
  | [], _ => rfl
  | s :: r, h => by
    have := caps_ascii fun s hs => h s (List.mem_cons_of_mem _ hs)
    simp only [List.map_cons]
    rw [cap_ascii (h s (List.mem_cons_self ..))]
    congr 1
/-- the signs of the parts are signs of the text -/
theorem splitL_mem (m : List Nat) (l : List Nat) : ∀ p ∈ splitL m l, ∀ c ∈ p, c ∈ l := by
  induction l using splitL.induct m with
  | case1 =>
    intro p hp c hc
    rw [splitL_nil] at hp
    rw [List.mem_singleton.mp hp] at hc
    cases hc
  | case2 d r hpre ih =>
    intro p hp c hc
    rw [splitL_cons, if_pos hpre] at hp
    rcases List.mem_cons.mp hp with rfl | hp
    · cases hc
    · exact List.mem_cons_of_mem _ (List.mem_of_mem_drop (ih p hp c hc))
  | case3 d r hpre ih =>
    intro p hp c hc
    rw [splitL_cons, if_neg hpre] at hp
    obtain ⟨q, t, e⟩ := splitL_ne m r
    rw [e] at hp ih
    rcases List.mem_cons.mp hp with rfl | hp
    · rcases List.mem_cons.mp hc with rfl | hc
      · exact List.mem_cons_self ..
      · exact List.mem_cons_of_mem _ (ih q (List.mem_cons_self ..) c hc)
    · exact List.mem_cons_of_mem _ (ih p (List.mem_cons_of_mem _ hp) c hc)
theorem ascii_parts {whole mark : Str} (hA : Ascii whole) (hm : 1 ≤ mark.length) : ∀ s ∈ Txt.split whole mark, Ascii s := by
  intro s hs
  rw [ascii_list] at hA ⊢
  intro c hc
  refine hA c (splitL_mem mark.cps.toList _ s.cps.toList ?_ c hc)
  rw [← split_eq whole mark hm]
  exact List.mem_map_of_mem hs
theorem capw_list {whole mark : Str} (hA : Ascii whole) (hm : 1 ≤ mark.length) : (Txt.join mark ((Txt.split whole mark).map Txt.capitalize)).cps.toList = joinL mark.cps.toList ((splitL mark.cps.toList whole.cps.toList).map (capF true)) := by
  rw [join_list, caps_ascii (ascii_parts hA hm), split_eq whole mark hm]
end Mine
end PartCapMath
section PartSplitL
open PySem PySem.W PyProof.Rows
set_option maxRecDepth 100000
namespace Mine
def readL (m : List Nat) (fresh : Bool) : List Nat → List Nat
  | [] => []
  | c :: r => if m.isPrefixOf (c :: r) = true then m ++ readL m true (r.drop (m.length - 1)) else conv fresh c :: readL m false r
termination_by l => l.length
decreasing_by
  · simp only [List.length_drop, List.length_cons]; omega
  · simp
end Mine
namespace Mine
theorem readL_cons (m : List Nat) (fresh : Bool) (c : Nat) (r : List Nat) : readL m fresh (c :: r) = if m.isPrefixOf (c :: r) = true then m ++ readL m true (r.drop (m.length - 1)) else conv fresh c :: readL m false r := by
  rw [readL]
theorem rd_mark {text mark told : Str} {fresh : Bool} {k : Nat} {R : List Nat} (hm : 1 ≤ mark.length) (hR : told.cps.toList ++ readL mark.cps.toList fresh (text.cps.toList.drop k) = R) (hk : (k : Int) < text.length)
    (he : (Txt.slice text (some (k : Int)) (some ((k : Int) + (mark.length : Int))) == mark) = true) : (told ++ mark).cps.toList ++ readL mark.cps.toList true (text.cps.toList.drop (k + mark.length)) = R := by
  have hk' : k < text.length := by omega
  rw [slice_prefix (Nat.le_of_lt hk')] at he
  rw [← hR, item_cps hk', readL_cons, ← item_cps hk', if_pos he, List.drop_drop]
  have e : k + 1 + (mark.cps.toList.length - 1) = k + mark.length := by
    have : mark.cps.toList.length = mark.length := by simp [Str.length]
    omega
  rw [e, Str.cps_append, Array.toList_append, List.append_assoc]
theorem rd_other {text mark told y : Str} {fresh : Bool} {k : Nat} {R : List Nat} (hm : 1 ≤ mark.length) (hR : told.cps.toList ++ readL mark.cps.toList fresh (text.cps.toList.drop k) = R) (hk : (k : Int) < text.length)
    (he : (Txt.slice text (some (k : Int)) (some ((k : Int) + (mark.length : Int))) == mark) = false) (hy : y.cps.toList = [conv fresh ((Txt.item text (k : Int)).cps.getD 0 0)]) : (told ++ y).cps.toList ++ readL mark.cps.toList false (text.cps.toList.drop (k + 1)) = R := by
  have hk' : k < text.length := by omega
  rw [slice_prefix (Nat.le_of_lt hk')] at he
  rw [← hR, item_cps hk', readL_cons, ← item_cps hk', if_neg (by rw [he]; exact Bool.false_ne_true), Str.cps_append, Array.toList_append, hy, List.append_assoc]
  rfl
theorem rd_done {text told : Str} {m : List Nat} {fresh : Bool} {k : Nat} {R : List Nat} (hR : told.cps.toList ++ readL m fresh (text.cps.toList.drop k) = R) (hk : ¬ (k : Int) < text.length) : told.cps.toList = R := by
  have e : text.cps.toList.drop k = [] := List.drop_of_length_le (by
    have : text.cps.toList.length = text.length := by simp [Str.length]
    omega)
  rw [e, readL, List.append_nil] at hR
  exact hR
theorem conv_a {fresh : Bool} {c : Nat} (h : fresh = true) (h1 : (97 : Int) ≤ (c : Int)) (h2 : (c : Int) ≤ 122) : ((c : Int) - 32).toNat = conv fresh c := by
  unfold conv; rw [if_pos ⟨h, by omega, by omega⟩]; omega
theorem conv_b {fresh : Bool} {c : Nat} (h : fresh = true) (h2 : ¬ (c : Int) ≤ 122) : (c : Int).toNat = conv fresh c := by
  subst h; unfold conv; rw [if_neg (by omega), if_neg (by simp)]; omega
theorem conv_c {fresh : Bool} {c : Nat} (h : fresh = true) (h2 : ¬ (97 : Int) ≤ (c : Int)) : (c : Int).toNat = conv fresh c := by
  subst h; unfold conv; rw [if_neg (by omega), if_neg (by simp)]; omega
theorem conv_d {fresh : Bool} {c : Nat} (h : fresh = false) (h1 : (65 : Int) ≤ (c : Int)) (h2 : (c : Int) ≤ 90) : ((c : Int) + 32).toNat = conv fresh c := by
  subst h; unfold conv; rw [if_neg (by simp), if_pos ⟨rfl, by omega, by omega⟩]; omega
theorem conv_e {fresh : Bool} {c : Nat} (h : fresh = false) (h2 : ¬ (c : Int) ≤ 90) : (c : Int).toNat = conv fresh c := by
  subst h; unfold conv; rw [if_neg (by simp), if_neg (by omega)]; omega
theorem conv_f {fresh : Bool} {c : Nat} (h : fresh = false) (h2 : ¬ (65 : Int) ≤ (c : Int)) : (c : Int).toNat = conv fresh c := by
  subst h; unfold conv; rw [if_neg (by simp), if_neg (by omega)]; omega
def isWhite1 (c : Nat) : Bool := c == 32 || (9 ≤ c && c ≤ 13) || (28 ≤ c && c ≤ 31)
def rawStep (sp : Nat → Bool) (W : List (List Nat) × List Nat) (c : Nat) : List (List Nat) × List Nat := if sp c then (W.1 ++ [W.2], []) else (W.1, W.2 ++ [c])

theorem raw_snoc {sp : Nat → Bool} {pre : List Int} {c : Nat} {z : List (List Nat) × List Nat} : ((pre ++ [(c : Int)]).map Int.toNat).foldl (rawStep sp) z = rawStep sp ((pre.map Int.toNat).foldl (rawStep sp) z) c := by
  rw [List.map_append, List.foldl_append]; rfl
theorem raw_white {pre : List Int} {c : Nat} {wss : List Str} {last : Str} (hw : isWhite1 c = true) (hR : (wss.map (·.cps.toList), last.cps.toList) = (pre.map Int.toNat).foldl (rawStep isWhite1) ([], [])) :
    ((wss ++ [last]).map (·.cps.toList), (Str.ofString "").cps.toList) = ((pre ++ [(c : Int)]).map Int.toNat).foldl (rawStep isWhite1) ([], []) := by
  rw [raw_snoc, ← hR]
  have e : (Str.ofString "").cps.toList = [] := by decide +kernel
  simp [rawStep, hw, e]
theorem raw_other {pre : List Int} {c : Nat} {wss : List Str} {last : Str} (hw : isWhite1 c = false) (hR : (wss.map (·.cps.toList), last.cps.toList) = (pre.map Int.toNat).foldl (rawStep isWhite1) ([], [])) :
    (wss.map (·.cps.toList), (last ++ ⟨#[c]⟩).cps.toList) = ((pre ++ [(c : Int)]).map Int.toNat).foldl (rawStep isWhite1) ([], []) := by
  rw [raw_snoc, ← hR, Str.cps_append, Array.toList_append]
  simp [rawStep, hw]


def nonEmpty (l : List Nat) : Bool := !l.isEmpty
theorem raw_words (sp : Nat → Bool) : ∀ (l : List Nat) (A : List (List Nat)) (cur : List Nat), ((l.foldl (rawStep sp) (A, cur)).1 ++ [(l.foldl (rawStep sp) (A, cur)).2]).filter nonEmpty = A.filter nonEmpty ++ wordsAcc sp cur l
  | [], A, cur => by
    simp only [List.foldl_nil, wordsAcc, List.filter_append]
    congr 1
    cases cur <;> rfl
  | c :: r, A, cur => by
    rw [List.foldl_cons]
    unfold rawStep
    rw [wordsAcc]
    cases hc : sp c with
    | true =>
      simp only [if_true]
      have := raw_words sp r (A ++ [cur]) []
      rw [show (fun W c => if sp c = true then (W.1 ++ [W.2], []) else (W.1, W.2 ++ [c]) : List (List Nat) × List Nat → Nat → List (List Nat) × List Nat) = rawStep sp from rfl]
      rw [this, List.filter_append, List.append_assoc]
      congr 1
      cases cur <;> rfl
    | false =>
      simp only [Bool.false_eq_true, if_false]
      exact raw_words sp r A (cur ++ [c])
theorem codes_nat (x : Str) : (KStt.codes x).map Int.toNat = x.cps.toList := by
  unfold KStt.codes
  rw [List.map_map]
  exact (List.map_congr_left (g := _root_.id) fun c _ => Int.toNat_natCast c).trans (List.map_id _)
theorem ne_empty (a : Str) : (a != Str.ofString "") = nonEmpty a.cps.toList := by
  have e : Str.ofString "" = ⟨#[]⟩ := by decide +kernel
  rw [e]
  obtain ⟨⟨l⟩⟩ := a
  cases l with
  | nil => decide
  | cons c r =>
    show (_ != _) = true
    rw [bne_iff_ne]
    intro h
    have := congrArg (fun s : Str => s.cps.size) h
    simp at this
theorem filter_words {wss : List Str} {last : Str} {text : Str} {sp : Nat → Bool} (hR : (wss.map (·.cps.toList), last.cps.toList) = ((KStt.codes text).map Int.toNat).foldl (rawStep sp) ([], [])) :
    (((wss ++ [last]).filter fun a => a != Str.ofString "").map fun a => a).map (·.cps.toList) = wordsAcc sp [] text.cps.toList := by
  have h := raw_words sp text.cps.toList [] []
  rw [codes_nat] at hR
  rw [← hR] at h
  rw [List.map_id', List.filter_nil, List.nil_append] at *
  rw [← h]
  have e : (wss.map (·.cps.toList)) ++ [last.cps.toList] = (wss ++ [last]).map (·.cps.toList) := by simp
  show _ = List.filter nonEmpty (wss.map (·.cps.toList) ++ [last.cps.toList])
  rw [e, List.filter_map]
  congr 1
  apply List.filter_congr
  intro a _
  exact ne_empty a
end Mine
end PartSplitL
section PartPartsL
open PySem PySem.W PyProof.Rows
set_option maxRecDepth 100000
namespace Mine
structure PtSt where
  ws : List Value
  wss : List Str
  last : Str
  tl : Tok
  n : Nat
  k : Nat
  tk : Tok
def PtInv (text mark : Str) (c : PtSt) : Prop :=
  c.wss.map (·.cps.toList) ++ prepend c.last.cps.toList (splitL mark.cps.toList (text.cps.toList.drop c.k)) = splitL mark.cps.toList text.cps.toList ∧ c.k ≤ text.length ∧ c.wss.length ≤ c.k ∧ c.last.length ≤ c.k
theorem prepend_nil {m l : List Nat} : prepend [] (splitL m l) = splitL m l := by
  obtain ⟨p, r, e⟩ := splitL_ne m l
  rw [e]; rfl
theorem pt_start (text mark : Str) (t1 t2 : Tok) (n : Nat) : PtInv text mark ⟨[], [], Str.ofString "", t1, n, 0, t2⟩ := by
  refine ⟨?_, Nat.zero_le _, Nat.zero_le _, Nat.zero_le _⟩
  have e : (Str.ofString "").cps.toList = [] := by decide +kernel
  dsimp only
  rw [e, List.drop_zero, prepend_nil]; rfl
theorem pt_mark {text mark : Str} {ws ws' : List Value} {wss : List Str} {last : Str} {tl tl' : Tok} {n n' k : Nat} {tk tk' : Tok} (hm : 1 ≤ mark.length) (h : PtInv text mark ⟨ws, wss, last, tl, n, k, tk⟩) (hk : (k : Int) < text.length)
    (he : (Txt.slice text (some (k : Int)) (some ((k : Int) + (mark.length : Int))) == mark) = true) : PtInv text mark ⟨ws', wss ++ [last], Str.ofString "", tl', n', k + mark.length, tk'⟩ := by
  obtain ⟨h1, h2, h3, h4⟩ := h
  dsimp only at h1 h2 h3 h4
  have hk' : k < text.length := by omega
  have hl := slice_len hk he
  rw [slice_prefix (Nat.le_of_lt hk')] at he
  refine ⟨?_, hl, ?_, Nat.zero_le _⟩
  · have e : (Str.ofString "").cps.toList = [] := by decide +kernel
    dsimp only
    rw [← h1, e, prepend_nil, item_cps hk', splitL_cons, ← item_cps hk', if_pos he, List.drop_drop, List.map_append, List.append_assoc]
    have e2 : k + 1 + (mark.cps.toList.length - 1) = k + mark.length := by rw [len_list]; omega
    rw [e2]
    simp [prepend]
  · show (wss ++ [last]).length ≤ k + mark.length
    rw [List.length_append, List.length_singleton]; omega
theorem pt_other {text mark : Str} {ws ws' : List Value} {wss : List Str} {last : Str} {tl tl' : Tok} {n n' k : Nat} {tk tk' : Tok} (h : PtInv text mark ⟨ws, wss, last, tl, n, k, tk⟩) (hk : (k : Int) < text.length)
    (he : (Txt.slice text (some (k : Int)) (some ((k : Int) + (mark.length : Int))) == mark) = false) : PtInv text mark ⟨ws', wss, last ++ Txt.item text (k : Int), tl', n', k + 1, tk'⟩ := by
  obtain ⟨h1, h2, h3, h4⟩ := h
  dsimp only at h1 h2 h3 h4
  have hk' : k < text.length := by omega
  rw [slice_prefix (Nat.le_of_lt hk')] at he
  refine ⟨?_, by dsimp only; omega, by dsimp only; omega, ?_⟩
  · dsimp only
    rw [← h1, item_cps hk', splitL_cons, ← item_cps hk', if_neg (by rw [he]; exact Bool.false_ne_true), Str.cps_append, Array.toList_append]
    have e : (Txt.item text (k : Int)).cps.toList = [(Txt.item text (k : Int)).cps.getD 0 0] := by rw [item_at hk', item_getD hk']
    rw [e]
    obtain ⟨p, r, e2⟩ := splitL_ne mark.cps.toList (text.cps.toList.drop (k + 1))
    rw [e2]
    simp [prepend, consHead]
  · show (last ++ Txt.item text (k : Int)).length ≤ k + 1
    rw [Str.length_append]
    have := item_len text (k : Int)
    omega
theorem pt_done {text mark : Str} {ws : List Value} {wss : List Str} {last : Str} {tl : Tok} {n k : Nat} {tk : Tok} (h : PtInv text mark ⟨ws, wss, last, tl, n, k, tk⟩) (hk : ¬ (k : Int) < text.length) : (wss ++ [last]).map (·.cps.toList) = splitL mark.cps.toList text.cps.toList := by
  obtain ⟨h1, h2, h3, h4⟩ := h
  dsimp only at h1 h2
  have e : text.cps.toList.drop k = [] := List.drop_of_length_le (by rw [len_list]; omega)
  rw [e, splitL_nil] at h1
  rw [← h1, List.map_append]
  simp [prepend]
theorem pt_split {text mark : Str} {ss : List Str} (hm : 1 ≤ mark.length) (h : ss.map (·.cps.toList) = splitL mark.cps.toList text.cps.toList) : ss = Txt.split text mark := by
  apply map_list_inj
  rw [h, split_eq text mark hm]
end Mine
end PartPartsL
section PartCompRules2
open PySem PySem.W PyProof.Rows
set_option maxRecDepth 100000
namespace Mine
section
variable {prog : Program} {w : World} {A : Around} {h₀ : Heap} {L : Addr} {m : Str → Option Value} {env : Env} {elt : Expr} {x : Str} {scope : Scope} {cl : List (Str × Addr)} {s : Shared} {S : List (Addr × Obj) → Prop} {P : Nat → Value → Prop} {Fin : List Value → List (Addr × Obj) → Prop} {news : List (Addr × Obj)}
def ElP (R : Str → Prop) (news : List (Addr × Obj)) (y : Value) (news' : List (Addr × Obj)) : Prop := news' = news ∧ ∃ (r : Str) (t : Tok), y = .str r t ∧ R r
/-- a comprehension whose elements are texts of which one thing is known -/
theorem comp_restP {n : Nat} (R : Str → Prop)
    (turn : ∀ i v I oI C oC D m₂ ys h tk (E' : Value → Shared → Prop), i < n → P i v → LCg.NsObj oC m₂ → m₂ x = some v → Fr h₀ L h m → News h₀ L h ((I, oI) :: (C, oC) :: (D, LCg.lst ys) :: news) → LCg.Off3 I C D news → ((@Ne Nat I C) ∧ (@Ne Nat I D) ∧ (@Ne Nat C D)) →
      wpAny (model prog w) A (eval elt (compEnvC scope cl C env)) (LCg.CompEnd h₀ L m { s with heap := h, toks := tk } I oI C oC D (LCg.lst ys) S (ElP R news)) E' { s with heap := h, toks := tk })
    (fin : ∀ ys ss, StrsAre ys ss → ss.length = n → (∀ r ∈ ss, R r) → Fin ys news) : LCg.CompRest prog w A h₀ L m env elt x scope cl s S P Fin n 0 [] news :=
  comp_by (fun i ys => ∃ ss, StrsAre ys ss ∧ ss.length = i ∧ ∀ r ∈ ss, R r) (fun ys ⟨ss, a, b, c⟩ => fin ys ss a b c) (fun i ys v I oI C oC D m₂ h tk E' hi q hv hC hx F N off ne => by
    obtain ⟨ss, a, b, c⟩ := q
    refine wpAny_mono (turn i v I oI C oC D m₂ ys h tk E' hi hv hC hx F N off ne) (fun y _ z => end_to z fun nw el => ⟨el.1, ?_⟩) fun _ _ z => z
    obtain ⟨_, r, t, rfl, hR⟩ := el
    refine ⟨ss ++ [r], kct_snoc a, by rw [List.length_append, b]; rfl, fun r' hr' => ?_⟩
    rcases List.mem_append.mp hr' with k | k
    · exact c r' k
    · exact List.mem_singleton.mp k ▸ hR) n 0 [] (Nat.zero_add n) ⟨[], .nil, rfl, fun r k => nomatch k⟩
end
theorem join_signs : ∀ {ss : List Str}, (∀ r ∈ ss, Ascii r ∧ r.length = 1) → (∀ c ∈ joinL [] (ss.map (·.cps.toList)), c < 128) ∧ (joinL [] (ss.map (·.cps.toList))).length = ss.length
  | [], _ => ⟨fun c h => (by cases h), rfl⟩
  | [p], h => by
    obtain ⟨h1, h2⟩ := h p (List.mem_cons_self ..)
    exact ⟨ascii_list.mp h1, by show p.cps.toList.length = 1; rw [len_list, h2]⟩
  | p :: q :: r, h => by
    obtain ⟨h1, h2⟩ := h p (List.mem_cons_self ..)
    obtain ⟨i1, i2⟩ := join_signs (ss := q :: r) fun s hs => h s (List.mem_cons_of_mem _ hs)
    have e : joinL [] ((p :: q :: r).map (·.cps.toList)) = p.cps.toList ++ joinL [] ((q :: r).map (·.cps.toList)) := by
      show p.cps.toList ++ [] ++ joinL [] ((q :: r).map (·.cps.toList)) = _
      rw [List.append_nil]
    rw [e]
    refine ⟨fun c hc => ?_, ?_⟩
    · rcases List.mem_append.mp hc with hc | hc
      · exact ascii_list.mp h1 c hc
      · exact i1 c hc
    · rw [List.length_append, i2, len_list, h2, List.length_cons (a := p)]; omega
theorem join_empty {ss : List Str} (h : ∀ r ∈ ss, Ascii r ∧ r.length = 1) : Ascii (Txt.join (Str.ofString "") ss) ∧ (Txt.join (Str.ofString "") ss).length = ss.length := by
  have e : (Str.ofString "").cps.toList = [] := by decide +kernel
  have := join_signs h
  rw [ascii_list, ← len_list, join_list, e]
  exact this
theorem joinOk_signs {ss : List Str} (h : ∀ r ∈ ss, Ascii r ∧ r.length = 1) (hl : ss.length ≤ 1000) : JoinOk (Str.ofString "") ss = true := by
  refine joinOk_of ?_
  have e0 : (Str.ofString "").length = 0 := by decide +kernel
  have : (ss.map (·.length)).sum = ss.length := by
    clear hl
    induction ss with
    | nil => rfl
    | cons p r ih =>
      rw [List.map_cons, List.sum_cons, ih fun s hs => h s (List.mem_cons_of_mem _ hs), (h p (List.mem_cons_self ..)).2, List.length_cons]; omega
  rw [this, e0]; omega
end Mine
end PartCompRules2
section PartL2Head
open PySem PySem.W PyProof.Rows
set_option maxRecDepth 100000
set_option maxHeartbeats 8000000
namespace Mine
open_top hd02 for PySem.Challenge.rw_dn0181_02
end Mine
end PartL2Head
section PartL2Cap
open PySem PySem.W PyProof.Rows
set_option maxRecDepth 100000
set_option maxHeartbeats 8000000
namespace Mine
local macro_rules | `(tactic| cell_enter) => `(tactic| (refine' code_def ?k1 ?k2 ?k3 ?k4 ?k5 ?kA ?kF ?kK ?k6 ?k7 ?k8 ?k9 ?kB ?_ ?c2 ?c3 ?c4 ?c5; (case kA => exact rfl); (case kF => exact rfl); (case kK => assumption); (case k1 => k_asm); (case k2 => k_asm); (case k3 => k_asm); (case k4 => k_asm); (case k5 => k_asm); (case k6 => k_is); (case k7 => k_is); (case k8 => ktr_room); (case k9 => first | exact BindsTo.of_eq rfl | exact binds_K (by k_in) rfl (by k_is) rfl rfl rfl); (case c5 => decide); (case kB => exact locs rfl); (case c2 => exact rfl); (case c3 => exact rfl); (case c4 => exact rfl); k_whole; intro g' L' h' FG' F' N' B' X' T'; (try dsimp only); (try k_lift B'); (try k_fold)))
local macro_rules | `(tactic| walk_at "getAttr") => `(tactic| (k_dflt (refine' attr_type ?F ?X ?t ?s ?e ?h ?_; (case F => k_asm); (case X => k_asm); (case t => decide +kernel); (case s => decide +kernel); (case e => k_is); (case h => k_handed); k_whole)))
local macro_rules | `(tactic| walk_at "call type:map") => `(tactic| (refine call_mapN (by k_asm) (by k_asm) (News.isList (by k_asm) (by k_mem)) ?_; intro mH mI mT mZ mF mN m1 m2 m3))

theorem sum_cap : ∀ ss : List Str, ((ss.map Txt.capitalize).map (·.length)).sum ≤ 3 * (ss.map (·.length)).sum
  | [] => Nat.le_refl _
  | a :: r => by
    have h := sum_cap r
    have ha := len_capitalize a
    simp only [List.map_cons, List.sum_cons]
    omega
theorem joinOk_cap {sep : Str} {ss : List Str} {n : Nat} (hW : (ss.map (·.length)).sum + ss.length ≤ n + 1) (hn : n ≤ 4000) (hs : sep.length ≤ 4000) : JoinOk sep (ss.map Txt.capitalize) = true := by
  have h1 := sum_cap ss
  refine joinOk_of ?_
  rw [List.length_map]
  have h2 : ss.length * sep.length ≤ 4001 * 4000 := Nat.mul_le_mul (by omega) hs
  omega

section
variable {w : World} {loose : List Str} {mean : ExcName → Option Value} {mg mb : Str → Option Value} {gd : Option (List Code)} {cn : Str} {cs : Scope} {a : Addr} {ccd : Value} {cl : List (Str × Addr)} {outer : List Env} {A₀ : Around} {base h₀ : Heap} {L : Addr} {m : Str → Option Value} {news : List (Addr × Obj)} {s : Shared} {Q E : Value → Shared → Prop}
   (B : Below A₀ base outer h₀) (F : Fr h₀ L s.heap m) (X : (hd02.heap_39 w.params).In h₀) (N : News h₀ L s.heap news) (T : Top hd02.view_39 loose mean mg mb h₀) (hk : cs.kind = .function)
include B F X N T hk

section
local macro_rules | `(tactic| walk_at "truthy str") => `(tactic| (refine KXt.truthy_pos (K := 4000) (by assumption) (by assumption) (by decide) ?_; intro _))
local macro_rules | `(tactic| walk_at "call builtin:str.split") => `(tactic| (refine KSpl.split1 (by k_asm) (by k_asm) (by assumption) ?_ (by assumption); intro lD lV hS kS hSp hAre lF lN lLt))
theorem cap_mark (text mark : Str) (t1 t2 : Tok) (hm1 : 1 ≤ mark.length) (hm2 : mark.length ≤ 4000) (ht : text.length ≤ 4000)
   (hret : ∀ t h' tk', Fr h₀ L h' m → News h₀ L h' news → Q (.str (Txt.join mark ((Txt.split text mark).map Txt.capitalize)) t) { s with heap := h', toks := tk' }) :
   wpAny (model PySem.Challenge.rw_dn0181_02.row.prog w) (ktrTop 302 7 gd cn cs L a ccd cl outer) (call (.ref 22) [.str text t1, .str mark t2]) Q E s := by
  have hm3 : (mark.length == 0) = false := by rw [beq_eq_false_iff_ne]; omega
  have ht2 : text.length + 2 ≤ sizeLine := by rw [sizeLine_eq]; omega
  revert X; k_fill; intro X
  refine wpAny_call ?_
  k_dflt cell_enter
  k_steps
  rename_i lD lV hS kS hSp hAre lF lN lLt mH mI mT mZ mF mN m1 m2 m3
  have hw := split_weight text mark hm1
  refine join_mapN (ss := Txt.split text mark) rfl mF mN (News.isList mN (by k_mem)) (hSp ▸ hAre) m1 m2 m3 ?_ ?_ ?_ ?_ ?_
  · exact Nat.ne_of_lt (m1 _ (List.mem_cons_self ..))
  · intro x hx
    exact Nat.le_trans (part_short hx) (by omega)
  · simp only [sizeLine_eq]; omega
  · exact joinOk_cap hw ht hm2
  · intro h' tk' t' F' N'
    k_steps
    rename_i kF kN Tc kX
    exact hret _ _ _ kF (cb_drop kN fun p hp => List.mem_cons_of_mem _ hp)
end

section
local macro_rules | `(tactic| walk_at "call builtin:str.split") => `(tactic| (refine split_none (by k_asm) (by k_asm) ?_ (by assumption); intro lD lV hS kS hSp hAre lF lN lLt))
theorem cap_none (text : Str) (t1 : Tok) (ht : text.length ≤ 4000)
   (hret : ∀ t h' tk', Fr h₀ L h' m → News h₀ L h' news → Q (.str (Txt.join (Str.ofString " ") ((Txt.words text).map Txt.capitalize)) t) { s with heap := h', toks := tk' }) :
   wpAny (model PySem.Challenge.rw_dn0181_02.row.prog w) (ktrTop 302 7 gd cn cs L a ccd cl outer) (call (.ref 22) [.str text t1]) Q E s := by
  have ht2 : text.length + 2 ≤ sizeLine := by rw [sizeLine_eq]; omega
  revert X; k_fill; intro X
  refine wpAny_call ?_
  k_dflt cell_enter
  k_steps
  rename_i lD lV hS kS hSp hAre lF lN lLt mH mI mT mZ mF mN m1 m2 m3
  have hw := StrLaws.words_weight text
  refine join_mapN (ss := Txt.words text) rfl mF mN (News.isList mN (by k_mem)) (hSp ▸ hAre) m1 m2 m3 ?_ ?_ ?_ ?_ ?_
  · exact Nat.ne_of_lt (m1 _ (List.mem_cons_self ..))
  · intro x hx
    exact Nat.le_trans (word_short hx) (by omega)
  · simp only [sizeLine_eq]; omega
  · exact joinOk_cap hw ht (by decide +kernel)
  · intro h' tk' t' F' N'
    k_steps
    rename_i kF kN Tc kX
    exact hret _ _ _ kF (cb_drop kN fun p hp => List.mem_cons_of_mem _ hp)
theorem cap_kw (text : Str) (t1 : Tok) (ht : text.length ≤ 4000)
   (hret : ∀ t h' tk', Fr h₀ L h' m → News h₀ L h' news → Q (.str (Txt.join (Str.ofString " ") ((Txt.words text).map Txt.capitalize)) t) { s with heap := h', toks := tk' }) :
   wpAny (model PySem.Challenge.rw_dn0181_02.row.prog w) (ktrTop 302 7 gd cn cs L a ccd cl outer) (call (.ref 22) [.str text t1] [(Str.ofString "sep", .none)]) Q E s := by
  have ht2 : text.length + 2 ≤ sizeLine := by rw [sizeLine_eq]; omega
  revert X; k_fill; intro X
  refine wpAny_call ?_
  k_dflt cell_enter
  k_steps
  rename_i lD lV hS kS hSp hAre lF lN lLt mH mI mT mZ mF mN m1 m2 m3
  have hw := StrLaws.words_weight text
  refine join_mapN (ss := Txt.words text) rfl mF mN (News.isList mN (by k_mem)) (hSp ▸ hAre) m1 m2 m3 ?_ ?_ ?_ ?_ ?_
  · exact Nat.ne_of_lt (m1 _ (List.mem_cons_self ..))
  · intro x hx
    exact Nat.le_trans (word_short hx) (by omega)
  · simp only [sizeLine_eq]; omega
  · exact joinOk_cap hw ht (by decide +kernel)
  · intro h' tk' t' F' N'
    k_steps
    rename_i kF kN Tc kX
    exact hret _ _ _ kF (cb_drop kN fun p hp => List.mem_cons_of_mem _ hp)
end
end
end Mine
end PartL2Cap
section PartL2White
open PySem PySem.W PyProof.Rows
set_option maxRecDepth 100000
set_option maxHeartbeats 8000000
namespace Mine
local macro_rules | `(tactic| cell_enter) => `(tactic| (refine' code_def ?k1 ?k2 ?k3 ?k4 ?k5 ?kA ?kF ?kK ?k6 ?k7 ?k8 ?k9 ?kB ?_ ?c2 ?c3 ?c4 ?c5; (case kA => exact rfl); (case kF => exact rfl); (case kK => assumption); (case k1 => k_asm); (case k2 => k_asm); (case k3 => k_asm); (case k4 => k_asm); (case k5 => k_asm); (case k6 => k_is); (case k7 => k_is); (case k8 => ktr_room); (case k9 => first | exact BindsTo.of_eq rfl | exact binds_K (by k_in) rfl (by k_is) rfl rfl rfl); (case c5 => decide); (case kB => exact locs rfl); (case c2 => exact rfl); (case c3 => exact rfl); (case c4 => exact rfl); k_whole; intro g' L' h' FG' F' N' B' X' T'; (try dsimp only); (try k_lift B'); (try k_fold)))
local macro_rules | `(tactic| k_steps) => `(tactic| repeat' (
  (fail_if_success (with_reducible show wpAny _ _ (pyIter _) _ _ _));
  (fail_if_success (with_reducible show wpAny _ _ (exec (Stmt.While _ _ _ _) _) _ _ _));
  (fail_if_success (with_reducible show wpAny _ _ (exec (Stmt.For _ _ _ _ _) _) _ _ _));
  (fail_if_success (with_reducible show wpAny _ _ (eval (Expr.ListComp _ _ _ _) _) _ _ _));
  (fail_if_success (with_reducible show wpAny _ _ (call (Value.ref _) _ _) _ _ _));
  (fail_if_success (with_reducible show InvPostN _ _ _ _ _ _ _ _ _));
  (fail_if_success (with_reducible show LCg.CompEnd _ _ _ _ _ _ _ _ _ _ _ _ _ _));
  (fail_if_success (with_reducible show KswPost _ _ _ _ _ _ _ _ _ _ _ _ _ _));
  first | (k_unfold; (try dsimp only)) | (k_end; wrow_close) | walk1 | (dsimp only; walk1) | (leave1; try dsimp only) | fail "no step"))
local macro_rules | `(tactic| walk_at "binaryOp Add str str") => `(tactic| (refine KXadd.add (K := 8000) (L := 8000) (by omega) (by omega) (by decide) ?_; intro _ _ _))

theorem allLt_mem {d : Addr} : ∀ {l : List (Addr × Obj)}, AllLt d l → ∀ p ∈ l, p.1 < d
  | [], _, _, h => nomatch h
  | _ :: _, h, p, hp => by
    rcases List.mem_cons.mp hp with e | e
    · rw [e]; exact h.1
    · exact allLt_mem h.2 p e
theorem news_skip4 {h₀ h : Heap} {L : Addr} {x a b c d : Addr × Obj} {news : List (Addr × Obj)} (N : News h₀ L h (x :: a :: b :: c :: d :: news)) : News h₀ L h (x :: news) := fun p hp => N p (by
  rcases List.mem_cons.mp hp with h | h
  · rw [h]; exact List.mem_cons_self ..
  · exact List.mem_cons_of_mem _ (List.mem_cons_of_mem _ (List.mem_cons_of_mem _ (List.mem_cons_of_mem _ (List.mem_cons_of_mem _ h)))))
def whiteNs : List Int := [9, 10, 11, 12, 13, 28, 29, 30, 31, 32, 133, 160, 5760] ++ rangeKs 8192 11 ++ [8232, 8233, 8239, 8287, 12288]
local macro_rules | `(tactic| walk_at "call type:list") => `(tactic| (refine kll_range (n := 11) rfl (by k_asm) (by k_asm) (by assumption) (by decide) (by decide) (by decide) ?_; intro D' us' c' h' tk' F' N' l1 hI'; (try k_sweep)))
section
variable {w : World} {loose : List Str} {mean : ExcName → Option Value} {mg mb : Str → Option Value} {gd : Option (List Code)} {cn : Str} {cs : Scope} {a : Addr} {ccd : Value} {cl : List (Str × Addr)} {outer : List Env} {A₀ : Around} {base h₀ : Heap} {L : Addr} {m : Str → Option Value} {news : List (Addr × Obj)} {s : Shared} {Q E : Value → Shared → Prop}
   (B : Below A₀ base outer h₀) (F : Fr h₀ L s.heap m) (X : (hd02.heap_39 w.params).In h₀) (N : News h₀ L s.heap news) (T : Top hd02.view_39 loose mean mg mb h₀) (hk : cs.kind = .function)
include B F X N T hk

theorem white_spec
   (hret : ∀ D ys n h' tk', IntsAre ys whiteNs → Fr h₀ L h' m → News h₀ L h' ((D, listOf ys.toArray n) :: news) → (∀ p ∈ news, p.1 < D) → Q (.ref D) { s with heap := h', toks := tk' }) :
   wpAny (model PySem.Challenge.rw_dn0181_02.row.prog w) (ktrTop 303 10 gd cn cs L a ccd cl outer) (call (.ref 29) []) Q E s := by
  revert X; k_fill; intro X
  refine wpAny_call ?_
  k_dflt cell_enter
  k_steps
  rename_i hI lt kF kN Tc kX
  exact hret _ _ _ _ _ hI kF (news_skip4 kN) (allLt_mem lt.2.2.2.2)
end
end Mine
end PartL2White
section PartL2WordMath
open PySem PySem.W PyProof.Rows
set_option maxRecDepth 100000
namespace Mine
def isWhite2 (c : Nat) : Bool := whiteNs.any (· == (c : Int))
theorem white_list : whiteNs = [9, 10, 11, 12, 13, 28, 29, 30, 31, 32, 133, 160, 5760, 8192, 8193, 8194, 8195, 8196, 8197, 8198, 8199, 8200, 8201, 8202, 8232, 8233, 8239, 8287, 12288] := by decide
theorem white2_space (c : Nat) : isWhite2 c = Unicode.isSpace c := by
  unfold isWhite2
  rw [white_list, Bool.eq_iff_iff]
  simp only [List.any_cons, List.any_nil, Bool.or_eq_true, beq_iff_eq, Bool.or_false, Unicode.isSpace, UnicodeData.space, UnicodeData.space0, Unicode.within, decide_eq_true_eq]
  constructor
  · intro h
    repeat' split
    all_goals (try simp only [Bool.or_eq_true, decide_eq_true_eq])
    all_goals omega
  · intro h
    repeat' (split at h)
    all_goals (try simp only [Bool.or_eq_true, decide_eq_true_eq, Bool.false_eq_true, Bool.or_false] at h)
    all_goals omega
theorem raw_whiteG {sp : Nat → Bool} {pre : List Int} {c : Nat} {wss : List Str} {last : Str} (hw : sp c = true) (hR : (wss.map (·.cps.toList), last.cps.toList) = (pre.map Int.toNat).foldl (rawStep sp) ([], [])) :
    ((wss ++ [last]).map (·.cps.toList), (Str.ofString "").cps.toList) = ((pre ++ [(c : Int)]).map Int.toNat).foldl (rawStep sp) ([], []) := by
  rw [raw_snoc, ← hR]
  have e : (Str.ofString "").cps.toList = [] := by decide +kernel
  simp [rawStep, hw, e]
theorem raw_otherG {sp : Nat → Bool} {pre : List Int} {c : Nat} {wss : List Str} {last : Str} (hw : sp c = false) (hR : (wss.map (·.cps.toList), last.cps.toList) = (pre.map Int.toNat).foldl (rawStep sp) ([], [])) :
    (wss.map (·.cps.toList), (last ++ ⟨#[c]⟩).cps.toList) = ((pre ++ [(c : Int)]).map Int.toNat).foldl (rawStep sp) ([], []) := by
  rw [raw_snoc, ← hR, Str.cps_append, Array.toList_append]
  simp [rawStep, hw]
theorem words2_eq {ss : List Str} {text : Str} (h : ss.map (·.cps.toList) = wordsAcc isWhite2 [] text.cps.toList) : ss = Txt.words text := by
  have e : isWhite2 = Unicode.isSpace := funext white2_space
  rw [e] at h
  exact map_list_inj (h.trans (words_eq text).symm)
end Mine
end PartL2WordMath
section PartL2Text
open PySem PySem.W PyProof.Rows
set_option maxRecDepth 100000
set_option maxHeartbeats 8000000
namespace Mine
local macro_rules | `(tactic| cell_enter) => `(tactic| (refine' code_def ?k1 ?k2 ?k3 ?k4 ?k5 ?kA ?kF ?kK ?k6 ?k7 ?k8 ?k9 ?kB ?_ ?c2 ?c3 ?c4 ?c5; (case kA => exact rfl); (case kF => exact rfl); (case kK => assumption); (case k1 => k_asm); (case k2 => k_asm); (case k3 => k_asm); (case k4 => k_asm); (case k5 => k_asm); (case k6 => k_is); (case k7 => k_is); (case k8 => ktr_room); (case k9 => first | exact BindsTo.of_eq rfl | exact binds_K (by k_in) rfl (by k_is) rfl rfl rfl); (case c5 => decide); (case kB => exact locs rfl); (case c2 => exact rfl); (case c3 => exact rfl); (case c4 => exact rfl); k_whole; intro g' L' h' FG' F' N' B' X' T'; (try dsimp only); (try k_lift B'); (try k_fold)))
local macro_rules | `(tactic| k_steps) => `(tactic| repeat' (
  (fail_if_success (with_reducible show wpAny _ _ (pyIter _) _ _ _));
  (fail_if_success (with_reducible show wpAny _ _ (exec (Stmt.While _ _ _ _) _) _ _ _));
  (fail_if_success (with_reducible show wpAny _ _ (exec (Stmt.For _ _ _ _ _) _) _ _ _));
  (fail_if_success (with_reducible show wpAny _ _ (eval (Expr.ListComp _ _ _ _) _) _ _ _));
  (fail_if_success (with_reducible show wpAny _ _ (call (Value.ref _) _ _) _ _ _));
  (fail_if_success (with_reducible show wpAny _ _ (subscriptTail _ _ (Value.ref _) (Value.int _ _)) _ _ _));
  (fail_if_success (with_reducible show wpAny _ _ (call (Value.builtin "chr") _ _) _ _ _));
  (fail_if_success (with_reducible show InvPostN _ _ _ _ _ _ _ _ _));
  (fail_if_success (with_reducible show LCg.CompEnd _ _ _ _ _ _ _ _ _ _ _ _ _ _));
  (fail_if_success (with_reducible show KswPost _ _ _ _ _ _ _ _ _ _ _ _ _ _));
  first | (k_unfold; (try dsimp only)) | (k_end; wrow_close) | walk1 | (dsimp only; walk1) | (leave1; try dsimp only) | fail "no step"))
local macro_rules | `(tactic| walk_at "binaryOp Add str str") => `(tactic| (refine KXadd.add (K := 8000) (L := 8000) (by omega) (by omega) (by decide) ?_; intro _ _ _))

def tempNs : List Int := [97, 65, 98, 66, 122, 90, 223, 329, 454, 452, 304, 64257, 931, 962, 233, 201, 45, 39, 95, 0, 27, 6158, 8203, 65279]
theorem ints_in {vs : List Value} {ns : List Int} (h : IntsAre vs ns) {k : Int} {b : Int} (hb : b = ns.length) (hb0 : 0 < b) (x : Int) (hk : x.fmod b = k) : 0 ≤ k ∧ k < b ∧ ∃ c t, vs[k.toNat]? = some (Value.int c t) ∧ c ∈ ns := by
  have h1 := Int.fmod_nonneg_of_pos x (b := b) hb0
  have h2 := Int.fmod_lt_of_pos x (b := b) hb0
  rw [hk] at h1 h2
  refine ⟨h1, h2, ?_⟩
  have hj : k.toNat < ns.length := by omega
  obtain ⟨t, ht⟩ := h.get k.toNat _ (List.getElem?_eq_getElem hj)
  exact ⟨_, t, ht, List.getElem_mem hj⟩
theorem white_box : ∀ c ∈ whiteNs, 0 ≤ c ∧ c ≤ 1114111 := by decide
theorem temp_box : ∀ c ∈ tempNs, 0 ≤ c ∧ c ≤ 1114111 := by decide
theorem code_lo (x : Int) : 0 ≤ x.fmod 1112064 := Int.fmod_nonneg_of_pos x (by decide)
theorem code_hi (x : Int) : x.fmod 1112064 < 1112064 := Int.fmod_lt_of_pos x (by decide)
section
variable {w : World} {loose : List Str} {mean : ExcName → Option Value} {mg mb : Str → Option Value} {gd : Option (List Code)} {cn : Str} {cs : Scope} {a : Addr} {ccd : Value} {cl : List (Str × Addr)} {outer : List Env} {A₀ : Around} {base h₀ : Heap} {L : Addr} {m : Str → Option Value} {news : List (Addr × Obj)} {s : Shared} {Q E : Value → Shared → Prop}
   (B : Below A₀ base outer h₀) (F : Fr h₀ L s.heap m) (X : (hd02.heap_39 w.params).In h₀) (N : News h₀ L s.heap news) (T : Top hd02.view_39 loose mean mg mb h₀) (hk : cs.kind = .function)
include B F X N T hk

theorem text_spec (l : Addr) (vs : List Value) (ns : List Int) (n : Nat) (hl : (l, listOf vs.toArray n) ∈ news) (hI : IntsAre vs ns) (hn : ns.length ≤ 32)
   (hret : ∀ x t h' tk', 6 ≤ x.length → x.length ≤ 38 → Fr h₀ L h' m → News h₀ L h' news → Q (.str x t) { s with heap := h', toks := tk' }) :
   wpAny (model PySem.Challenge.rw_dn0181_02.row.prog w) (ktrTop 302 7 gd cn cs L a ccd cl outer) (call (.ref 36) [.ref l]) Q E s := by
  revert X; k_fill; intro X
  refine wpAny_call ?_
  k_dflt cell_enter
  k_steps
  rename_i lt _ ltLt _ _ hF1 hN1
  obtain ⟨tv, hTv, hN2⟩ : ∃ tv, IntsAre tv tempNs ∧ News _ _ _ ((lt, listOf tv.toArray 0) :: news) := ⟨_, by (repeat' constructor), hN1⟩
  clear hN1
  refine For_invVF hF1 rfl rfl ?_
  k_steps
  refine kst_listL (σ := Str × Tok) (fun _ => (lt, listOf tv.toArray 0) :: news) (fun c => [(Str.ofString "text", .str c.1 c.2)]) (fun _ => True) [Str.ofString "code"] (fun pre c => c.1.length = pre.length) (Str.ofString "", _) rfl (fun _ => List.mem_cons_of_mem _ hl) hI hF1 hN2 trivial (List.forall_mem_cons.mpr ⟨rfl, List.forall_mem_nil _⟩) ?_ ?_ ?_
  · show (Str.ofString "").length = 0; decide +kernel
  · rintro ⟨told, tt⟩ pre post x tx u h2 tk2 own hpre hmem hoff - hlen F2 N2
    have hpl : pre.length + 1 ≤ 32 := by
      rw [hpre] at hn
      simp only [List.length_append, List.length_cons] at hn
      omega
    dsimp only [kstB] at F2 hlen
    k_steps
    all_goals first
      | (with_unfolding_all refine white_spec (by k_asm) (by k_asm) (by k_asm) (by k_asm) (by k_asm) rfl ?_
         intro D wsW nW h3 tk3 hIW F3 N3 ltW
         k_steps
         obtain ⟨z0, z1, c, tc, hv, hc⟩ := ints_in hIW (b := 29) (by decide) (by decide) (x.fdiv 3) rfl
         refine item_litK (News.isList N3 (.head _)) z0 (by omega) hv ?_ (by with_unfolding_all rfl)
         obtain ⟨c0, c1⟩ := white_box c hc
         clear hv z0 z1 hc hIW
         k_steps
         refine chr_of_range c0 c1 ?_
         clear c0 c1)
      | (rename_i N3 _ _
         obtain ⟨z0, z1, c, tc, hv, hc⟩ := ints_in hTv (b := 24) (by decide) (by decide) (x.fdiv 3) rfl
         refine item_litK (News.isList (by assumption) (.head _)) z0 (by omega) hv ?_ (by with_unfolding_all rfl)
         obtain ⟨c0, c1⟩ := temp_box c hc
         clear hv z0 z1 hc
         k_steps
         refine chr_of_range c0 c1 ?_
         clear c0 c1)
      | refine chr_of_range (code_lo _) (by have := code_hi (x.fdiv 3); omega) ?_
      | refine chr_of_range (by have := code_lo (x.fdiv 3); omega) (by have := code_hi (x.fdiv 3); omega) ?_
      | skip
    all_goals (
      refine KXadd.add (K := 8000) (L := 8000) (by omega) (by show 1 ≤ 8000; decide) (by decide) ?_
      intro t' k' hle
      k_steps
      refine kst_end (c := (told ++ ⟨#[_]⟩, t')) (by assumption) (by assumption) (by
        intro p hp
        first
          | exact List.mem_append_left _ hp
          | exact List.mem_cons_of_mem _ (List.mem_append_left _ hp)) (by
        intro p hp
        first
          | exact List.mem_append_right _ hp
          | exact List.mem_cons_of_mem _ (List.mem_append_right _ hp)) rfl trivial (List.forall_mem_cons.mpr ⟨rfl, List.forall_mem_nil _⟩) ?_ ?_)
    all_goals first
      | (intro z hz1 hz2 hz3
         have hz4 := hz2 _ (List.mem_cons_self ..)
         dsimp only at hz4
         simp only [List.contains_cons, List.contains_nil, Bool.or_false, beq_eq_false_iff_ne, ne_eq] at hz3
         simp [hz1, hz3, hz4]; done)
      | (dsimp only; rw [Str.length_append, List.length_append, List.length_singleton, hlen]; rfl)
      | skip
  · rintro ⟨told, tt⟩ u h2 tk2 - hlen F2 N2
    dsimp only [kstB] at F2 hlen
    have h6 : (Str.ofString "bbba B").length = 6 := by decide +kernel
    k_steps
    rename_i kF kN Tc kX
    refine hret _ _ _ _ ?_ ?_ kF (cb_drop kN fun p hp => List.mem_cons_of_mem _ hp)
    · rw [Str.length_append, h6]; omega
    · rw [Str.length_append, h6]; omega
end
end Mine
end PartL2Text
section PartL2Words
open PySem PySem.W PyProof.Rows
set_option maxRecDepth 100000
set_option maxHeartbeats 8000000
namespace Mine
local macro_rules | `(tactic| cell_enter) => `(tactic| (refine' code_def ?k1 ?k2 ?k3 ?k4 ?k5 ?kA ?kF ?kK ?k6 ?k7 ?k8 ?k9 ?kB ?_ ?c2 ?c3 ?c4 ?c5; (case kA => exact rfl); (case kF => exact rfl); (case kK => assumption); (case k1 => k_asm); (case k2 => k_asm); (case k3 => k_asm); (case k4 => k_asm); (case k5 => k_asm); (case k6 => k_is); (case k7 => k_is); (case k8 => ktr_room); (case k9 => first | exact BindsTo.of_eq rfl | exact binds_K (by k_in) rfl (by k_is) rfl rfl rfl); (case c5 => decide); (case kB => exact locs rfl); (case c2 => exact rfl); (case c3 => exact rfl); (case c4 => exact rfl); k_whole; intro g' L' h' FG' F' N' B' X' T'; (try dsimp only); (try k_lift B'); (try k_fold)))
local macro_rules | `(tactic| k_steps) => `(tactic| repeat' (
  (fail_if_success (with_reducible show wpAny _ _ (pyIter _) _ _ _));
  (fail_if_success (with_reducible show wpAny _ _ (exec (Stmt.While _ _ _ _) _) _ _ _));
  (fail_if_success (with_reducible show wpAny _ _ (exec (Stmt.For _ _ _ _ _) _) _ _ _));
  (fail_if_success (with_reducible show wpAny _ _ (eval (Expr.ListComp _ _ _ _) _) _ _ _));
  (fail_if_success (with_reducible show wpAny _ _ (call (Value.ref _) _ _) _ _ _));
  (fail_if_success (with_reducible show wpAny _ _ (compareOp CmpOp.In _ (Value.ref _)) _ _ _));
  (fail_if_success (with_reducible show InvPostN _ _ _ _ _ _ _ _ _));
  (fail_if_success (with_reducible show LCg.CompEnd _ _ _ _ _ _ _ _ _ _ _ _ _ _));
  (fail_if_success (with_reducible show KswPost _ _ _ _ _ _ _ _ _ _ _ _ _ _));
  first | (k_unfold; (try dsimp only)) | (k_end; wrow_close) | walk1 | (dsimp only; walk1) | (leave1; try dsimp only) | fail "no step"))
local macro_rules | `(tactic| walk_at "binaryOp Add str str") => `(tactic| (refine KXadd.add (K := 8000) (L := 8000) (by omega) (by omega) (by decide) ?_; intro _ _ _))

local macro_rules | `(tactic| walk_at "call builtin:list.append") => `(tactic| (refine append_head (by k_asm) (by k_asm) (by assumption) (by assumption) ?_; intro h' F' N'; (try k_sweep)))
local macro_rules | `(tactic| walk_at "subscriptTail Name UnaryOp ref int") => `(tactic| (with_unfolding_all refine' item_last ?k1 ?_ ?k2; (case k1 => k_asm); (case k2 => with_unfolding_all rfl); k_whole))
local macro_rules | `(tactic| walk_at "setItem ref int") => `(tactic| (refine set_last (by k_asm) (by k_asm) (by assumption) ?_; intro h' F' N'; (try k_sweep)))
section
variable {w : World} {loose : List Str} {mean : ExcName → Option Value} {mg mb : Str → Option Value} {gd : Option (List Code)} {cn : Str} {cs : Scope} {a : Addr} {ccd : Value} {cl : List (Str × Addr)} {outer : List Env} {A₀ : Around} {base h₀ : Heap} {L : Addr} {m : Str → Option Value} {news : List (Addr × Obj)} {s : Shared} {Q E : Value → Shared → Prop}
   (B : Below A₀ base outer h₀) (F : Fr h₀ L s.heap m) (X : (hd02.heap_39 w.params).In h₀) (N : News h₀ L s.heap news) (T : Top hd02.view_39 loose mean mg mb h₀) (hk : cs.kind = .function)
include B F X N T hk

structure WdSt where
  ws : List Value
  wss : List Str
  last : Str
  tl : Tok
  n : Nat

theorem words_spec (text : Str) (t1 : Tok) (ht : text.length ≤ 4000)
   (hret : ∀ D ys ss n h' tk', StrsAre ys ss → ss.map (·.cps.toList) = wordsAcc isWhite2 [] text.cps.toList → Fr h₀ L h' m → News h₀ L h' ((D, listOf ys.toArray n) :: news) → Q (.ref D) { s with heap := h', toks := tk' }) :
   wpAny (model PySem.Challenge.rw_dn0181_02.row.prog w) (ktrTop 302 7 gd cn cs L a ccd cl outer) (call (.ref 41) [.str text t1]) Q E s := by
  revert X; k_fill; intro X
  refine wpAny_call ?_
  k_dflt cell_enter
  k_steps
  rename_i lw _ lLt _ hF1 hN1
  refine For_invVF hF1 rfl rfl ?_
  k_steps
  refine KStt.kst_text (σ := WdSt) (fun c => (lw, listOf (c.ws ++ [Value.str c.last c.tl]).toArray c.n) :: news) (fun c => []) (fun c => StrsAre c.ws c.wss) []
    (fun pre c => (c.wss.map (·.cps.toList), c.last.cps.toList) = (pre.map Int.toNat).foldl (rawStep isWhite2) ([], []) ∧ c.wss.length ≤ pre.length ∧ c.last.length ≤ pre.length) ⟨[], [], Str.ofString "", _, _⟩ rfl hF1 hN1 .nil (List.forall_mem_nil _) ?_ ?_ ?_
  · refine ⟨?_, Nat.zero_le _, Nat.zero_le _⟩
    have e : (Str.ofString "").cps.toList = [] := by decide +kernel
    dsimp only
    rw [e]; rfl
  · rintro ⟨ws, wss, last, tl, n⟩ pre post c tc u h2 tk2 own hpre hoff hS ⟨hR, hl1, hl2⟩ F2 N2
    dsimp only [kstB] at F2 hR hl1 hl2 hS N2
    rw [List.cons_append] at N2
    have hoffN : ∀ p ∈ news ++ own, p.1 ≠ lw := fun p hp => (List.mem_append.mp hp).elim (fun h => Nat.ne_of_lt (lLt p h)) fun h => hoff p h lw (List.mem_cons_self ..)
    have hws := hS.length
    have hpl : pre.length + 1 ≤ 4000 := by
      have e1 := congrArg List.length hpre
      rw [KStt.codes_length] at e1
      simp only [List.length_append, List.length_cons] at e1
      omega
    have hwl : (ws ++ [Value.str last tl]).length ≤ 100000 := by rw [List.length_append, List.length_singleton]; omega
    have hc1 : Str.length ⟨#[c]⟩ = 1 := rfl
    have hcc : Array.getD (Str.cps ⟨#[c]⟩) 0 0 = c := rfl
    k_steps
    with_unfolding_all refine white_spec (by k_asm) (by k_asm) (by k_asm) (by k_asm) (by k_asm) rfl ?_
    intro D wsW nW h3 tk3 hIW F3 N3 ltW
    k_steps
    refine in_list_ints (News.isList N3 (.head _)) hIW ?_
    clear hIW
    replace N3 := cb_drop N3 (fun p hp => List.mem_cons_of_mem _ hp)
    have hwe : whiteNs.any (· == ((Array.getD (Str.cps ⟨#[c]⟩) 0 0 : Nat) : Int)) = isWhite2 c := rfl
    rw [hwe]
    cases hw : isWhite2 c
    · k_steps
      refine kst_end (c := ⟨ws, wss, last ++ ⟨#[c]⟩, _, _⟩) (by assumption) (by assumption) led_sub led_own rfl hS (List.forall_mem_nil _) ?_ ⟨raw_otherG hw hR, ?_, ?_⟩
      · intro z hz1 hz2 hz3
        simp [hz1]
      · show wss.length ≤ (pre ++ [(c : Int)]).length; simp only [List.length_append, List.length_singleton]; omega
      · show (last ++ ⟨#[c]⟩).length ≤ (pre ++ [(c : Int)]).length; simp only [List.length_append, List.length_singleton]; omega
    · k_steps
      refine kst_end (c := ⟨ws ++ [Value.str last tl], wss ++ [last], Str.ofString "", _, _⟩) (by assumption) (by assumption) led_sub led_own rfl (KStt.strs_snoc hS) (List.forall_mem_nil _) ?_ ⟨raw_whiteG hw hR, ?_, ?_⟩
      · intro z hz1 hz2 hz3
        simp [hz1]
      · show (wss ++ [last]).length ≤ (pre ++ [(c : Int)]).length; simp only [List.length_append, List.length_singleton]; omega
      · show (Str.ofString "").length ≤ _; exact Nat.zero_le _
  · rintro ⟨ws, wss, last, tl, n⟩ u h2 tk2 hS ⟨hR, hl1, hl2⟩ F2 N2
    dsimp only [kstB] at F2 hR hl1 hl2 hS N2
    k_steps
    refine LCt.ListComp_T (F₀ := F2) (by with_unfolding_all rfl) (by decide) (by rfl) (by decide) (by rfl) ?_
    k_steps
    have hAll : StrsAre (ws ++ [Value.str last tl]) (wss ++ [last]) := KStt.strs_snoc hS
    have hlw : ws.length = wss.length := hS.length
    have hcl : (KStt.codes text).length = text.length := KStt.codes_length text
    refine LCt.CompSrcT.ledger rfl F2 N2 (.head _) (by rw [List.size_toArray, List.length_append, List.length_singleton, sizeLine_eq]; omega) ?_
    intro g1
    refine comp_restT (fun a v => ∃ t, v = Value.str a t) (wss ++ [last]) (fun a => a != Str.ofString "") (fun a => a) (by simp [hlw]) (strs_item hAll) ?_ ?_
    · rintro a v I oI C oC D m₂ ys h3 tk3 E' ha ⟨ta, rfl⟩ hC hx F3 N3 off ne
      k_steps
      · exact LCg.CompEnd.intro F3 N3 _ (fun p hp => hp) off (.inr ⟨_, .head _, rfl, _, rfl⟩) ⟨by assumption, rfl, _, rfl⟩
      · exact LCg.CompEnd.intro F3 N3 _ (fun p hp => hp) off (.inr ⟨_, .head _, rfl, _, rfl⟩) ⟨by assumption, rfl⟩
    · intro ys hys D h3 tk3 F3 N3 off
      k_steps
      rename_i kF kN Tc kX
      exact hret D ys _ _ _ _ hys (filter_words hR) kF (fun p hp => kN p ((List.mem_cons.mp hp).elim (fun e => e ▸ List.mem_cons_self ..) fun h => List.mem_cons_of_mem _ (List.mem_cons_of_mem _ h)))
end
end Mine
end PartL2Words
section PartL2Parts
open PySem PySem.W PyProof.Rows
set_option maxRecDepth 100000
set_option maxHeartbeats 8000000
namespace Mine
local macro_rules | `(tactic| cell_enter) => `(tactic| (refine' code_def ?k1 ?k2 ?k3 ?k4 ?k5 ?kA ?kF ?kK ?k6 ?k7 ?k8 ?k9 ?kB ?_ ?c2 ?c3 ?c4 ?c5; (case kA => exact rfl); (case kF => exact rfl); (case kK => assumption); (case k1 => k_asm); (case k2 => k_asm); (case k3 => k_asm); (case k4 => k_asm); (case k5 => k_asm); (case k6 => k_is); (case k7 => k_is); (case k8 => ktr_room); (case k9 => first | exact BindsTo.of_eq rfl | exact binds_K (by k_in) rfl (by k_is) rfl rfl rfl); (case c5 => decide); (case kB => exact locs rfl); (case c2 => exact rfl); (case c3 => exact rfl); (case c4 => exact rfl); k_whole; intro g' L' h' FG' F' N' B' X' T'; (try dsimp only); (try k_lift B'); (try k_fold)))
local macro_rules | `(tactic| k_steps) => `(tactic| repeat' (
  (fail_if_success (with_reducible show wpAny _ _ (pyIter _) _ _ _));
  (fail_if_success (with_reducible show wpAny _ _ (exec (Stmt.While _ _ _ _) _) _ _ _));
  (fail_if_success (with_reducible show wpAny _ _ (exec (Stmt.For _ _ _ _ _) _) _ _ _));
  (fail_if_success (with_reducible show wpAny _ _ (eval (Expr.ListComp _ _ _ _) _) _ _ _));
  (fail_if_success (with_reducible show wpAny _ _ (call (Value.ref _) _ _) _ _ _));
  (fail_if_success (with_reducible show InvPostN _ _ _ _ _ _ _ _ _));
  (fail_if_success (with_reducible show LCg.CompEnd _ _ _ _ _ _ _ _ _ _ _ _ _ _));
  (fail_if_success (with_reducible show KswPost _ _ _ _ _ _ _ _ _ _ _ _ _ _));
  first | (k_unfold; (try dsimp only)) | (k_end; wrow_close) | walk1 | (dsimp only; walk1) | (leave1; try dsimp only) | fail "no step"))
local macro_rules | `(tactic| walk_at "binaryOp Add str str") => `(tactic| (refine KXadd.add (K := 8000) (L := 8000) (by omega) (by omega) (by decide) ?_; intro _ _ _))

local macro_rules | `(tactic| walk_at "call builtin:list.append") => `(tactic| (refine append_head (by k_asm) (by k_asm) (by assumption) (by assumption) ?_; intro h' F' N'; (try k_sweep)))
local macro_rules | `(tactic| walk_at "subscriptTail Name UnaryOp ref int") => `(tactic| (with_unfolding_all refine' item_last ?k1 ?_ ?k2; (case k1 => k_asm); (case k2 => with_unfolding_all rfl); k_whole))
local macro_rules | `(tactic| walk_at "setItem ref int") => `(tactic| (refine set_last (by k_asm) (by k_asm) (by assumption) ?_; intro h' F' N'; (try k_sweep)))
section
variable {w : World} {loose : List Str} {mean : ExcName → Option Value} {mg mb : Str → Option Value} {gd : Option (List Code)} {cn : Str} {cs : Scope} {a : Addr} {ccd : Value} {cl : List (Str × Addr)} {outer : List Env} {A₀ : Around} {base h₀ : Heap} {L : Addr} {m : Str → Option Value} {news : List (Addr × Obj)} {s : Shared} {Q E : Value → Shared → Prop}
   (B : Below A₀ base outer h₀) (F : Fr h₀ L s.heap m) (X : (hd02.heap_39 w.params).In h₀) (N : News h₀ L s.heap news) (T : Top hd02.view_39 loose mean mg mb h₀) (hk : cs.kind = .function)
include B F X N T hk

theorem parts_spec (text mark : Str) (t1 t2 : Tok) (hm1 : 1 ≤ mark.length) (hm2 : mark.length ≤ 4000) (ht : text.length ≤ 4000)
   (hret : ∀ D ys n h' tk', StrsAre ys (Txt.split text mark) → Fr h₀ L h' m → News h₀ L h' ((D, listOf ys.toArray n) :: news) → (∀ p ∈ news, p.1 < D) → Q (.ref D) { s with heap := h', toks := tk' }) :
   wpAny (model PySem.Challenge.rw_dn0181_02.row.prog w) (ktrTop 302 7 gd cn cs L a ccd cl outer) (call (.ref 48) [.str text t1, .str mark t2]) Q E s := by
  revert X; k_fill; intro X
  refine wpAny_call ?_
  k_dflt cell_enter
  k_steps
  rename_i lw _ lLt _ _ hF1 hN1
  refine ksw_while (σ := PtSt) (fun c => (lw, listOf (c.ws ++ [Value.str c.last c.tl]).toArray c.n) :: news) (fun c => [(Str.ofString "k", .int c.k c.tk)]) (fun c => StrsAre c.ws c.wss) []
    (PtInv text mark) (fun c => text.length - c.k) ⟨[], [], Str.ofString "", _, _, 0, _⟩ hF1 hN1 .nil (List.forall_mem_cons.mpr ⟨rfl, List.forall_mem_nil _⟩) (pt_start _ _ _ _ _) ?_
  rintro ⟨ws, wss, last, tl, n, k, tk⟩ u h2 tk2 hS hI F2 N2
  obtain ⟨-, hk1, hl1, hl2⟩ := id hI
  dsimp only [kstB] at F2 N2 hS hk1 hl1 hl2
  have hoffN : ∀ p ∈ news, p.1 ≠ lw := fun p hp => Nat.ne_of_lt (lLt p hp)
  have hws := hS.length
  have hwl : (ws ++ [Value.str last tl]).length ≤ 100000 := by rw [List.length_append, List.length_singleton]; omega
  have hil : (Txt.item text (k : Int)).length ≤ 1 := item_len text _
  k_steps
  · refine ksw_end ⟨ws ++ [Value.str last tl], wss ++ [last], Str.ofString "", _, _, k + mark.length, _⟩ (by assumption) (by assumption) (fun p hp => hp) (KStt.strs_snoc hS) (List.forall_mem_cons.mpr ⟨rfl, List.forall_mem_nil _⟩) ?_ (pt_mark hm1 hI (by assumption) (by assumption)) ?_
    · intro z hz2 hz3
      simp only [List.forall_mem_cons, List.not_mem_nil, false_implies, implies_true, and_true, ne_eq] at hz2
      simp [hz2]
    · have hsl := slice_len (text := text) (mark := mark) (k := k) (by assumption) (by assumption)
      show text.length - (k + mark.length) < text.length - k
      omega
  · refine ksw_end ⟨ws, wss, last ++ Txt.item text (k : Int), _, _, k + 1, _⟩ (by assumption) (by assumption) (fun p hp => hp) hS (List.forall_mem_cons.mpr ⟨rfl, List.forall_mem_nil _⟩) ?_ (pt_other hI (by assumption) (by assumption)) ?_
    · intro z hz2 hz3
      simp only [List.forall_mem_cons, List.not_mem_nil, false_implies, implies_true, and_true, ne_eq] at hz2
      simp [hz2]
    · show text.length - (k + 1) < text.length - k
      omega
  · rename_i hkn kF kN Tc kX
    refine hret lw _ _ _ _ ?_ kF kN lLt
    rw [← pt_split hm1 (pt_done hI (by assumption))]
    exact KStt.strs_snoc hS
end
end Mine
end PartL2Parts
section PartL2Comp
open PySem PySem.W PyProof.Rows
set_option maxRecDepth 100000
namespace Mine
namespace C2
abbrev two (elt : Expr) (x0 x1 : Str) (p0 p1 : Pos) (it0 it1 : Expr) (scope : Scope) (pos : Pos) : Expr := .ListComp elt [⟨.Name x0 p0, it0, [], 0⟩, ⟨.Name x1 p1, it1, [], 0⟩] scope pos
section
variable {prog : Program} {w : World} {A : Around} {E : Value → Shared → Prop} {R : Result → Shared → Prop} {s : Shared} {elt : Expr} {x0 x1 : Str} {p0 p1 : Pos} {it0 it1 : Expr} {scope : Scope} {pos : Pos} {it acc : Value} {env : Env}
theorem start1
    (h0 : codeAny (model prog w) A (.compLoop (two elt x0 x1 p0 p1 it0 it1 scope pos) 1 it acc env) R s)
    (h : wpAny (model prog w) A (pyIter it) (fun it' s' => codeAny (model prog w) A (.compLoop (two elt x0 x1 p0 p1 it0 it1 scope pos) 1 it' acc env) R s')
      (notedBy (model prog w) A env fun x s' => R (.error x) s') s) :
    codeAny (model prog w) A (.compStart (two elt x0 x1 p0 p1 it0 it1 scope pos) 1 it acc env) R s := by
  refine codeAny_of_tree (wpAny_notedAt ?_)
  unfold compStart
  refine wpAny_bind (wpAny_askSetting (wpAny_ite ?_))
  split
  · exact wpAny_bind (wpAny_pure (wpAny_pure ⟨rfl, h0⟩))
  · refine wpAny_bind (wpAny_rule (wpAny_bind (wpAny_standAt (wpAny_bind (wpAny_mono h ?_ fun _ _ k => k)))))
    exact fun _ _ k => wpAny_pure ⟨rfl, k⟩
theorem loop1 (I : Nat → Shared → Prop)
    (turn : ∀ n s, I n s → wpAny (model prog w) A (pyNext it) (fun r s₁ => match r with
      | none => R (.ok .next) s₁
      | some v => wpAny (model prog w) A (assign (.Name x1 p1) env v) (fun _ s₂ => wpAny (model prog w) A (eval elt env) (fun x s₃ =>
          wpAny (model prog w) A (call (.builtin "list.append") [acc, x]) (fun _ s₄ => ∃ m, m < n ∧ I m s₄) (fun _ _ => False) s₃)
          (fun _ _ => False) s₂) (fun _ _ => False) s₁) (fun _ _ => False) s)
    (n : Nat) (h : I n s) : codeAny (model prog w) A (.compLoop (two elt x0 x1 p0 p1 it0 it1 scope pos) 1 it acc env) R s := by
  refine codeAny_loop rfl I (fun n s hI => ?_) n h
  show wpAny _ _ ((compTurn (two elt x0 x1 p0 p1 it0 it1 scope pos) 1 it acc env).onRaise (fun x => do noteFrame x env; theTreesLotGoes x)) _ _ s
  refine wpAny_noted ?_
  unfold compTurn
  show wpAny _ _ (standAt it1.pos >>= _) _ _ s
  refine wpAny_bind (wpAny_standAt ?_)
  show wpAny _ _ (pyNext it >>= _) _ _ s
  refine wpAny_bind (wpAny_mono (turn n s hI) (fun r s₁ h₁ => ?_) fun _ _ h' => h'.elim)
  match r, h₁ with
  | none, h₁ => exact wpAny_pure h₁
  | some v, h₁ =>
    show wpAny _ _ (letOwnedTupleGo (.Name x1 p1) it v >>= _) _ _ s₁
    refine wpAny_bind (wpAny_of_eq rfl ?_)
    show wpAny _ _ (assign (.Name x1 p1) env v >>= _) _ _ s₁
    refine wpAny_bind (wpAny_mono h₁ (fun _ s₂ h₂ => ?_) fun _ _ h' => h'.elim)
    dsimp only
    refine wpAny_bind (wpAny_tests_nil ?_)
    show wpAny _ _ ((eval elt env >>= fun x => call (.builtin "list.append") [acc, x] >>= fun _ => pure ()) >>= fun _ => _) _ _ s₂
    refine wpAny_bind (wpAny_bind (wpAny_mono h₂ (fun x s₃ h₃ => wpAny_bind (wpAny_mono h₃ (fun _ s₄ h₄ => ?_) fun _ _ f => f.elim)) fun _ _ f => f.elim))
    exact wpAny_pure (wpAny_pure ⟨rfl, h₄⟩)
theorem loop0 (I : Nat → Shared → Prop) (hs : ∀ x, foldedSetIterable it1 env x = pure x)
    (turn : ∀ n s, I n s → wpAny (model prog w) A (pyNext it) (fun r s₁ => match r with
      | none => R (.ok .next) s₁
      | some v => wpAny (model prog w) A (assign (.Name x0 p0) env v) (fun _ s₂ => wpAny (model prog w) A (eval it1 env) (fun x s₃ =>
          wpAny (model prog w) A (pyIter x) (fun i' s₄ => codeAny (model prog w) A (.compStart (two elt x0 x1 p0 p1 it0 it1 scope pos) 1 i' acc env) (fun r' s₅ => match r' with | .ok _ => ∃ m, m < n ∧ I m s₅ | .error _ => False) s₄) (fun _ _ => False) s₃)
          (fun _ _ => False) s₂) (fun _ _ => False) s₁) (fun _ _ => False) s)
    (n : Nat) (h : I n s) : codeAny (model prog w) A (.compLoop (two elt x0 x1 p0 p1 it0 it1 scope pos) 0 it acc env) R s := by
  refine codeAny_loop rfl I (fun n s hI => ?_) n h
  show wpAny _ _ ((compTurn (two elt x0 x1 p0 p1 it0 it1 scope pos) 0 it acc env).onRaise (fun x => do noteFrame x env; theTreesLotGoes x)) _ _ s
  refine wpAny_noted ?_
  unfold compTurn
  show wpAny _ _ (standAt it0.pos >>= _) _ _ s
  refine wpAny_bind (wpAny_standAt ?_)
  show wpAny _ _ (pyNext it >>= _) _ _ s
  refine wpAny_bind (wpAny_mono (turn n s hI) (fun r s₁ h₁ => ?_) fun _ _ h' => h'.elim)
  cases r with
  | none => exact wpAny_pure h₁
  | some v =>
    show wpAny _ _ (letOwnedTupleGo (.Name x0 p0) it v >>= _) _ _ s₁
    refine wpAny_bind (wpAny_of_eq rfl ?_)
    show wpAny _ _ (assign (.Name x0 p0) env v >>= _) _ _ s₁
    refine wpAny_bind (wpAny_mono h₁ (fun _ s₂ h₂ => ?_) fun _ _ h' => h'.elim)
    dsimp only
    refine wpAny_bind (wpAny_tests_nil ?_)
    show wpAny _ _ (eval it1 env >>= _) _ _ s₂
    refine wpAny_bind (wpAny_mono h₂ (fun x s₃ h₃ => ?_) fun _ _ h' => h'.elim)
    show wpAny _ _ (standAt it1.pos >>= _) _ _ s₃
    refine wpAny_bind (wpAny_standAt ?_)
    show wpAny _ _ (foldedSetIterable it1 env x >>= _) _ _ s₃
    refine wpAny_bind (wpAny_of_eq (hs x) ?_)
    show wpAny _ _ (holding [x] (pyIter x) >>= _) _ _ s₃
    refine wpAny_bind (wpAny_holding (wpAny_mono h₃ (fun i' s₄ h₄ => ?_) fun _ _ h' => h'.elim))
    show wpAny _ _ (runOwn (.compStart (two elt x0 x1 p0 p1 it0 it1 scope pos) 1 i' acc env) env >>= _) _ _ s₄
    refine wpAny_bind (wpAny_runOwn (codeAny_mono h₄ fun r' s₅ h₅ => ?_))
    cases r' with
    | error e => exact h₅.elim
    | ok f => exact wpAny_pure ⟨rfl, h₅⟩
end
section
variable {prog : Program} {w : World} {A : Around} {E : Value → Shared → Prop} {h₀ : Heap} {L : Addr} {m : Str → Option Value} {env : Env} {elt : Expr} {x0 x1 : Str} {p0 p1 : Pos} {it0 it1 : Expr} {scope : Scope} {cl : List (Str × Addr)} {pos : Pos} {s₂ : Shared} {news : List (Addr × Obj)}
def RngEnd (h₀ : Heap) (L : Addr) (m : Str → Option Value) (s₁ : Shared) (led : List (Addr × Obj)) (K : Int → Prop) (y : Value) (s' : Shared) : Prop :=
  ∃ r b t u v h' tk, y = .ref r ∧ s' = { s₁ with heap := h', toks := tk } ∧ Fr h₀ L h' m ∧ News h₀ L h' led ∧ IsRange h' r 0 b 1 t u v ∧ K b
/-- what is kept between the turns: the list so far -/
structure Kept (h₀ : Heap) (L : Addr) (m : Str → Option Value) (R : Str → Prop) (news : List (Addr × Obj)) (D C : Addr) (top : Nat) (h : Heap) (ys : List Value) (ss : List Str) (mC : Str → Option Value) : Prop where
  k1 : StrsAre ys ss
  k2 : ys.length ≤ top
  k3 : ∀ r ∈ ss, R r
  k4 : Fr h₀ L h m
  k5 : h.Ns C mC
  k6 : News h₀ L h ((D, LCg.lst ys) :: news)
theorem inner {I I1 C D : Addr} {oI : Obj} {n1 top : Nat} {R : Str → Prop} {v : Value} {h : Heap} {tk : Nat} {ys : List Value} {ss : List Str} {mC : Str → Option Value}
    (hh : A.handled = none) (hx1 : scope.names.lookup x1 = some .local) (hkind : scope.kind = .function) (hx01 : x0 ≠ x1) (htop : top + n1 ≤ sizeLine)
    (hCL : C ≠ L) (hDL : D ≠ L) (hC₀ : h₀.get? C = none) (hD₀ : h₀.get? D = none) (hIL : L ≠ I) (hI₀ : h₀.get? I = none) (h1L : L ≠ I1) (h1₀ : h₀.get? I1 = none)
    (hIC : I ≠ C) (hID : I ≠ D) (hCD : C ≠ D) (h1I : I1 ≠ I) (h1C : I1 ≠ C) (h1D : I1 ≠ D) (off : LCg.Off3 I C D news) (off1 : ∀ p ∈ news, p.1 ≠ I1)
    (hst : IsRangeIter h I1 (0 + ((0 : Nat) : Int) * 1) ((n1 : Int) - ((0 : Nat) : Int)) 1) (hI : h.get? I = some oI) (hv : mC x0 = some v) (K : Kept h₀ L m R news D C top h ys ss mC)
    (helt : ∀ (z : Int) t oI1 oC m₂ ys h tk, 0 ≤ z → z < n1 → LCg.NsObj oC m₂ → m₂ x0 = some v → m₂ x1 = some (.int z t) → Fr h₀ L h m → News h₀ L h ((I1, oI1) :: (C, oC) :: (D, LCg.lst ys) :: (I, oI) :: news) → LCg.Off3 I1 C D ((I, oI) :: news) →
      wpAny (model prog w) A (eval elt (compEnvC scope cl C env)) (LCg.CompEnd h₀ L m { s₂ with heap := h, toks := tk } I1 oI1 C oC D (LCg.lst ys) (fun _ => True) (ElP R ((I, oI) :: news))) (fun _ _ => False) { s₂ with heap := h, toks := tk }) :
    codeAny (model prog w) A (.compStart (two elt x0 x1 p0 p1 it0 it1 scope pos) 1 (.ref I1) (.ref D) (compEnvC scope cl C env))
      (fun r s' => match r with
        | .ok _ => ∃ h' tk' ys' ss' mC', s' = { s₂ with heap := h', toks := tk' } ∧ h'.get? I = some oI ∧ Kept h₀ L m R news D C (top + n1) h' ys' ss' mC'
        | .error _ => False) { s₂ with heap := h, toks := tk } := by
  have W := LCg.range_walks (prog := prog) (w := w) (I := I1) hh 0 n1
  have loop : codeAny (model prog w) A (.compLoop (two elt x0 x1 p0 p1 it0 it1 scope pos) 1 (.ref I1) (.ref D) (compEnvC scope cl C env))
      (fun r s' => match r with
        | .ok _ => ∃ h' tk' ys' ss' mC', s' = { s₂ with heap := h', toks := tk' } ∧ h'.get? I = some oI ∧ Kept h₀ L m R news D C (top + n1) h' ys' ss' mC'
        | .error _ => False) { s₂ with heap := h, toks := tk } := by
    refine loop1 (fun k s' => ∃ h' tk' j ys' ss' mC', s' = { s₂ with heap := h', toks := tk' } ∧ j ≤ n1 ∧ k = n1 + 1 - j ∧ IsRangeIter h' I1 (0 + (j : Nat) * 1) ((n1 : Int) - (j : Nat)) 1 ∧ h'.get? I = some oI ∧ mC' x0 = some v ∧ Kept h₀ L m R news D C (top + j) h' ys' ss' mC') ?_ (n1 + 1)
      ⟨h, tk, 0, ys, ss, mC, rfl, Nat.zero_le _, rfl, hst, hI, hv, K⟩
    rintro k s' ⟨h', tk', j, ys', ss', mC', rfl, hj, rfl, hst', hI', hv', K'⟩
    by_cases hlt : j < n1
    · refine W.item j _ _ _ hlt hst' fun v1 h₂ tk₂ hP1 hst₂ hk₂ => ?_
      obtain ⟨t1, rfl⟩ := hP1
      refine wpAny_assign_Name (wpAny_storeName_local (lookup_relabel_local hx1) (K'.k5.at' fun o e => hk₂ _ o (by simpa using Ne.symm h1C) e) (fun h₃ hn₃ hs₃ => ?_) (by simp [compEnvC, relabel, hkind]))
      have hst₃ : IsRangeIter h₃ I1 (0 + ((j + 1 : Nat) : Int) * 1) ((n1 : Int) - ((j + 1 : Nat) : Int)) 1 := W.frame _ _ _ hst₂ fun b hb o e => hs₃.extBut b o (fun q => h1C ((List.mem_singleton.mp hb).symm.trans q)) e
      obtain ⟨oI1, heI1⟩ : ∃ o, h₃.get? I1 = some o := ⟨_, hst₃⟩
      obtain ⟨oC, heC, hoC⟩ := LCg.ns_obj hn₃
      have F₃ : Fr h₀ L h₃ m := (LCg.fr_but K'.k4 hk₂ h1L h1₀).change hs₃ hCL hC₀
      have heI : h₃.get? I = some oI := hs₃.extBut _ _ hIC (hk₂ _ _ (by simpa using Ne.symm h1I) hI')
      have off3 := off.mem
      have N₂ : News h₀ L h₂ ((D, LCg.lst ys') :: news) := LCg.news_but K'.k6 hk₂ fun p hp => by
        rcases List.mem_cons.mp hp with rfl | hp
        · exact Ne.symm h1D
        · exact off1 p hp
      have N₃ : News h₀ L h₃ ((I1, oI1) :: (C, oC) :: (D, LCg.lst ys') :: (I, oI) :: news) := fun p hp => by
        rcases List.mem_cons.mp hp with rfl | hp
        · exact ⟨heI1, Ne.symm h1L, h1₀⟩
        rcases List.mem_cons.mp hp with rfl | hp
        · exact ⟨heC, hCL, hC₀⟩
        rcases List.mem_cons.mp hp with rfl | hp
        · have z := N₂ (D, LCg.lst ys') (List.mem_cons_self ..)
          exact ⟨hs₃.extBut _ _ (Ne.symm hCD) z.1, z.2⟩
        rcases List.mem_cons.mp hp with rfl | hp
        · exact ⟨heI, Ne.symm hIL, hI₀⟩
        · have z := N₂ p (List.mem_cons_of_mem _ hp)
          exact ⟨hs₃.extBut _ _ (off3 p hp).2.1 z.1, z.2⟩
      have offE : LCg.Off3 I1 C D ((I, oI) :: news) := ⟨⟨Ne.symm h1I, hIC, hID⟩, LCg.Off3.of fun p hp => ⟨off1 p hp, (off3 p hp).2.1, (off3 p hp).2.2⟩⟩
      refine wpAny_mono (helt (0 + (j : Int)) t1 oI1 oC _ ys' h₃ _ (by omega) (by omega) hoC (by simp [hx01, hv']) (by simp) F₃ N₃ offE) (fun y s₄ h₄ => ?_) fun _ _ e => e
      obtain ⟨h₄, tk₄, nw, rfl, F₄, N₄, -, -, rfl, r, tr, rfl, hR⟩ := h₄
      have zI1 := (N₄ (I1, oI1) (List.mem_cons_self ..)).1
      have zC := (N₄ (C, oC) (List.mem_cons_of_mem _ (List.mem_cons_self ..))).1
      have zD := (N₄ (D, LCg.lst ys') (List.mem_cons_of_mem _ (List.mem_cons_of_mem _ (List.mem_cons_self ..)))).1
      have N₄' : News h₀ L h₄ ((I, oI) :: news) := fun p hp => N₄ p (List.mem_cons_of_mem _ (List.mem_cons_of_mem _ (List.mem_cons_of_mem _ hp)))
      have hst₄ := LCg.range_st (h₀ := h₀) (L := L) (j + 1) h₃ h₄ oI1 _ hst₃ heI1 zI1 F₄.keep N₄' trivial
      refine append_at (hsz := by show ys'.toArray.size ≤ sizeLine; rw [List.size_toArray]; have := K'.k2; omega) zD fun h₅ hs₅ hD₅ => ?_
      refine ⟨n1 + 1 - (j + 1), by omega, h₅, tk₄, j + 1, ys' ++ [.str r tr], ss' ++ [r], (fun y => if y = x1 then some (Value.int (0 + (j : Int)) t1) else mC' y), rfl, hlt, rfl, ?_, hs₅.extBut _ _ hID (N₄' _ (List.mem_cons_self ..)).1, by simp [hx01, hv'], ?_⟩
      · exact W.frame _ _ _ hst₄ fun b hb o e => hs₅.extBut b o (fun q => h1D ((List.mem_singleton.mp hb).symm.trans q)) e
      · refine ⟨kct_snoc K'.k1, by rw [List.length_append, List.length_singleton]; have := K'.k2; omega, fun r' hr' => ?_, F₄.change hs₅ hDL hD₀, (hoC.ns zC).sameBut hs₅ hCD, fun p hp => ?_⟩
        · rcases List.mem_append.mp hr' with q | q
          · exact K'.k3 r' q
          · rw [List.mem_singleton.mp q]; exact hR
        · rcases List.mem_cons.mp hp with rfl | hp
          · exact ⟨hD₅.trans (congrArg some (LCg.lst_snoc ys' _)), hDL, hD₀⟩
          · have z := N₄' p (List.mem_cons_of_mem _ hp)
            exact ⟨hs₅.extBut _ _ (off3 p hp).2.2 z.1, z.2⟩
    · obtain rfl : j = n1 := Nat.le_antisymm hj (Nat.not_lt.mp hlt)
      refine W.done _ _ _ hst' fun h₂ tk₂ hk₂ => ?_
      refine ⟨h₂, tk₂, ys', ss', mC', rfl, hk₂ _ _ (by simpa using Ne.symm h1I) hI', K'.k1, K'.k2, K'.k3, LCg.fr_but K'.k4 hk₂ h1L h1₀, K'.k5.at' fun o e => hk₂ _ o (by simpa using Ne.symm h1C) e, LCg.news_but K'.k6 hk₂ fun p hp => ?_⟩
      rcases List.mem_cons.mp hp with rfl | hp
      · exact Ne.symm h1D
      · exact off1 p hp
  exact start1 loop (W.self 0 _ _ _ hst loop)
theorem Kept.up {R : Str → Prop} {D C : Addr} {a b : Nat} {h : Heap} {ys : List Value} {ss : List Str} {mC : Str → Option Value} (K : Kept h₀ L m R news D C a h ys ss mC) (hab : a ≤ b) : Kept h₀ L m R news D C b h ys ss mC :=
  ⟨K.k1, Nat.le_trans K.k2 hab, K.k3, K.k4, K.k5, K.k6⟩
/-- the new list and the new frame of a comprehension -/
theorem begun {I : Addr} {RR : Value → Addr → Result → Shared → Prop} (hcell : ∀ y ∈ scope.names, y.2 ≠ .cell) (hkind : scope.kind = .function)
    (h : ∀ D C h₁ mC, s₂.heap.objs.size ≤ D → s₂.heap.objs.size ≤ C → D ≠ C → (∀ b o, s₂.heap.get? b = some o → h₁.get? b = some o) → h₁.get? D = some (LCg.lst []) → h₁.Ns C mC →
      codeAny (model prog w) A (.compStart (two elt x0 x1 p0 p1 it0 it1 scope pos) 0 (.ref I) (.ref D) (compEnvC scope cl C env)) (RR (.ref D) C) { s₂ with heap := h₁, toks := s₂.toks + ([] : List (Str × Value)).length }) :
    wpAny (model prog w) A (newList []) (fun acc s₃ => wpAny (model prog w) A (newFunctionEnv scope env.globals cl [] env.qual none .none (some env)) (fun cenv s₄ =>
      codeAny (model prog w) A (.compStart (two elt x0 x1 p0 p1 it0 it1 scope pos) 0 (.ref I) acc { cenv with scope := relabel scope env }) (RR acc cenv.locals) s₄) E s₃) E s₂ := by
  refine wpAny_newObj_type (wpAny_newFunctionEnv hcell (fun _ hy => nomatch hy) (fun h₁ ns same => ?_) hkind)
  have one := Heap.size_push s₂.heap { cls := .type "list", dict := none, data := .seq ([] : List Value).toArray }
  have keep := fun b o hb e => same.extBut b o hb (Heap.get?_push_of_some _ e)
  refine h _ _ h₁ _ (Nat.le_refl _) (by rw [one]; exact Nat.le_succ _) (by rw [one]; exact Nat.ne_of_lt (Nat.lt_succ_self _)) (fun b o e => keep b o ?_ (Heap.get?_push_of_some _ e)) (keep _ _ ?_ (Heap.get?_push_size _ rfl)) ns
  · rw [one]; exact Nat.ne_of_lt (Nat.lt_succ_of_lt (Heap.lt_size e))
  · rw [one]; exact Nat.ne_of_lt (Nat.lt_succ_self _)
theorem block2 {I : Addr} {fp : List Addr} {n : Nat} {P : Nat → Value → Prop} {St : Nat → Heap → Prop} {Kb : Nat → Int → Prop} {R : Str → Prop} {RR : Value → Addr → Result → Shared → Prop}
    (W : Walks prog w A I fp [I] n P St) (hh : A.handled = none) (hn : n ≤ 100) (hIo : ∀ i h, St i h → ∃ o, h.get? I = some o)
    (hSt : ∀ i h h' o, St i h → h.get? I = some o → h'.get? I = some o → (∀ b o, h₀.get? b = some o → h'.get? b = some o) → News h₀ L h' news → St i h')
    (hcell : ∀ y ∈ scope.names, y.2 ≠ .cell) (hkind : scope.kind = .function) (hx0 : scope.names.lookup x0 = some .local) (hx1 : scope.names.lookup x1 = some .local) (hx01 : x0 ≠ x1)
    (hst : St 0 s₂.heap) (hfp : ∀ b ∈ fp, b < s₂.heap.objs.size) (F : Fr h₀ L s₂.heap m) (N : News h₀ L s₂.heap news) (hIL : L ≠ I) (hI₀ : h₀.get? I = none) (off : ∀ p ∈ news, p.1 ≠ I)
    (hs : ∀ C x, foldedSetIterable it1 (compEnvC scope cl C env) x = pure x) (hK : ∀ i b, Kb i b → 0 ≤ b ∧ b ≤ 100)
    (hit : ∀ i v I oI C oC D m₂ ys h tk, P i v → LCg.NsObj oC m₂ → m₂ x0 = some v → Fr h₀ L h m → News h₀ L h ((I, oI) :: (C, oC) :: (D, LCg.lst ys) :: news) → LCg.Off3 I C D news →
      wpAny (model prog w) A (eval it1 (compEnvC scope cl C env)) (RngEnd h₀ L m { s₂ with heap := h, toks := tk } ((I, oI) :: (C, oC) :: (D, LCg.lst ys) :: news) (Kb i)) (fun _ _ => False) { s₂ with heap := h, toks := tk })
    (helt : ∀ i v b (z : Int) t I1 oI1 I oI C oC D m₂ ys h tk, P i v → Kb i b → 0 ≤ z → z < b → LCg.NsObj oC m₂ → m₂ x0 = some v → m₂ x1 = some (.int z t) → Fr h₀ L h m → News h₀ L h ((I1, oI1) :: (C, oC) :: (D, LCg.lst ys) :: (I, oI) :: news) → LCg.Off3 I1 C D ((I, oI) :: news) →
      wpAny (model prog w) A (eval elt (compEnvC scope cl C env)) (LCg.CompEnd h₀ L m { s₂ with heap := h, toks := tk } I1 oI1 C oC D (LCg.lst ys) (fun _ => True) (ElP R ((I, oI) :: news))) (fun _ _ => False) { s₂ with heap := h, toks := tk })
    (hRR : ∀ D C h tk m' ys ss, StrsAre ys ss → ys.length ≤ 100 * n → (∀ r ∈ ss, R r) → Fr h₀ L h m → News h₀ L h ((D, LCg.lst ys) :: news) → LCg.Off1 D news → h.Ns C m' → h₀.get? C = none → h₀.get? D = none → C ≠ L → D ≠ L → C ≠ D → (∀ p ∈ news, p.1 ≠ C) → RR (.ref D) C (.ok .next) { s₂ with heap := h, toks := tk }) :
    wpAny (model prog w) A (newList []) (fun acc s₃ => wpAny (model prog w) A (newFunctionEnv scope env.globals cl [] env.qual none .none (some env)) (fun cenv s₄ =>
      codeAny (model prog w) A (.compStart (two elt x0 x1 p0 p1 it0 it1 scope pos) 0 (.ref I) acc { cenv with scope := relabel scope env }) (RR acc cenv.locals) s₄) E s₃) E s₂ := by
  refine begun hcell hkind fun D C h₁ mC gD gC hDC old hacc hns₁ => ?_
  have far : ∀ {a b : Nat}, a < s₂.heap.objs.size → s₂.heap.objs.size ≤ b → a ≠ b := fun la lb => Nat.ne_of_lt (Nat.lt_of_lt_of_le la lb)
  have unmade : ∀ a, s₂.heap.objs.size ≤ a → h₀.get? a = none := fun a ha => Heap.get?_none_of_le (Nat.le_trans F.above (Nat.le_trans (Nat.le_of_lt F.ns.lt) ha))
  have hD₀ := unmade D gD
  have hC₀ := unmade C gC
  have hIlt := hfp I (W.sub I (List.mem_cons_self ..))
  have hDL : D ≠ L := Ne.symm (far F.ns.lt gD)
  have hCL : C ≠ L := Ne.symm (far F.ns.lt gC)
  have hCI : I ≠ C := far hIlt gC
  have hDI : I ≠ D := far hIlt gD
  have hCf : C ∉ fp := fun hm => far (hfp C hm) gC rfl
  have off₀ : LCg.Off3 I C D news := LCg.Off3.of fun p hp => ⟨off p hp, far (Heap.lt_size (N p hp).1) gC, far (Heap.lt_size (N p hp).1) gD⟩
  have off3 := off₀.mem
  have hst₁ : St 0 h₁ := W.frame 0 s₂.heap h₁ hst fun b _ => old b
  have loop : codeAny (model prog w) A (.compLoop (two elt x0 x1 p0 p1 it0 it1 scope pos) 0 (.ref I) (.ref D) (compEnvC scope cl C env)) (RR (.ref D) C) { s₂ with heap := h₁, toks := s₂.toks + ([] : List (Str × Value)).length } := by
    refine loop0 (fun k s' => ∃ h' tk i ys ss mC', s' = { s₂ with heap := h', toks := tk } ∧ i ≤ n ∧ k = n + 1 - i ∧ St i h' ∧ Kept h₀ L m R news D C (100 * i) h' ys ss mC') (hs C) ?_ (n + 1)
      ⟨h₁, _, 0, [], [], _, rfl, Nat.zero_le _, rfl, hst₁, .nil, Nat.zero_le _, (fun r h => nomatch h), F.keeps old, hns₁, fun p hp => ?_⟩
    · rintro k s' ⟨h', tk, i, ys, ss, mC', rfl, hi, rfl, hst', K'⟩
      by_cases hlt : i < n
      · refine W.item i _ _ _ hlt hst' fun v h₂ tk₂ hPv hst₂ hk₂ => ?_
        refine wpAny_assign_Name (wpAny_storeName_local (lookup_relabel_local hx0) (K'.k5.at' fun o e => hk₂ _ o (by simpa using Ne.symm hCI) e) (fun h₃ hn₃ hs₃ => ?_) (by simp [compEnvC, relabel, hkind]))
        have hst₃ : St (i + 1) h₃ := W.frame _ _ _ hst₂ fun b hb o e => hs₃.extBut b o (fun q => hCf (by have q' : b = C := q; rw [← q']; exact hb)) e
        obtain ⟨oI, heI⟩ := hIo _ _ hst₃
        obtain ⟨oC, heC, hoC⟩ := LCg.ns_obj hn₃
        have F₃ : Fr h₀ L h₃ m := (LCg.fr_but K'.k4 hk₂ hIL hI₀).change hs₃ hCL hC₀
        have N₂ : News h₀ L h₂ ((D, LCg.lst ys) :: news) := LCg.news_but K'.k6 hk₂ fun p hp => by
          rcases List.mem_cons.mp hp with rfl | hp
          · exact Ne.symm hDI
          · exact (off3 p hp).1
        have N₃ : News h₀ L h₃ ((I, oI) :: (C, oC) :: (D, LCg.lst ys) :: news) := fun p hp => by
          rcases List.mem_cons.mp hp with rfl | hp
          · exact ⟨heI, Ne.symm hIL, hI₀⟩
          rcases List.mem_cons.mp hp with rfl | hp
          · exact ⟨heC, hCL, hC₀⟩
          have z := N₂ p hp
          refine ⟨hs₃.extBut _ _ ?_ z.1, z.2⟩
          rcases List.mem_cons.mp hp with rfl | hp
          · exact hDC
          · exact (off3 p hp).2.1
        refine wpAny_mono (hit i v I oI C oC D _ ys h₃ _ hPv hoC (by simp) F₃ N₃ off₀) (fun y s₄ h₄ => ?_) fun _ _ e => e
        obtain ⟨r, b, t, u, v', h₄, tk₄, rfl, rfl, F₄, N₄, hr, hb⟩ := h₄
        obtain ⟨hb0, hb100⟩ := hK i b hb
        have hn1 : Builtin.Range.rangeSize 0 b 1 = ((b.toNat : Nat) : Int) := by rw [rangeSize_nat]; simp
        refine wpAny_pyIter_range hr (small_one (by decide) (by decide) (by omega) (by omega)) ?_
        have up : ∀ o' a o, h₄.get? a = some o → (h₄.push o').get? a = some o := fun o' a o e => Heap.get?_push_of_some _ e
        have lt4 : ∀ a o, h₄.get? a = some o → a ≠ h₄.objs.size := fun a o e => Nat.ne_of_lt (Heap.lt_size e)
        have zI := (N₄ (I, oI) (List.mem_cons_self ..)).1
        have zC := (N₄ (C, oC) (List.mem_cons_of_mem _ (List.mem_cons_self ..))).1
        have zD := (N₄ (D, LCg.lst ys) (List.mem_cons_of_mem _ (List.mem_cons_of_mem _ (List.mem_cons_self ..)))).1
        have N₅ : News h₀ L h₄ ((D, LCg.lst ys) :: news) := fun p hp => N₄ p (List.mem_cons_of_mem _ (List.mem_cons_of_mem _ hp))
        refine codeAny_mono (inner (s₂ := s₂) (n1 := b.toNat) (top := 100 * i) (R := R) (v := v) (oI := oI) (ys := ys) (ss := ss) (news := news) hh hx1 hkind hx01 (by rw [sizeLine_eq]; omega) hCL hDL hC₀ hD₀ hIL hI₀
          (Nat.ne_of_lt F₄.ns.lt) (next_is_new F₄) hCI hDI (Ne.symm hDC) (Ne.symm (lt4 _ _ zI)) (Ne.symm (lt4 _ _ zC)) (Ne.symm (lt4 _ _ zD)) off₀ (fun p hp => lt4 _ _ (N₅ p (List.mem_cons_of_mem _ hp)).1)
          (by show IsRangeIter _ _ _ _ _; rw [← hn1]; simpa using Heap.get?_push_size _ rfl) (up _ _ _ zI) (by simp) ⟨K'.k1, K'.k2, K'.k3, F₄.keeps (up _), hoC.ns (up _ _ _ zC), News.grown N₅ (up _)⟩
          (fun z t oI1 oC' m₂ ys' h tk hz0 hz1 a1 a2 a3 a4 a5 a6 => helt i v b z t _ oI1 I oI C oC' D m₂ ys' h tk hPv hb hz0 (by omega) a1 a2 a3 a4 a5 a6)) ?_
        intro r' s₅ h₅
        cases r' with
        | error e => exact h₅
        | ok f =>
          obtain ⟨h₆, tk₆, ys₆, ss₆, mC₆, rfl, hI₆, K₆⟩ := h₅
          exact ⟨n + 1 - (i + 1), by omega, h₆, tk₆, i + 1, ys₆, ss₆, mC₆, rfl, hlt, rfl, hSt _ _ _ _ hst₃ heI hI₆ K₆.k4.keep (fun p hp => K₆.k6 p (List.mem_cons_of_mem _ hp)), K₆.up (by omega)⟩
      · obtain rfl : i = n := Nat.le_antisymm hi (Nat.not_lt.mp hlt)
        refine W.done _ _ _ hst' fun h₂ tk₂ hk₂ => ?_
        exact hRR _ _ h₂ tk₂ _ ys ss K'.k1 K'.k2 K'.k3 (LCg.fr_but K'.k4 hk₂ hIL hI₀) (LCg.news_but K'.k6 hk₂ fun p hp => by
          rcases List.mem_cons.mp hp with rfl | hp
          · exact Ne.symm hDI
          · exact (off3 p hp).1) off₀.one (K'.k5.at' fun o e => hk₂ _ o (by simpa using Ne.symm hCI) e) hC₀ hD₀ hCL hDL (Ne.symm hDC) (fun p hp => (off3 p hp).2.1)
    · rcases List.mem_cons.mp hp with rfl | hp
      · exact ⟨hacc, hDL, hD₀⟩
      · exact ⟨old _ _ (N p hp).1, (N p hp).2⟩
  exact codeAny_compStart_list loop (W.self 0 _ _ _ hst₁ loop)
def TupAt (h₀ : Heap) (ax : Addr) (its : Array Value) (news : List (Addr × Obj)) : Prop := h₀.IsTuple ax its ∨ ∃ o, (ax, o) ∈ news ∧ o.cls = .type "tuple" ∧ ∃ n, o.data = .seq its n
theorem TupAt.tup {h : Heap} {ax : Addr} {its : Array Value} (x : TupAt h₀ ax its news) (k : ∀ b o, h₀.get? b = some o → h.get? b = some o) (N : News h₀ L h news) : h.IsTuple ax its := by
  rcases x with ⟨o, e, r⟩ | ⟨o, hm, r⟩
  · exact ⟨o, k _ _ e, r⟩
  · exact ⟨o, (N _ hm).1, r⟩
def Src2 (prog : Program) (w : World) (A : Around) (h₀ : Heap) (L : Addr) (m : Str → Option Value) (env : Env) (elt it1 : Expr) (x0 x1 : Str) (scope : Scope) (cl : List (Str × Addr)) (Fin : Shared → List Value → List (Addr × Obj) → Prop) (xv : Value) (s₁ : Shared) : Prop :=
  ∃ (ax : Addr) (its : Array Value) (news : List (Addr × Obj)) (Kb : Nat → Int → Prop) (R : Str → Prop), xv = .ref ax ∧ A.handled = none ∧ Fr h₀ L s₁.heap m ∧ News h₀ L s₁.heap news ∧ TupAt h₀ ax its news ∧ its.size ≤ 100 ∧ (∀ i b, Kb i b → 0 ≤ b ∧ b ≤ 100) ∧
    ∀ s₂ : Shared, (∃ h, s₂ = { s₁ with heap := h }) →
      (∀ i v I oI C oC D m₂ ys h tk, its[i]? = some v → LCg.NsObj oC m₂ → m₂ x0 = some v → Fr h₀ L h m → News h₀ L h ((I, oI) :: (C, oC) :: (D, LCg.lst ys) :: news) → LCg.Off3 I C D news →
        wpAny (model prog w) A (eval it1 (compEnvC scope cl C env)) (RngEnd h₀ L m { s₂ with heap := h, toks := tk } ((I, oI) :: (C, oC) :: (D, LCg.lst ys) :: news) (Kb i)) (fun _ _ => False) { s₂ with heap := h, toks := tk }) ∧
      (∀ i v b (z : Int) t I1 oI1 I oI C oC D m₂ ys h tk, its[i]? = some v → Kb i b → 0 ≤ z → z < b → LCg.NsObj oC m₂ → m₂ x0 = some v → m₂ x1 = some (.int z t) → Fr h₀ L h m → News h₀ L h ((I1, oI1) :: (C, oC) :: (D, LCg.lst ys) :: (I, oI) :: news) → LCg.Off3 I1 C D ((I, oI) :: news) →
        wpAny (model prog w) A (eval elt (compEnvC scope cl C env)) (LCg.CompEnd h₀ L m { s₂ with heap := h, toks := tk } I1 oI1 C oC D (LCg.lst ys) (fun _ => True) (ElP R ((I, oI) :: news))) (fun _ _ => False) { s₂ with heap := h, toks := tk }) ∧
      (∀ ys ss, StrsAre ys ss → ys.length ≤ 100 * its.size → (∀ r ∈ ss, R r) → Fin s₂ ys news)
theorem Assign_two {y : Str} {py spos : Pos} {s : Shared} {Q : Flow → Shared → Prop} (F₀ : Fr h₀ L s.heap m) (hLe : env.locals = L)
    (hsw : swapsWith (two elt x0 x1 p0 p1 it0 it1 scope pos) (some (.Name y py)) spos.line env = pure true)
    (hclos : closureFor scope env = pure cl) (hcell : ∀ z ∈ scope.names, z.2 ≠ .cell) (hkind : scope.kind = .function)
    (hnames : ∀ z ∈ scope.names, z.2 = .local → scope.names.lookup z.1 = some .local) (hx0 : scope.names.lookup x0 = some .local) (hx1 : scope.names.lookup x1 = some .local) (hx01 : x0 ≠ x1)
    (hy : env.kindOf y = some .local) (hp : (env.scope.kind == .class || (env.scope.kind == .module && env.locals != env.globals)) = false)
    (h : wpAny (model prog w) A (eval it0 env) (Src2 prog w A h₀ L m env elt it1 x0 x1 scope cl (fun s₂ => LCg.FinA h₀ L m s₂ y Q)) E s)
    (hs : ∀ x, foldedSetIterable it0 env x = pure x := by intro _; rfl) (hs1 : ∀ C x, foldedSetIterable it1 (compEnvC scope cl C env) x = pure x := by intro _ _; rfl) :
    wpAny (model prog w) A (exec (.Assign [.Name y py] (two elt x0 x1 p0 p1 it0 it1 scope pos) spos) env) Q E s := by
  subst hLe
  rw [exec_Assign_Name_used _ _ _ _ hsw]
  refine wpAny_bind (wpAny_standAt (wpAny_bind ?_))
  show wpAny _ A (do let _ ← comprehension (two elt x0 x1 p0 p1 it0 it1 scope pos) scope env _ (newList []) false (eval it0 env) (some (assign (.Name y py) env))) _ _ s
  refine wpAny_bind (wpAny_mono (wpAny_comprehension_free (use := some (assign (.Name y py) env)) (Q := fun _ s' => Q .next s') rfl hs hclos hkind hnames
    (wpAny_mono h (fun xv s₁ h₁ => ?_) fun _ _ e => e)) (fun _ s' hq => wpAny_pure (wpAny_pure hq)) fun _ _ e => e)
  obtain ⟨ax, its, news, Kb, R, rfl, hh, F, N, S, hsz, hK, rest⟩ := h₁
  have hl := S.tup F.keep N
  have hlt : ax < s₁.heap.objs.size := by obtain ⟨_, e, _⟩ := hl; exact Heap.lt_size e
  refine wpAny_pyIter_tuple hl ?_
  have up : ∀ b o, s₁.heap.get? b = some o → (s₁.heap.push { cls := .type "tuple_iterator", data := .fields #[.ref ax, .int 0 0] }).get? b = some o := fun b o e => Heap.get?_push_of_some _ e
  obtain ⟨r1, r2, r3⟩ := rest { s₁ with heap := s₁.heap.push { cls := .type "tuple_iterator", data := .fields #[.ref ax, .int 0 0] } } ⟨_, rfl⟩
  refine block2 (Kb := Kb) (R := R) (Walks.tuple hh s₁.heap.objs.size ax (Nat.ne_of_lt hlt) its) hh hsz (fun i h st => by obtain ⟨o, e, _⟩ := st.1; exact ⟨o, e⟩)
    (fun i h h' o st e e' k N' => ⟨by obtain ⟨o', q, r⟩ := st.1; rw [e] at q; cases q; exact ⟨o, e', r⟩, S.tup k N'⟩) hcell hkind hx0 hx1 hx01 ⟨⟨_, Heap.get?_push_size _ rfl, rfl, rfl⟩, by obtain ⟨o, e, r⟩ := hl; exact ⟨o, up _ _ e, r⟩⟩ (fun b hb => ?_)
    (F.keeps up) (N.grown up) (Nat.ne_of_lt F.ns.lt) (next_is_new F) (fun p hp => Nat.ne_of_lt (Heap.lt_size (N p hp).1)) hs1 hK r1 r2 ?_
  · show b < (s₁.heap.push _).objs.size
    rw [Heap.size_push]
    rcases List.mem_cons.mp hb with rfl | hb
    · exact Nat.lt_succ_self _
    · rw [List.mem_singleton.mp hb]; exact Nat.lt_succ_of_lt hlt
  · intro D C h' tk m' ys ss hys hyl hR F' N' o1 hn hC₀ hD₀ hCL hDL hCD offC
    have fin := r3 ys ss hys hyl hR
    show wpAny _ A (assign (.Name y py) env (.ref D)) _ _ _
    refine wpAny_assign_Name (wpAny_storeName_local hy F'.ns (fun h₂ ns₂ same => ?_) hp)
    have mine : h₀.get? env.locals = none := Heap.get?_none_of_le F'.above
    have away : ∀ p ∈ (D, LCg.lst ys) :: news, p.1 ≠ C := List.forall_mem_cons.mpr ⟨Ne.symm hCD, offC⟩
    have bound : Fr h₀ env.locals h₂ (fun z => if z = y then some (.ref D) else m z) := by
      refine ⟨ns₂, fun b o e => same.extBut b o ?_ (F'.keep b o e), F'.above⟩
      intro c
      rw [c, mine] at e
      cases e
    exact ⟨m', hn.sameBut same hCL, fun h₃ gone => fin D h₃ _ (bound.change gone hCL hC₀) (fun p hp => ⟨gone.extBut _ _ (away p hp) (same.extBut _ _ (N' p hp).2.1 (N' p hp).1), (N' p hp).2⟩) o1⟩
end
end C2
end Mine
end PartL2Comp
section PartL3Cap2
open PySem PySem.W PyProof.Rows PySem.Builtin PySem.Builtin.Str
set_option maxRecDepth 100000
namespace Mine
def capPart (p : Str) : Str := Txt.upper (Txt.slice p none (some 1)) ++ Txt.lower (Txt.slice p (some 1) none)
theorem slice_to_list {x : Str} {n : Nat} (h : n ≤ x.length) : (Txt.slice x none (some (n : Int))).cps.toList = x.cps.toList.take n := by
  have e := StrLaws.sliceText_to (x := x) (j := (n : Int)) ⟨by omega, by rw [len_list]; omega⟩
  show (StrLaws.sliceText x none (some (n : Int))).cps.toList = _
  rw [e]
  have e1 : ((n : Int) - 0).toNat = n := by omega
  rw [e1, List.drop_zero]
theorem slice_from_list {x : Str} {n : Nat} (h : n ≤ x.length) : (Txt.slice x (some (n : Int)) none).cps.toList = x.cps.toList.drop n := by
  have e := StrLaws.sliceText_from (x := x) (i := (n : Int)) ⟨by omega, by rw [len_list]; omega⟩
  show (StrLaws.sliceText x (some (n : Int)) none).cps.toList = _
  rw [e]
  have e1 : ((x.cps.toList.length : Int) - (n : Int)).toNat = x.length - n := by rw [len_list]; omega
  have e2 : (n : Int).toNat = n := by omega
  rw [e1, e2, List.take_of_length_le (by rw [List.length_drop, len_list]; exact Nat.le_refl _)]
theorem nil_of_len {x : Str} (h : x.length = 0) : x.cps.toList = [] := List.eq_nil_of_length_eq_zero (by rw [len_list]; exact h)
theorem slice_one (x : Str) : (Txt.slice x none (some 1)).cps.toList = x.cps.toList.take 1 := by
  by_cases h : 1 ≤ x.length
  · exact slice_to_list (n := 1) h
  · have h0 : x.length = 0 := by omega
    have := Txt.slice_le x none (some 1)
    rw [nil_of_len h0, nil_of_len (x := Txt.slice x none (some 1)) (by omega)]; rfl
theorem slice_rest (x : Str) : (Txt.slice x (some 1) none).cps.toList = x.cps.toList.drop 1 := by
  by_cases h : 1 ≤ x.length
  · exact slice_from_list (n := 1) h
  · have h0 : x.length = 0 := by omega
    have := Txt.slice_le x (some 1) none
    rw [nil_of_len h0, nil_of_len (x := Txt.slice x (some 1) none) (by omega)]; rfl
theorem mapIdx_const (f : Nat → Nat) (l : List Nat) : (l.mapIdx fun _ c => f c) = l.map f := by
  apply List.ext_getElem (by simp)
  intro i h1 h2
  simp
theorem upper_list {x : Str} (h : ∀ c ∈ x.cps.toList, c < 128) : (Txt.upper x).cps.toList = x.cps.toList.map (conv true) := by
  show (placed x _).toList = _
  rw [placed_list x _ (fun _ c => conv true c), mapIdx_const]
  intro i hi
  exact upper_ascii _ (h _ (Array.mem_toList_iff.mpr (Array.getElem_mem hi)))
theorem lower_list {x : Str} (h : ∀ c ∈ x.cps.toList, c < 128) : (Txt.lower x).cps.toList = x.cps.toList.map (conv false) := by
  show (placed x _).toList = _
  rw [placed_list x _ (fun _ c => conv false c), mapIdx_const]
  intro i hi
  exact lowerAt_ascii hi (h _ (Array.mem_toList_iff.mpr (Array.getElem_mem hi)))
theorem capPart_eq {p : Str} (h : Ascii p) : capPart p = Txt.capitalize p := by
  apply str_ext
  rw [ascii_list] at h
  unfold capPart
  rw [cap_ascii (ascii_list.mpr h), Str.cps_append, Array.toList_append, upper_list, lower_list, slice_one, slice_rest]
  · cases p.cps.toList with
    | nil => rfl
    | cons c r => rfl
  · intro c hc; rw [slice_rest] at hc; exact h c (List.mem_of_mem_drop hc)
  · intro c hc; rw [slice_one] at hc; exact h c (List.mem_of_mem_take hc)
theorem capParts_eq {txt mark : Str} (hA : Ascii txt) (hm : 1 ≤ mark.length) : (Txt.split txt mark).map capPart = (Txt.split txt mark).map Txt.capitalize :=
  List.map_congr_left fun p hp => capPart_eq (ascii_parts hA hm p hp)
end Mine
end PartL3Cap2
section PartL2IAdd
open PySem PySem.W PyProof.Rows
set_option maxRecDepth 100000
namespace Mine
section
variable {prog : Program} {w : World} {A : Around} {E : Value → Shared → Prop} {s : Shared} {h₀ : Heap} {L : Addr} {m : Str → Option Value} {rest : List (Addr × Obj)}
/-- a list's += is list.__iadd__ -/
theorem iadd_list {a b : Value} {Q : Value → Shared → Prop} (ha : s.TypeIs a "list") (hb : s.TypeIs b "list") (hc : wpAny (model prog w) A (call (.builtin "list.__iadd__") [a, b]) Q E s) : wpAny (model prog w) A (inplaceOp .Add a b) Q E s := by
  have seq : isSeqSlot (some (.builtin "list.__iadd__")) = true := by decide +kernel
  have no : fillsInplaceSlot (.type "list") "add" true = pure false := by
    simp only [fillsInplaceSlot, PySem.F.slot_list_iadd.lookup, pure_bind, seq]
    rfl
  have yes := PySem.seqSlot_of PySem.F.slot_list_iadd.lookup seq
  exact wpAny_holding (wpAny_bind (wpAny_typeOf ha (wpAny_bind (wpAny_of_eq no (wpAny_bind (wpAny_binaryOp1_none ha hb noFill_list_add (wpAny_bind (wpAny_of_eq yes (wpAny_bind (wpAny_rule hc))))))))))
theorem iadd_mid {pre post : List (Addr × Obj)} {l b : Addr} {ys zs : List Value} {n n2 : Nat} {Q : Value → Shared → Prop} (F : Fr h₀ L s.heap m) (N : News h₀ L s.heap (pre ++ (l, listOf ys.toArray n) :: post)) (hb : (b, listOf zs.toArray n2) ∈ pre) (off1 : ∀ p ∈ pre, p.1 ≠ l) (off2 : ∀ p ∈ post, p.1 ≠ l) (hsz : ys.length + zs.length ≤ 100000)
    (h : ∀ h' n', Fr h₀ L h' m → News h₀ L h' (pre ++ (l, listOf (ys ++ zs).toArray n') :: post) → Q (.ref l) { s with heap := h' }) : wpAny (model prog w) A (inplaceOp .Add (.ref l) (.ref b)) Q E s := by
  have z := N _ (List.mem_append_right _ (List.mem_cons_self ..))
  have zb := N _ (List.mem_append_left _ hb)
  refine iadd_list ⟨_, z.1, rfl⟩ ⟨_, zb.1, rfl⟩ ?_
  refine call_meets PySem.F.slot_list_iadd ⟨_, z.1, rfl⟩ PySem.F.entry_list_iadd (PySem.F.args_list_iadd_2 _ _) (AutoSeq1.list___iadd___list_list_0 l ys.toArray n b zs.toArray n2 ?_ ?_ ?_) ⟨z.1, zb.1, ?_⟩
  · intro hh
    simp only [Builtin.List.listTooLong, Bool.and_eq_true, decide_eq_true_eq, List.size_toArray, sizeLine_eq] at hh
    omega
  · rw [List.size_toArray, sizeLine_eq]; omega
  · rw [List.size_toArray, List.size_toArray, sizeLine_eq]; omega
  · refine h _ (if (ys ++ zs).toArray.size == ys.toArray.size then n else n + 1) (F.change (Heap.SameBut.update ..) z.2.1 z.2.2) ?_
    exact ki_turn (fun x => x ++ zs.toArray) (its' := (ys ++ zs).toArray) N off1 off2 (by simp) rfl
end
section
variable {prog : Program} {w : World} {A : Around} {E : Value → Shared → Prop} {s : Shared} {env : Env} {h₀ : Heap} {x : Str} {body : List Stmt} {Q : Flow → Shared → Prop}
theorem kss_tuple {σ : Type} {l : Addr} {vs : List Value} {m₀ : Str → Option Value} (Led : σ → List (Addr × Obj)) (ps : σ → List (Str × Value)) (Facts : σ → Prop) (stored : List Str) (P : Nat → σ → Prop) (c₀ : σ)
    (hh : A.handled = none) (hl : s.heap.IsTuple l vs.toArray) (hlL : l ≠ env.locals) (hoff : ∀ q ∈ Led c₀, q.1 ≠ l) (F : Fr h₀ env.locals s.heap m₀) (N : News h₀ env.locals s.heap (Led c₀)) (hf : Facts c₀) (hk : ∀ p ∈ ps c₀, m₀ p.1 = some p.2) (hp : P 0 c₀)
    (turn : ∀ (c : σ) i v (u : Str → Option Value) h tk own, i < vs.length → vs[i]? = some v → OwnOff own ((Led c₀).map (·.1)) → Facts c → P i c →
      Fr h₀ env.locals h (fun y => if y = x then some v else kstB (fun z => if stored.contains z then u z else m₀ z) (ps c) y) → News h₀ env.locals h (Led c ++ own) →
      wpAny (model prog w) A (execs body env) (InvPostN h₀ env.locals (KsS Led ps Facts x stored m₀ P (i + 1)) own ((Led c₀).map (·.1)) { s with heap := h, toks := tk } Q) E { s with heap := h, toks := tk })
    (done : ∀ (c : σ) (u : Str → Option Value) h tk, Facts c → P vs.length c → Fr h₀ env.locals h (fun y => if y = x then u y else kstB (fun z => if stored.contains z then u z else m₀ z) (ps c) y) → News h₀ env.locals h (Led c) → Q .next { s with heap := h, toks := tk }) :
    wpAny (model prog w) A (pyIter (.ref l)) (fun it s₂ => LoopAtV prog w A h₀ env x body Q E it s₂) E s :=
  have ne : l ≠ s.heap.objs.size := by obtain ⟨_, e, _⟩ := hl; exact Nat.ne_of_lt (Heap.lt_size e)
  wpAny_pyIter_tuple hl (kss_seq _ Led ps Facts stored P c₀ (Walks.tuple hh _ l ne vs.toArray) ⟨⟨_, Heap.get?_push_size _ rfl, rfl, rfl⟩, hl.at fun o e => Heap.get?_push_of_some _ e⟩ hlL hoff F N hf hk hp turn done)

end
end Mine
end PartL2IAdd
section PartL2Marks
open PySem PySem.W PyProof.Rows PySem.Builtin PySem.Builtin.Str
set_option maxRecDepth 100000
namespace Mine
theorem slice_m6 {x : Str} (h : 6 ≤ x.length) : (Txt.slice x none (some (-6))).length = x.length - 6 := by
  have e0 : StrLaws.sliceText x none (some (-6)) = StrLaws.sliceText x none (some ((x.length - 6 : Nat) : Int)) := by
    have a1 : ¬ (((x.length - 6 : Nat) : Int) < 0) := by omega
    have e1 : max (0 : Int) (min (-6 + (x.length : Int)) (x.length : Int)) = max (0 : Int) (min ((x.length - 6 : Nat) : Int) (x.length : Int)) := by omega
    have e2 : strSliceIndices none (some (-6)) 1 x.length = strSliceIndices none (some ((x.length - 6 : Nat) : Int)) 1 x.length := by
      simp only [strSliceIndices, a1, if_false, e1, show ((-6 : Int) < 0) = True by simp, if_true, show ((1 : Int) > 0) = True by simp]
    unfold StrLaws.sliceText
    rw [e2]
  have e : (Txt.slice x none (some (-6))).cps.toList = x.cps.toList.take (x.length - 6) := by
    show (StrLaws.sliceText x none (some (-6))).cps.toList = _
    rw [e0]
    exact slice_to_list (by omega)
  have e2 := congrArg List.length e
  rw [len_list, List.length_take, len_list] at e2
  omega
theorem strs_app : ∀ {ys zs : List Value} {ss zss : List Str}, StrsAre ys ss → StrsAre zs zss → StrsAre (ys ++ zs) (ss ++ zss)
  | _, _, _, _, .nil, h => h
  | _, _, _, _, .cons y t h1, h => .cons y t (strs_app h1 h)
theorem cut_marks {G : Prop} {ys zs : List Value} {ss zss : List Str} {D : Addr} {n9 : Nat} {a : Addr} {o : Obj} {q p1 p2 p3 : Addr × Obj} {h₀ h : Heap} {L : Addr} (hz : StrsAre zs zss) (hzl : zs.length ≤ 4) (hzR : ∀ r ∈ zss, 1 ≤ r.length ∧ r.length ≤ 39)
    (hys : StrsAre ys ss) (hyl : ys.length ≤ 400) (hR : ∀ r ∈ ss, 1 ≤ r.length ∧ r.length ≤ 38) (N : News h₀ L h ([p1, p2, p3] ++ [(D, listOf (ys ++ zs).toArray n9), q, (a, o)]))
    (k : ∀ ms mss, StrsAre ms mss → ms.length ≤ 404 → (∀ r ∈ mss, 1 ≤ r.length ∧ r.length ≤ 39) → News h₀ L h [(D, listOf ms.toArray n9), (a, o)] → G) : G := by
  refine k _ _ (strs_app hys hz) (by rw [List.length_append]; omega) (fun r hr => ?_) (fun p hp => N p ?_)
  · rcases List.mem_append.mp hr with h | h
    · have := hR r h; omega
    · exact hzR r h
  · rcases List.mem_cons.mp hp with e | hp
    · rw [e]; exact List.mem_append_right _ (List.mem_cons_self ..)
    · rw [List.mem_singleton.mp hp]; exact List.mem_append_right _ (List.mem_cons_of_mem _ (List.mem_cons_of_mem _ (List.mem_cons_self ..)))
theorem pick4 {a b c d v : Value} {i : Nat} (h : [a, b, c, d][i]? = some v) : v = a ∨ v = b ∨ v = c ∨ v = d := by
  match i, h with
  | 0, h => exact .inl (Option.some.inj h).symm
  | 1, h => exact .inr (.inl (Option.some.inj h).symm)
  | 2, h => exact .inr (.inr (.inl (Option.some.inj h).symm))
  | 3, h => exact .inr (.inr (.inr (Option.some.inj h).symm))
end Mine
end PartL2Marks
section PartL2Law
open PySem PySem.W PyProof.Rows
set_option maxRecDepth 100000
set_option maxHeartbeats 8000000
namespace Mine
local macro_rules | `(tactic| k_steps) => `(tactic| repeat' (
  (fail_if_success (with_reducible show wpAny _ _ (pyIter _) _ _ _));
  (fail_if_success (with_reducible show wpAny _ _ (exec (Stmt.While _ _ _ _) _) _ _ _));
  (fail_if_success (with_reducible show wpAny _ _ (exec (Stmt.For _ _ _ _ _) _) _ _ _));
  (fail_if_success (with_reducible show wpAny _ _ (eval (Expr.ListComp _ _ _ _) _) _ _ _));
  (fail_if_success (with_reducible show wpAny _ _ (call (Value.ref _) _ _) _ _ _));
  (fail_if_success (with_reducible show C2.RngEnd _ _ _ _ _ _ _ _));
  (fail_if_success (with_reducible show wpAny _ _ (exec (Stmt.Assign _ (Expr.ListComp _ _ _ _) _) _) _ _ _));
  (fail_if_success (with_reducible show C2.Src2 _ _ _ _ _ _ _ _ _ _ _ _ _ _ _ _));
  (fail_if_success (with_reducible show wpAny _ _ (subscriptTail _ _ (Value.ref _) (Value.int _ _)) _ _ _));
  (fail_if_success (with_reducible show wpAny _ _ (eval (Expr.IfExp _ _ _ _) _) _ _ _));
  (fail_if_success (with_reducible show InvPostN _ _ _ _ _ _ _ _ _));
  (fail_if_success (with_reducible show LCg.CompSrc _ _ _ _ _ _ _ _ _ _ _ _ _ _));
  (fail_if_success (with_reducible show LCg.CompEnd _ _ _ _ _ _ _ _ _ _ _ _ _ _));
  (fail_if_success (with_reducible show KswPost _ _ _ _ _ _ _ _ _ _ _ _ _ _));
  first | (k_unfold; (try dsimp only)) | (k_end; wrow_close) | walk1 | (dsimp only; walk1) | (leave1; try dsimp only) | fail "no step"))


theorem tup4 {t1 t2 t3 t4 : Tok} {i : Nat} {v : Value} (h : (#[Value.int 1 t1, Value.int 2 t2, Value.int 3 t3, Value.int 5 t4] : Array Value)[i]? = some v) : ∃ sz t, v = Value.int sz t ∧ [(1 : Int), 2, 3, 5][i]? = some sz ∧ 1 ≤ sz ∧ sz ≤ 5 := by
  match i, h with
  | 0, h => exact ⟨1, t1, (Option.some.inj h).symm, rfl, by decide, by decide⟩
  | 1, h => exact ⟨2, t2, (Option.some.inj h).symm, rfl, by decide, by decide⟩
  | 2, h => exact ⟨3, t3, (Option.some.inj h).symm, rfl, by decide, by decide⟩
  | 3, h => exact ⟨5, t4, (Option.some.inj h).symm, rfl, by decide, by decide⟩
theorem slice_sz {x : Str} {z sz : Int} (h0 : 0 ≤ z) (h1 : 1 ≤ sz) (h5 : sz ≤ 5) (hz : z + sz ≤ x.length) (hx : x.length ≤ 38) : 1 ≤ (Txt.slice x (some z) (some (z + sz))).length ∧ (Txt.slice x (some z) (some (z + sz))).length ≤ 38 := by
  obtain ⟨k, rfl⟩ := Int.eq_ofNat_of_zero_le h0
  obtain ⟨n, rfl⟩ := Int.eq_ofNat_of_zero_le (by omega : 0 ≤ sz)
  have e := slice_list (x := x) (k := k) (n := n) (by omega)
  have e2 := congrArg List.length e
  rw [len_list, List.length_take, List.length_drop, len_list] at e2
  omega
theorem law2 : PySem.Challenge.rw_dn0181_02.Holds := hd02 (by
  k_go0
  all_goals try k_fold
  k_steps
  with_unfolding_all refine text_spec (by k_asm) (by k_asm) (by k_asm) (by k_asm) (by k_asm) rfl _ _ _ _ (.head _) (by assumption) (by omega) ?_
  intro text tx h3 tk3 hl6 hl38 F3 N3
  replace N3 := cb_drop N3 (fun p hp => List.mem_cons_of_mem _ hp)
  k_steps
  rename_i oT F4 N4 dT
  refine For_invVF F4 rfl rfl ?_
  k_steps
  rename_i hR5 F5 N5 _
  refine kst_range (σ := Unit) (fun _ => _) (fun _ => []) (fun _ => True) [Str.ofString "due"] (fun _ _ => True) () rfl hR5 (small_one (by decide) (by decide) (by omega) (by omega)) (rangeSize_nat _ _) F5 N5 trivial (List.forall_mem_nil _) trivial ?_ ?_
  · rintro ⟨⟩ pre k tq u h6 tk6 own hk hlt hoff - - F6 N6
    have hk1 : k = (pre.length : Int) := by omega
    have hk2 : pre.length ≤ 38 := by omega
    clear hk hlt
    subst hk1
    dsimp only [kstB] at F6
    k_steps
    refine LCg.ListComp_U (F₀ := F6) (by with_unfolding_all rfl) (by decide) (by rfl) (by decide) (by rfl) ?_
    k_steps
    rename_i hsl
    with_unfolding_all refine words_spec (by k_asm) (by k_asm) (by k_asm) (by k_asm) (by k_asm) rfl _ _ (by omega) ?_
    intro D ys ss nn h7 tk7 hss hwd F7 N7
    obtain rfl := words2_eq hwd
    clear hwd
    have hww := StrLaws.words_weight (Txt.slice text none (some (pre.length : Int)))
    have hssl := hss.length
    refine LCg.CompSrc.ledger rfl F7 N7 (.head _) (by rw [List.size_toArray, sizeLine_eq]; omega) ?_
    intro g1
    refine comp_rest (fun a v => ∃ t, v = Value.str a t) (Txt.words (Txt.slice text none (some (pre.length : Int)))) Txt.capitalize (by rw [List.size_toArray]; exact hssl.symm) (strs_item hss) ?_ ?_
    · rintro a v I oI C oC D' m₂ ys' h4 tk4 E' ha ⟨ta, rfl⟩ hC hx F4 N4 off ne
      have hal := word_short ha
      k_steps
      exact LCg.CompEnd.intro (by assumption) (by assumption) _ (fun p hp => hp) off (.inr ⟨_, .head _, rfl, _, rfl⟩) ⟨rfl, _, rfl⟩
    · intro zs hzs D2 h8 tk8 F8 N8 off
      k_steps
      refine join_strs (News.isList N8 (.head _)) hzs (joinOk_cap hww (by omega) (by decide +kernel)) ?_
      intro tJ kJ
      replace N8 := cb_drop N8 (fun p hp => List.mem_cons_of_mem _ (List.mem_cons_of_mem _ hp))
      clear hzs hss hssl hww
      k_steps
      with_unfolding_all refine cap_none (by k_asm) (by k_asm) (by k_asm) (by k_asm) (by k_asm) rfl _ _ (by omega) ?_
      intro tc1 h9 tk9 F9 N9
      k_steps
      · exact absurd (show (_ != _) = true by assumption) (by simp)
      with_unfolding_all refine cap_kw (by k_asm) (by k_asm) (by k_asm) (by k_asm) (by k_asm) rfl _ _ (by omega) ?_
      intro tc2 h10 tk10 F10 N10
      k_steps
      · refine kst_end (c := ()) (by assumption) (by assumption) (fun p hp => List.mem_append_left _ hp) (fun p hp => List.mem_append_right _ hp) rfl trivial (List.forall_mem_nil _) ?_ trivial
        intro z hz1 hz2 hz3
        simp only [List.contains_cons, List.contains_nil, Bool.or_false, beq_eq_false_iff_ne, ne_eq] at hz3
        simp [hz1, hz3]
  · rintro ⟨⟩ u h6 tk6 - - F6 N6
    dsimp only [kstB] at F6
    k_steps
    refine C2.Assign_two (F₀ := F6) rfl (by with_unfolding_all rfl) (by with_unfolding_all rfl) (by decide) (by rfl) (by decide) (by rfl) (by rfl) (by decide) (by with_unfolding_all rfl) (by with_unfolding_all rfl) ?_
    k_steps
    refine ⟨_, _, _, (fun i b => ∃ sz : Int, [(1 : Int), 2, 3, 5][i]? = some sz ∧ 1 ≤ sz ∧ sz ≤ 5 ∧ b = (text.length : Int) - sz + 1), (fun r => 1 ≤ r.length ∧ r.length ≤ 38), rfl, rfl, by assumption, by assumption, .inr ⟨_, .head _, rfl, _, rfl⟩, by (show 4 ≤ 100; decide), (fun i b ⟨sz, _, h1, h2, h3⟩ => ⟨by omega, by omega⟩), ?_⟩
    rintro s₂ ⟨g, rfl⟩
    refine ⟨?_, ?_, ?_⟩
    · intro i v I oI C oC D m₂ ys h tk hv hC hx F7 N7 off
      obtain ⟨sz, ts, rfl, hsz, hs1, hs5⟩ := tup4 hv
      clear hv
      k_steps
      exact ⟨_, _, _, _, _, _, _, rfl, rfl, by assumption, by assumption, by assumption, sz, hsz, hs1, hs5, rfl⟩
    · intro i v b z t I1 oI1 I oI C oC D m₂ ys h tk hv hb hz0 hz1 hC hx hx1 F7 N7 off
      obtain ⟨sz, ts, rfl, hsz, hs1, hs5⟩ := tup4 hv
      obtain ⟨sz', hsz', -, -, hb⟩ := hb
      obtain rfl : sz = sz' := Option.some.inj (hsz.symm.trans hsz')
      clear hv hsz hsz'
      have hzz : z + sz ≤ text.length := by omega
      k_steps
      exact LCg.CompEnd.intro (by assumption) (by assumption) _ (fun p hp => hp) off trivial ⟨rfl, _, _, rfl, slice_sz hz0 hs1 hs5 hzz hl38⟩
    · intro ys ss hys hyl hR D h tk F7 N7 off
      have hyl2 := hys.length
      k_steps
      refine IfExp_ ?_
      k_steps
      all_goals
        rename_i D8 h8 F8 N8 lt8
        refine iadd_mid (pre := [_, _, _]) (post := [_, _]) (l := D) F8 N8 (.head _) (by
          intro p hp
          simp only [List.mem_cons, List.not_mem_nil, or_false] at hp
          rcases hp with rfl | rfl | rfl <;> exact Ne.symm (Nat.ne_of_lt (by omega))) (by
          intro p hp
          simp only [List.mem_cons, List.not_mem_nil, or_false] at hp
          rcases hp with rfl | rfl
          · exact off.1
          · exact off.2.1) (by
          have h400 : ys.length ≤ 400 := hyl
          simp only [List.length_cons, List.length_nil]; omega) ?_
        intro h9 n9 F9 N9
        k_steps
        rename_i F10 N10
        first
          | refine cut_marks (.cons _ _ (.cons _ _ (.cons _ _ (.cons _ _ .nil)))) ?hl ?hR hys hyl hR N10 ?_
          | refine cut_marks (.cons _ _ (.cons _ _ (.cons _ _ .nil))) ?hl ?hR hys hyl hR N10 ?_
        case hl => simp only [List.length_cons, List.length_nil]; omega
        case hR =>
          intro r hr
          have hd : (Str.ofString "-").length = 1 := by decide +kernel
          have h6 := slice_m6 hl6
          simp only [List.mem_cons, List.not_mem_nil, or_false] at hr
          first
            | (rcases hr with rfl | rfl | rfl | rfl <;> (try simp only [Str.length_append]) <;> omega)
            | (rcases hr with rfl | rfl | rfl <;> (try simp only [Str.length_append]) <;> omega)
        intro ms mss hms hml hmR N11
        clear N10
        refine For_invVF F10 rfl rfl ?_
        k_steps
        refine kss_list (σ := Unit) (fun _ => [(_, oT)]) (fun _ => []) (fun _ => True) [Str.ofString "base", Str.ofString "due"] (fun _ _ => True) () rfl (News.isList N11 (.head _)) (N11 _ (.head _)).2.1 (fun q hq => by rw [List.mem_singleton.mp hq]; exact off.2.1) F10 (cb_drop N11 fun p hp => List.mem_cons_of_mem _ hp) trivial (List.forall_mem_nil _) trivial ?_ ?_
        · rintro ⟨⟩ i v u h12 tk12 own hi hv hoff - - F12 N12
          obtain ⟨mark, tm, rfl, hmi⟩ := hms.item i v hv
          obtain ⟨hm1, hm39⟩ := hmR mark (List.mem_of_getElem? hmi)
          clear hmi hv
          dsimp only [kstB] at F12
          k_steps
          refine For_invVF F12 rfl rfl ?_
          k_steps
          rename_i hs6 Dt h13 F13 N13 lt13
          refine kss_tuple (σ := Unit) (fun _ => [(_, oT)] ++ own) (fun _ => []) (fun _ => True) [Str.ofString "due"] (fun _ _ => True) () rfl ⟨_, (N13 _ (.head _)).1, rfl, _, rfl⟩ (N13 _ (.head _)).2.1 (fun q hq => Nat.ne_of_lt (lt13 q hq)) F13 (cb_drop N13 fun p hp => List.mem_cons_of_mem _ hp) trivial (List.forall_mem_nil _) trivial ?_ ?_
          · rintro ⟨⟩ i v u2 h14 tk14 own2 hi2 hv2 hoff2 - - F14 N14
            obtain ⟨base, tb, rfl, hb39⟩ : ∃ x t, v = Value.str x t ∧ x.length ≤ 39 := by
              rcases pick4 hv2 with h | h | h | h
              · exact ⟨_, _, h, by omega⟩
              · exact ⟨_, _, h, by omega⟩
              · exact ⟨_, _, h, by decide +kernel⟩
              · exact ⟨_, _, h, hm39⟩
            clear hv2 hi2
            dsimp only [kstB] at F14
            k_steps
            refine LCg.ListComp_U (F₀ := F14) (by with_unfolding_all rfl) (by decide) (by rfl) (by decide) (by rfl) ?_
            k_steps
            with_unfolding_all refine parts_spec (by k_asm) (by k_asm) (by k_asm) (by k_asm) (by k_asm) rfl _ _ _ _ hm1 (by omega) (by omega) ?_
            intro D2 ys2 n2 h15 tk15 hys2 F15 N15 hlt15
            have hpw := split_weight base mark hm1
            have hyl2 := hys2.length
            refine LCg.CompSrc.ledger rfl F15 N15 (.head _) (by rw [List.size_toArray, sizeLine_eq]; omega) ?_
            intro g2
            refine comp_rest (fun a v => ∃ t, v = Value.str a t) (Txt.split base mark) Txt.capitalize (by rw [List.size_toArray]; exact hyl2.symm) (strs_item hys2) ?_ ?_
            · rintro a v I oI C oC D' m₂ ys' h16 tk16 E' ha ⟨ta, rfl⟩ hC hx F16 N16 off16 ne
              have hal := part_short ha
              k_steps
              exact LCg.CompEnd.intro (by assumption) (by assumption) _ (fun p hp => hp) off16 (.inr ⟨_, .head _, rfl, _, rfl⟩) ⟨rfl, _, rfl⟩
            · intro zs hzs D3 h16 tk16 F16 N16 off16
              k_steps
              refine join_strs (News.isList N16 (.head _)) hzs (joinOk_cap hpw (by omega) (by omega)) ?_
              intro tJ kJ
              replace N16 := cb_drop N16 (fun p hp => List.mem_cons_of_mem _ (List.mem_cons_of_mem _ hp))
              clear hzs hys2 hyl2 hpw
              k_steps
              with_unfolding_all refine cap_mark (by k_asm) (by k_asm) (by k_asm) (by k_asm) (by k_asm) rfl _ _ _ _ hm1 (by omega) (by omega) ?_
              intro tc h17 tk17 F17 N17
              k_steps
              · exact absurd (show (_ != _) = true by assumption) (by simp)
              · refine kss_end (c := ()) (by assumption) (by assumption) (fun p hp => List.mem_append_left _ hp) (fun p hp => List.mem_append_right _ hp) rfl trivial (List.forall_mem_nil _) ?_ trivial
                intro z hz1 hz2 hz3
                simp only [List.contains_cons, List.contains_nil, Bool.or_false, Bool.or_eq_false_iff, beq_eq_false_iff_ne, ne_eq] at hz3
                simp [hz1, hz3]
          · rintro ⟨⟩ u2 h14 tk14 - - F14 N14
            dsimp only [kstB] at F14
            k_steps
            refine kss_end (c := ()) (by assumption) (by assumption) (fun p hp => List.mem_append_left _ hp) (fun p hp => List.mem_append_right _ hp) rfl trivial (List.forall_mem_nil _) ?_ trivial
            intro z hz1 hz2 hz3
            simp only [List.contains_cons, List.contains_nil, Bool.or_false, Bool.or_eq_false_iff, beq_eq_false_iff_ne, ne_eq] at hz3
            simp [hz1, hz3]
        · rintro ⟨⟩ u h12 tk12 - - F12 N12
          dsimp only [kstB] at F12
          k_steps)
end Mine
end PartL2Law
set_option maxRecDepth 100000 in
theorem PySem.Challenge.cw_dn0181_02_holds : PySem.Challenge.rw_dn0181_02.Holds :=
  Mine.law2
