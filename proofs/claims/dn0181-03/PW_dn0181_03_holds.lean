import PyProof.Rows.All
import Wide.All
import OpenK.AllK
import Wide.FinOn
import PySem.Challenge.RW_dn0181_03
set_option Elab.async false
set_option linter.all false
section PartMapRules
open PySem PySem.W PyProof.Rows
set_option maxRecDepth 100000
namespace Mine

theorem owner_map : Manifest.owners.lookup (String.ofList ['p', 'a', 'm'].reverse) = some Manifest.sig_map := by kernel_rfl
theorem slot_map_next : Slot "map" "__next__" "map.__next__" :=
  .of (owner := "map") (n := "__next__") (by rw [typeLookup_type, builtinLookup_eq_fast]; kernel_rfl) (by decide +kernel) (by decide +kernel) (by decide +kernel)
    (by first | exact .inl (by decide +kernel) | exact .inr (by decide +kernel)) (by rw [isSubtype_type]; kernel_rfl)
theorem slot_map_iter : Slot "map" "__iter__" "map.__iter__" :=
  .of (owner := "map") (n := "__iter__") (by rw [typeLookup_type, builtinLookup_eq_fast]; kernel_rfl) (by decide +kernel) (by decide +kernel) (by decide +kernel)
    (by first | exact .inl (by decide +kernel) | exact .inr (by decide +kernel)) (by rw [isSubtype_type]; kernel_rfl)
theorem slot_map_init : Slot "map" "__init__" "object.__init__" :=
  .of (owner := "object") (n := "__init__") (by rw [typeLookup_type, builtinLookup_eq_fast]; kernel_rfl) (by decide +kernel) (by decide +kernel) (by decide +kernel)
    (by first | exact .inl (by decide +kernel) | exact .inr (by decide +kernel)) (by rw [isSubtype_type]; kernel_rfl)
theorem entry_map_next : entryFor table "map.__next__" = some Builtin.«map.__next__» := entryFor_of_tree (by kernel_rfl)
theorem entry_map_new : entryFor table "map.__new__" = some Builtin.«map.__new__» := entryFor_of_tree (by kernel_rfl)
theorem entry_map_iter : entryFor table "map.__iter__" = some Builtin.«dict_keyiterator.__iter__» :=
  entryFor_alias (id' := "dict_keyiterator.__iter__") (by kernel_rfl) (by first | rfl | decide +kernel | (unfold String.splitOn; simp +decide [String.splitOnAux])) (by decide +kernel) (by kernel_rfl)
theorem args_map_next (a : Value) : argsOk "map.__next__" ⟨[a], []⟩ := by
  unfold argsOk; rw [signature?_of (id := "map.__next__") (n := ['_', '_', 't', 'x', 'e', 'n', '_', '_']) (o := ['p', 'a', 'm']) (by kernel_rfl) owner_map]; kernel_rfl
theorem args_map_iter (a : Value) : argsOk "map.__iter__" ⟨[a], []⟩ := by
  unfold argsOk; rw [signature?_of (id := "map.__iter__") (n := ['_', '_', 'r', 'e', 't', 'i', '_', '_']) (o := ['p', 'a', 'm']) (by kernel_rfl) owner_map]; kernel_rfl
theorem mro_map : mroOf (.type "map") = pure [.type "map", .type "object"] := by rw [mroOf_type]; kernel_rfl
theorem lookup_map_new : typeLookup (.type "map") "__new__" = pure (some (.builtin "map.__new__")) := by rw [typeLookup_type, builtinLookup_eq_fast]; kernel_rfl
theorem called_map : TypeCalled "map" "map.__new__" "object.__init__" :=
  ⟨by decide +kernel, by decide +kernel, ⟨_, _, mro_map⟩, madeBy_type mro_map lookup_map_new (by decide +kernel), by decide +kernel, by rw [isSubtype_type]; kernel_rfl, slot_map_init⟩
theorem typeCall_map (a b : Value) : checkTypeCall "map" ⟨[a, b], []⟩ = pure () := by kernel_rfl
theorem newCall_map (a b : Value) : checkBuiltinCall "map.__new__" ⟨[.type "map", a, b], []⟩ = pure () := by kernel_rfl
theorem sub_map : isSubtype (.type "map") (.type "map") = pure true := by rw [isSubtype_type]; kernel_rfl
theorem map_no_len : typeLookup (.type "map") "__len__" = pure none := by rw [typeLookup_type, builtinLookup_eq_fast]; kernel_rfl
theorem map_no_hint : typeLookup (.type "map") "__length_hint__" = pure none := by rw [typeLookup_type, builtinLookup_eq_fast]; kernel_rfl

abbrev IsMap (h : Heap) (z T : Addr) (f : Value) : Prop :=
  h.get? z = some { cls := .type "map", dict := none, data := .fields #[.ref T, f], slots := #[] }
abbrev IsOne (h : Heap) (T : Addr) (a : Value) : Prop := h.get? T = some { cls := .type "tuple", data := .seq #[a] }

abbrev mapH1 (h : Heap) (l : Addr) : Heap := h.push { cls := .type "list_iterator", data := .fields #[.ref l, .int 0 0] }
abbrev mapH2 (h : Heap) (l : Addr) : Heap := (mapH1 h l).push { cls := .type "tuple", data := .seq #[.ref h.objs.size] }
abbrev mapH3 (h : Heap) (l : Addr) (f : Value) : Heap := (mapH2 h l).push { cls := .type "map", data := .fields #[.ref (mapH1 h l).objs.size, f] }

theorem meets_map_new (f : Value) (l : Addr) (xs : Array Value) :
    Meets (Builtin.«map.__new__» ⟨[.type "map", f, .ref l], []⟩) (fun _ R s => s.heap.IsList l xs ∧
      R (.ok (.ret (.ref (mapH2 s.heap l).objs.size))) { s with heap := mapH3 s.heap l f }) :=
  .of_wp fun prog w A R s h => by
    obtain ⟨hp, g, d, tk, os⟩ := s; obtain ⟨hl1, h⟩ := h
    have hsub := sub_map
    have hL1 : Heap.IsList (Shared.heap ⟨hp, g, d, tk, os⟩) l xs := hl1
    wp_walk using wpAny_pyIter_list hL1
    exact ⟨_, rfl, h⟩
end Mine
end PartMapRules
section PartMapRules2
open PySem PySem.W PyProof.Rows
set_option maxRecDepth 100000
namespace Mine
section
variable {prog : Program} {w : World} {A : Around} {E : Value → Shared → Prop} {s : Shared} {h₀ : Heap} {L : Addr} {m : Str → Option Value} {news : List (Addr × Obj)}

abbrev iterObj (l : Addr) (i : Nat) : Obj := { cls := .type "list_iterator", data := .fields #[.ref l, .int i 0] }
abbrev oneObj (a : Addr) : Obj := { cls := .type "tuple", data := .seq #[.ref a] }
abbrev mapObj (T : Addr) (f : Value) : Obj := { cls := .type "map", data := .fields #[.ref T, f] }

theorem call_mapN {f : Value} {l : Addr} {xs : Array Value} {Q : Value → Shared → Prop} (F : Fr h₀ L s.heap m) (N : News h₀ L s.heap news) (hl : s.heap.IsList l xs)
    (h : ∀ h' it T z, Fr h₀ L h' m → News h₀ L h' ((z, mapObj T f) :: (T, oneObj it) :: (it, iterObj l 0) :: news) → (∀ p ∈ news, p.1 < it) → it < T → T < z → Q (.ref z) { s with heap := h' }) :
    wpAny (model prog w) A (call (.type "map") [f, .ref l]) Q E s := by
  refine callType_new called_map (by decide) (typeCall_map _ _) (newCall_map _ _) (fun obj => PySem.F.args_object_init_3 obj _ _) entry_map_new
    (meets_map_new f l xs) ⟨hl, ?_⟩
  have g : (mapH3 s.heap l f).get? (mapH2 s.heap l).objs.size = some _ := Heap.get?_push_size _ rfl
  have N1 := News.push F N (iterObj l 0)
  have F1 := F.push (iterObj l 0)
  have N2 := News.push F1 N1 (oneObj s.heap.objs.size)
  have F2 := F1.push (oneObj s.heap.objs.size)
  have N3 := News.push F2 N2 (mapObj (mapH1 s.heap l).objs.size f)
  have F3 := F2.push (mapObj (mapH1 s.heap l).objs.size f)
  have z1 : (mapH1 s.heap l).objs.size = s.heap.objs.size + 1 := Heap.size_push ..
  have z2 : (mapH2 s.heap l).objs.size = s.heap.objs.size + 2 := by rw [Heap.size_push, z1]
  show _ ∧ _
  refine ⟨⟨_, g, rfl⟩, h _ _ _ _ F3 N3 (fun p hp => Heap.lt_size (N p hp).1) ?_ ?_⟩
  · show s.heap.objs.size < (mapH1 s.heap l).objs.size
    rw [z1]; exact Nat.lt_succ_self _
  · show (mapH1 s.heap l).objs.size < (mapH2 s.heap l).objs.size
    rw [z1, z2]; exact Nat.lt_succ_self _

theorem map_next_item {z T it l : Addr} {k : Nat} {xs : Array Value} {x : Str} {t : Tok} {Q : Value → Shared → Prop}
    (hz : IsMap s.heap z T (.builtin "str.capitalize")) (hT : IsOne s.heap T (.ref it)) (hi : s.heap.IsListIter it l k) (hl : s.heap.IsList l xs) (hx : xs[k]? = some (.str x t)) (hlen : x.length ≤ 5592405) (hzi : z ≠ it)
    (hQ : ∀ h' tk t', h'.IsListIter it l (k + 1) → Heap.SameBut it s.heap h' → Q (.str (Txt.capitalize x) t') { s with heap := h', toks := tk }) :
    wpAny (model prog w) A (Builtin.«map.__next__» ⟨[.ref z], []⟩) (fun fin s' => ∃ v, fin = .done (.ret v) ∧ Q v s') E s := by
  show wpAny _ _ (field (.ref z) 0 >>= _) _ _ _
  refine wpAny_bind (wpAny_field hz rfl (x := .ref T) rfl ?_)
  refine wpAny_bind (wpAny_seqItems hT rfl ?_)
  refine wpAny_bind ?_
  simp only [List.forIn_toArray, List.forIn_cons, List.forIn_nil]
  refine wpAny_bind (wpAny_bind (wpAny_holding ?_))
  refine wpAny_nextOf_list_item hi hl hx fun h₁ hi₁ hs₁ => wpAny_pure (wpAny_pure ?_)
  have hz₁ : IsMap h₁ z T (.builtin "str.capitalize") := hs₁.extBut _ _ hzi hz
  show wpAny _ _ (field (.ref z) 1 >>= _) _ _ _
  refine wpAny_bind (wpAny_field hz₁ rfl (x := .builtin "str.capitalize") rfl ?_)
  refine wpAny_bind (wpAny_holding ?_)
  show wpAny _ _ (call (.builtin "str.capitalize") [.str x t]) _ _ _
  refine SCL.capitalize hlen fun t' k' _ => ?_
  refine wpAny_bind (wpAny_letGo (wpAny_pure ⟨_, rfl, ?_⟩))
  exact hQ h₁ k' t' hi₁ hs₁

theorem map_next_end {z T it l : Addr} {k : Nat} {xs : Array Value} {f : Value} {Q : Fin → Shared → Prop} (hh : A.handled = none)
    (hz : IsMap s.heap z T f) (hT : IsOne s.heap T (.ref it)) (hi : s.heap.IsListIter it l k) (hl : s.heap.IsList l xs) (hx : xs[k]? = none)
    (hE : ∀ h' e, Heap.ExtBut it s.heap h' → (∃ o, h'.get? e = some o ∧ o.cls = .type "StopIteration") → E (.ref e) { s with heap := h' }) :
    wpAny (model prog w) A (Builtin.«map.__next__» ⟨[.ref z], []⟩) Q E s := by
  show wpAny _ _ (field (.ref z) 0 >>= _) _ _ _
  refine wpAny_bind (wpAny_field hz rfl (x := .ref T) rfl ?_)
  refine wpAny_bind (wpAny_seqItems hT rfl ?_)
  refine wpAny_bind ?_
  simp only [List.forIn_toArray, List.forIn_cons, List.forIn_nil]
  refine wpAny_bind (wpAny_bind (wpAny_holding ?_))
  exact wpAny_nextOf_list_end hh hi hl hx hE

theorem walks_map (hh : A.handled = none) (z T it l : Addr) (hzi : z ≠ it) (hTi : T ≠ it) (hli : l ≠ it) (xs : Array Value) (ss : List Str) (hS : StrsAre xs.toList ss) (hlen : ∀ x ∈ ss, x.length ≤ 5592405) :
    Walks prog w A z [z, T, it, l] [it] ss.length (fun i v => ∃ x t, ss[i]? = some x ∧ v = .str (Txt.capitalize x) t)
      (fun i h => IsMap h z T (.builtin "str.capitalize") ∧ IsOne h T (.ref it) ∧ h.IsListIter it l i ∧ h.IsList l xs) where
  sub := fun b hb => by simp at hb; simp [hb]
  frame := fun i h h' st hk => ⟨hk z (by simp) _ st.1, hk T (by simp) _ st.2.1, st.2.2.1.at fun o e => hk it (by simp) o e, st.2.2.2.at fun o e => hk l (by simp) o e⟩
  item := fun i s Q E hi st hQ => by
    obtain ⟨hz, hT, hit, hl⟩ := st
    obtain ⟨t, ht⟩ := hS.get i ss[i] (by simp [hi])
    have hx : xs[i]? = some (.str ss[i] t) := by simpa using ht
    have hTy : s.TypeIs (.ref z) "map" := ⟨_, hz, rfl⟩
    unfold pyNext
    refine wpAny_bind (wpAny_attempt (wpAny_callSpecial?_slot (name := Str.ofString "__next__") hTy slot_map_next
      (wpAny_call_entry slot_map_next hTy entry_map_next (map_next_item hz hT hit hl hx (hlen _ (List.getElem_mem hi)) hzi fun h' tk t' a b => wpAny_pure ?_) (args_map_next _))))
    exact hQ _ h' tk ⟨ss[i], t', by simp [hi], rfl⟩ ⟨b.extBut _ _ hzi hz, b.extBut _ _ hTi hT, a, hl.extBut b.extBut hli⟩ fun c o hc e => b.extBut _ _ (fun h => hc (by simp [h])) e
  done := fun s Q E st hQ => by
    obtain ⟨hz, hT, hit, hl⟩ := st
    have hTy : s.TypeIs (.ref z) "map" := ⟨_, hz, rfl⟩
    have hx : xs[ss.length]? = none := by
      have := hS.length
      simp only [Array.length_toList] at this
      exact Array.getElem?_eq_none (by omega)
    unfold pyNext
    refine wpAny_bind (wpAny_attempt (wpAny_callSpecial?_slot (name := Str.ofString "__next__") hTy slot_map_next
      (wpAny_call_entry slot_map_next hTy entry_map_next (map_next_end hh hz hT hit hl hx fun h' e hk he => ?_) (args_map_next _))))
    obtain ⟨o, ho, hc⟩ := he
    refine wpAny_bind (wpAny_isInstance (T := "StopIteration") (b := true) ⟨o, ho, hc⟩ isSubtype_stop ?_)
    exact wpAny_pure (hQ h' s.toks fun b o hb e => hk b o (fun h => hb (by simp [h])) e)
  self := fun i s Q E st hQ => by
    have hTy : s.TypeIs (.ref z) "map" := ⟨_, st.1, rfl⟩
    refine wpAny_pyIter_slot hTy slot_map_iter (wpAny_call_entry slot_map_iter hTy entry_map_iter ?_ (args_map_iter _))
    show wpAny _ _ (ret (.ref z)) _ _ s
    exact wpAny_pure ⟨_, rfl, "map", _, hTy, slot_map_next.lookup, hQ⟩
end

/-- what was drawn from the map, read as texts -/
theorem strs_of_items {ss : List Str} {acc : Array Value} (h : ItemsOf (fun i v => ∃ x t, ss[i]? = some x ∧ v = .str (Txt.capitalize x) t) acc ss.length) : ∃ lst : List (Str × Tok), acc.toList = strValues lst ∧ lst.map (·.1) = ss.map Txt.capitalize := by
  have key : ∀ (vs : List Value) (ss : List Str), vs.length = ss.length → (∀ (i : Nat) (v : Value), vs[i]? = some v → ∃ x t, ss[i]? = some x ∧ v = Value.str (Txt.capitalize x) t) →
      ∃ lst : List (Str × Tok), vs = strValues lst ∧ lst.map (·.1) = ss.map Txt.capitalize := by
    intro vs
    induction vs with
    | nil =>
      intro ss e _
      cases ss with
      | nil => exact ⟨[], rfl, rfl⟩
      | cons => cases e
    | cons v vs ih =>
      intro ss e k
      cases ss with
      | nil => cases e
      | cons y ss =>
        obtain ⟨lst, e1, e2⟩ := ih ss (Nat.succ.inj e) (fun i u hu => k (i + 1) u hu)
        obtain ⟨y', t, hy, hv⟩ := k 0 v rfl
        cases hy
        exact ⟨(Txt.capitalize y, t) :: lst, by rw [hv, e1]; rfl, by rw [List.map_cons, List.map_cons, e2]⟩
  exact key acc.toList ss (by simpa using h.1) (fun i v hv => h.2 i v (by simpa using hv))

section
variable {prog : Program} {w : World} {A : Around} {E : Value → Shared → Prop} {s : Shared}
/-- what has neither a length nor a hint asks for room -/
theorem asks_room {T : String} {v : Value} {Q : Bool → Shared → Prop} (t : s.TypeIs v T) (n1 : typeLookup (.type T) "__len__" = pure none) (n2 : typeLookup (.type T) "__length_hint__" = pure none) (h : Q true s) :
    wpAny (model prog w) A (Builtin.List.listLengthHint v) Q E s :=
  wpAny_bind (wpAny_specialOf t n1 (wpAny_bind (wpAny_specialOf t n2 (wpAny_pure h))))
/-- room made in an empty list leaves it empty, and all else as it was -/
theorem room_made {S : Addr} {k : Nat} {Q : Unit → Shared → Prop} (hS : s.heap.get? S = some (listOf #[] k))
    (h : ∀ h' k', h'.get? S = some (listOf #[] k') → (∀ b o, b ≠ S → s.heap.get? b = some o → h'.get? b = some o) → Q () { s with heap := h' }) : wpAny (model prog w) A (Builtin.List.listTouch (.ref S)) Q E s := by
  have g1 := Heap.get?_update_self (Obj.mapSeq (·.push Value.none)) hS rfl
  have g2 := Heap.get?_update_self (Obj.mapSeq (·.pop)) g1 rfl
  refine wpAny_bind (wpAny_updateSeq hS rfl (wpAny_updateSeq g1 rfl (h _ _ g2 fun b o hb e => ?_)))
  rw [Heap.get?_update_other _ _ (Ne.symm hb), Heap.get?_update_other _ _ (Ne.symm hb)]
  exact e
/-- the items of a map of str.capitalize over a list of texts, all drawn into a new list -/
theorem map_collected {z T it l : Addr} {xs : Array Value} {ss : List Str} {Q : List Value → Shared → Prop} (hh : A.handled = none) (hzi : z ≠ it) (hTi : T ≠ it) (hli : l ≠ it) (hS : StrsAre xs.toList ss) (hlen : ∀ x ∈ ss, x.length ≤ 5592405) (hsz : ss.length ≤ sizeLine)
    (hz : IsMap s.heap z T (.builtin "str.capitalize")) (hT : IsOne s.heap T (.ref it)) (hi : s.heap.IsListIter it l 0) (hl : s.heap.IsList l xs)
    (h : ∀ h' tk lst, lst.map (·.1) = ss.map Txt.capitalize → (∀ b o, b ≠ it → s.heap.get? b = some o → h'.get? b = some o) → Q (strValues lst) { s with heap := h', toks := tk }) : wpAny (model prog w) A (collect (.ref z)) Q E s := by
  have W := (walks_map (prog := prog) (w := w) (A := A.in1) hh z T it l hzi hTi hli xs ss hS hlen).toS
  have low : ∀ b ∈ [z, T, it, l], b ≠ s.heap.objs.size := by
    obtain ⟨_, oi, _⟩ := hi
    obtain ⟨_, ol, _⟩ := hl
    simp only [List.mem_cons, List.not_mem_nil, or_false]
    rintro b (rfl | rfl | rfl | rfl)
    · exact Nat.ne_of_lt (Heap.lt_size hz)
    · exact Nat.ne_of_lt (Heap.lt_size hT)
    · exact Nat.ne_of_lt (Heap.lt_size oi)
    · exact Nat.ne_of_lt (Heap.lt_size ol)
  have out : s.heap.objs.size ∉ [z, T, it, l] := fun hm => low _ hm rfl
  refine wpAny_bind (wpAny_runValue (codeAny_builtin PySem.F.entry_proto_collect ?_))
  rw [Around.under_plainId PySem.F.plain_proto_collect]
  refine wpAny_bind (wpAny_newObj_type (wpAny_pure ⟨plainId_quiet PySem.F.plain_list_iadd _, codeAny_builtin PySem.F.entry_list_iadd ?_⟩))
  rw [Around.under_plainId PySem.F.plain_list_iadd]
  have fresh : (s.heap.push (listOf #[] 0)).get? s.heap.objs.size = some (listOf #[] 0) := Heap.get?_push_size _ rfl
  have z1 : (s.heap.push (listOf #[] 0)).get? z = some (mapObj T (.builtin "str.capitalize")) := Heap.get?_push_of_some _ hz
  have notSeq : (Builtin.List.listSameRef (.ref s.heap.objs.size) (.ref z) || Value.type "map" == Value.type "list" || Value.type "map" == Value.type "tuple") = false := by
    have e : Builtin.List.listSameRef (.ref s.heap.objs.size) (.ref z) = false := beq_eq_false_iff_ne.mpr fun e => low z (List.mem_cons_self ..) e.symm
    rw [e]; decide
  show wpAny _ A.in1 (Builtin.List.listExtendWith (.ref s.heap.objs.size) (.ref z) (.ref s.heap.objs.size)) _ _ { s with heap := s.heap.push (listOf #[] 0) }
  unfold Builtin.List.listExtendWith
  refine wpAny_bind (wpAny_typeOf (T := "map") ⟨_, z1, rfl⟩ ?_)
  rw [if_neg (by rw [notSeq]; decide)]
  refine wpAny_bind (W.self 0 _ _ _ ⟨z1, Heap.get?_push_of_some _ hT, hi.at fun o e => Heap.get?_push_of_some _ e, hl.at fun o e => Heap.get?_push_of_some _ e⟩ (wpAny_bind (wpAny_holding (asks_room (T := "map") ⟨_, z1, rfl⟩ map_no_len map_no_hint ?_))))
  refine wpAny_bind (wpAny_rule (wpAny_bind (room_made fresh fun h' k' hS' keep => ?_)))
  have keep0 : ∀ b o, b ≠ s.heap.objs.size → s.heap.get? b = some o → h'.get? b = some o := fun b o hb e => keep b o hb (Heap.get?_push_of_some _ e)
  refine wpAny_pure ⟨plainId_quiet PySem.F.plain_extend_loop _, codeAny_extend_loopS W hsz _ out _ ss.length 0 _ _ _ rfl (Nat.zero_le _) ?_ hS' (ItemsOf.nil _) fun s' acc c' hm hA hacc => ?_⟩
  · exact ⟨keep0 z _ (low z (by simp)) hz, keep0 T _ (low T (by simp)) hT, hi.at fun o e => keep0 it o (low it (by simp)) e, hl.at fun o e => keep0 l o (low l (by simp)) e⟩
  · refine wpAny_bind (wpAny_load hA ?_)
    obtain ⟨lst, e1, e2⟩ := strs_of_items hacc
    refine wpAny_pure ?_
    rw [e1, Moved.eq_with hm]
    exact h _ _ lst e2 fun b o hb e => hm.heap b o (by simp [hb, Nat.ne_of_lt (Heap.lt_size e)]) (keep0 b o (Nat.ne_of_lt (Heap.lt_size e)) e)
/-- texts that fit are joined -/
theorem tail_gives {x : Str} {lst : List (Str × Tok)} (ok : JoinOk x (lst.map (·.1)) = true) : Gives (joinTail x (strValues lst)) (joinMade x lst) ∧ (Txt.join x (lst.map (·.1))).length ≤ sizeLine := by
  have fits := Bool.not_eq_true' _ ▸ ok
  have g := gives_joinTail x lst fits
  refine ⟨?_, joinFit_length fits⟩
  rcases lst with _ | ⟨p, _ | ⟨q, r⟩⟩ <;> exact g
/-- str.join over what is no list and no tuple and is its own iterator, by what is drawn from it -/
theorem join_drawn (x : Str) (t : Tok) (I : Addr) (T : String) (hn : (Value.type T == Value.type "list" || Value.type T == Value.type "tuple") = false) :
    MeetsIn prog w (Builtin.«str.join» ⟨[.str x t, .ref I], []⟩) (fun B R u => u.TypeIs (.ref I) T ∧ (∀ Q' E', Q' (.ref I) u → wpAny (model prog w) B.in1 (pyIter (.ref I)) Q' E' u) ∧
      wpAny (model prog w) B.in1 (collect (.ref I)) (fun vs u' => ∃ lst : List (Str × Tok), vs = strValues lst ∧ JoinOk x (lst.map (·.1)) = true ∧ ∀ t' k, R (.ok (.ret (.str (Txt.join x (lst.map (·.1))) t'))) { u' with toks := k }) (fun e u' => R (.error e) u') u) := by
  rintro B R u ⟨ht, own, draw⟩
  rw [join_tree_other]
  refine wpAny_bind (wpAny_typeOf ht ?_)
  rw [if_neg (by rw [hn]; decide)]
  refine wpAny_bind (wpAny_tryCatch (own _ _ (wpAny_bind (wpAny_mono draw ?_ fun _ _ e => e))))
  rintro _ u' ⟨lst, rfl, ok, k⟩
  obtain ⟨g, le⟩ := tail_gives ok
  exact g prog w B R u' (post_join lst ⟨le, k⟩)
end

section
variable {prog : Program} {w : World} {A : Around} {E : Value → Shared → Prop} {s : Shared} {h₀ : Heap} {L : Addr} {m : Str → Option Value} {news : List (Addr × Obj)}
theorem join_mapN {sep : Str} {t : Tok} {z T it l : Addr} {vs : List Value} {ss : List Str} {Q : Value → Shared → Prop} (hh : A.handled = none) (F : Fr h₀ L s.heap m)
    (N : News h₀ L s.heap ((z, mapObj T (.builtin "str.capitalize")) :: (T, oneObj it) :: (it, iterObj l 0) :: news)) (hl : s.heap.IsList l vs.toArray) (hS : StrsAre vs ss)
    (hnew : ∀ p ∈ news, p.1 < it) (h1 : it < T) (h2 : T < z) (hli : l ≠ it) (hlen : ∀ x ∈ ss, x.length ≤ 5592405) (hsz : ss.length ≤ sizeLine) (hok : JoinOk sep (ss.map Txt.capitalize) = true)
    (hQ : ∀ h' tk t', Fr h₀ L h' m → News h₀ L h' news → Q (.str (Txt.join sep (ss.map Txt.capitalize)) t') { s with heap := h', toks := tk }) :
    wpAny (model prog w) A (call (.builtin "str.join") [.str sep t, .ref z]) Q E s := by
  have nz := N _ (List.mem_cons_self ..)
  have nT := N _ (List.mem_cons_of_mem _ (List.mem_cons_self ..))
  have ni := N _ (List.mem_cons_of_mem _ (List.mem_cons_of_mem _ (List.mem_cons_self ..)))
  have hzi : z ≠ it := Nat.ne_of_gt (Nat.lt_trans h1 h2)
  have hTi : T ≠ it := Nat.ne_of_gt h1
  have hit : s.heap.IsListIter it l 0 := ⟨_, ni.1, rfl, rfl⟩
  have hSl : StrsAre vs.toArray.toList ss := by simpa using hS
  refine call_meetsIn PySem.F.slot_str_join (typeIs_str _ _ _) PySem.F.entry_str_join (PySem.F.args_str_join_2 _ _) (join_drawn sep t z "map" (by decide)) ⟨⟨_, nz.1, rfl⟩, fun Q' E' q => ?_, ?_⟩
  · exact (walks_map (prog := prog) (w := w) (A := A.in1) hh z T it l hzi hTi hli vs.toArray ss hSl hlen).self 0 s Q' E' ⟨nz.1, nT.1, hit, hl⟩ q
  · refine map_collected (A := A.in1) hh hzi hTi hli hSl hlen hsz nz.1 nT.1 hit hl fun h' tk lst e keep => ⟨lst, rfl, by rw [e]; exact hok, fun t' k => ?_⟩
    rw [e]
    refine hQ h' k t' ⟨F.ns.extBut keep (Ne.symm ni.2.1), fun b o q => keep b o (fun c => ?_) (F.keep b o q), F.above⟩ fun p hp => ?_
    · rw [c, ni.2.2] at q; cases q
    · have q := N p (List.mem_cons_of_mem _ (List.mem_cons_of_mem _ (List.mem_cons_of_mem _ hp)))
      exact ⟨keep _ _ (Nat.ne_of_lt (hnew p hp)) q.1, q.2⟩
end

section
variable {prog : Program} {w : World} {A : Around} {E : Value → Shared → Prop} {s : Shared} {K : Frag} {h₀ : Heap} {L : Addr} {m : Str → Option Value}
theorem attr_type {T : String} {name : Str} {v : Value} {expr : Bool} {Q : Value → Shared → Prop} (F : Fr h₀ L s.heap m) (X₀ : K.In h₀) (ht : kitMeta T = true) (hs : Manifest.isStub T = false)
    (e : findCls K (.type T) (.type "type") name = some (.val v)) (hh : handedIn v = true) (h : Q v { s with toks := s.toks + 1 }) : wpAny (model prog w) A (getAttr (.type T) name expr) Q E s := by
  have G := X₀.keeps F.keep
  have plain : opaqueClassAbove (.type T) = pure none := by simp only [opaqueClassAbove, hs]; rfl
  refine cls_open G (Looks.of_pure plain) (Looks.of_pure (kitMeta_of ht)) type_tga (looks_hook G (r := none) rfl) ?_ e (wpAny_pure ?_)
  · show subIn K _ _ = _
    rfl
  · show wpAny _ _ (handedOut v) _ _ _
    exact wpAny_of_eq (handedOut_of hh) h
end

section
variable {prog : Program} {w : World} {A : Around} {E : Value → Shared → Prop} {s : Shared} {h₀ : Heap} {L : Addr} {m : Str → Option Value} {news : List (Addr × Obj)}
theorem split_none {x : Str} {t : Tok} {Q : Value → Shared → Prop} (hF : Fr h₀ L s.heap m) (hN : News h₀ L s.heap news)
    (h : ∀ D l h' k, l.map (·.1) = Txt.words x → StrsAre (strValues l) (l.map (·.1)) → Fr h₀ L h' m → News h₀ L h' ((D, listOf (strValues l).toArray 0) :: news) → (∀ p ∈ news, p.1 < D) → Q (.ref D) { s with heap := h', toks := k }) (hsz : x.length + 2 ≤ sizeLine) :
    wpAny (model prog w) A (call (.builtin "str.split") [.str x t, .none]) Q E s :=
  splitN0None hF hN (fun l h' k e ha _ _ F N => h _ l h' k e ha F N fun p hp => Heap.lt_size (hN p hp).1) hsz
end
end Mine
end PartMapRules2
section PartAsc
open PySem PySem.W PyProof.Rows
set_option maxRecDepth 100000
namespace Mine
def Ascii (x : Str) : Prop := ∀ c ∈ x.cps, c < 128
theorem Ascii.append {x y : Str} (hx : Ascii x) (hy : Ascii y) : Ascii (x ++ y) := by
  intro c hc
  have : c ∈ x.cps ++ y.cps := hc
  rcases Array.mem_append.mp this with h | h
  · exact hx c h
  · exact hy c h
theorem asc_foldl {x : Str} (hx : Ascii x) (hx1 : x.length ≤ 1) : ∀ (n : Nat) (acc : Array Nat), (∀ c ∈ acc, c < 128) → (∀ c ∈ (List.replicate n x.cps).foldl (· ++ ·) acc, c < 128) ∧ ((List.replicate n x.cps).foldl (· ++ ·) acc).size ≤ acc.size + n
  | 0, acc, h => ⟨h, by simp⟩
  | n + 1, acc, h => by
    rw [List.replicate_succ, List.foldl_cons]
    have h2 : ∀ c ∈ acc ++ x.cps, c < 128 := fun c hc => (Array.mem_append.mp hc).elim (h c) (hx c)
    obtain ⟨a, b⟩ := asc_foldl hx hx1 n (acc ++ x.cps) h2
    refine ⟨a, ?_⟩
    rw [Array.size_append] at b
    have : x.cps.size ≤ 1 := hx1
    omega
theorem asc_mul {x : Str} {n : Int} (hx : Ascii x) (hx1 : x.length ≤ 1) (h1 : 1 ≤ n) (h8 : n ≤ 8) : Ascii (Txt.mul x n) ∧ (Txt.mul x n).length ≤ 8 := by
  unfold Txt.mul
  rw [if_neg (by omega)]
  split
  · exact ⟨hx, by omega⟩
  · obtain ⟨a, b⟩ := asc_foldl hx hx1 n.toNat #[] (fun c hc => by simp at hc)
    refine ⟨a, ?_⟩
    have : (#[] : Array Nat).size = 0 := rfl
    exact Nat.le_trans b (by omega)
section
variable {prog : Program} {w : World} {A : Around} {E : Value → Shared → Prop} {s : Shared}
theorem mul_ascii {x : Str} {t u : Tok} {n : Int} {Q : Value → Shared → Prop} (hx : Ascii x) (hx1 : x.length ≤ 1) (h1 : 1 ≤ n) (h8 : n ≤ 8) (h : ∀ y t' k, Ascii y → y.length ≤ 8 → Q (.str y t') { s with toks := k }) :
    wpAny (model prog w) A (binaryOp .Mult (.str x t) (.int n u)) Q E s := by
  obtain ⟨a, b⟩ := asc_mul hx hx1 h1 h8
  refine SB.mul ⟨?_, ?_, ?_⟩ fun t' k => h _ t' k a b
  · have e1 : decide (n < -(2 ^ 63 : Int)) = false := decide_eq_false (by omega)
    have e2 : decide (n ≥ (2 ^ 63 : Int)) = false := decide_eq_false (by omega)
    rw [e1, e2]; rfl
  · intro _ _ hc
    have : (1152921504606846975 : Int) ≤ (2 ^ 63 - 1) / n := by
      rw [Int.le_ediv_iff_mul_le (by omega)]; omega
    omega
  · intro _ _
    have h2 : x.length * n.toNat ≤ 1 * 8 := Nat.mul_le_mul hx1 (by omega)
    unfold Builtin.Str.tooLong
    exact decide_eq_false (by rw [sizeLine_eq]; omega)
theorem asc_one {c : Nat} (h : c < 128) : Ascii ⟨#[c]⟩ := fun d hd => by simp at hd; omega
theorem asc_empty : Ascii (Str.ofString "") := fun d hd => by
  have e : Str.ofString "" = ⟨#[]⟩ := by decide +kernel
  rw [e] at hd; simp at hd
theorem item_asc {x : Str} (hx : Ascii x) (i : Int) : Ascii (Txt.item x i) := by
  refine asc_one ?_
  cases h : Txt.charAt x i with
  | none => decide
  | some c =>
    show c < 128
    unfold Txt.charAt at h
    obtain ⟨j, _, hj⟩ := Option.bind_eq_some_iff.mp h
    exact hx c (Array.mem_of_getElem? hj)
theorem item_code {x : Str} (hx : Ascii x) (i : Int) : (Txt.item x i).cps.getD 0 0 < 128 := by
  have h := item_asc hx i
  exact h _ (by simp [Txt.item])
theorem item_len (x : Str) (i : Int) : (Txt.item x i).length ≤ 1 := Nat.le_of_eq rfl
end
end Mine
end PartAsc
section PartCompRules
open PySem PySem.W PyProof.Rows
set_option maxRecDepth 100000
namespace Mine
section
variable {prog : Program} {w : World} {A : Around} {h₀ : Heap} {L : Addr} {m : Str → Option Value} {env : Env} {ct elt : Expr} {x : Str} {scope : Scope} {cl : List (Str × Addr)} {s : Shared} {S : List (Addr × Obj) → Prop} {P : Nat → Value → Prop} {Fin : List Value → List (Addr × Obj) → Prop} {news : List (Addr × Obj)}
/-- a weaker end -/
theorem end_to {I C D : Addr} {oI oC oD : Obj} {r r' : Value → List (Addr × Obj) → Prop} {y : Value} {s₁ s₂ : Shared} (q : LCg.CompEnd h₀ L m s₁ I oI C oC D oD S r y s₂) (k : ∀ nw, r y nw → r' y nw) : LCg.CompEnd h₀ L m s₁ I oI C oC D oD S r' y s₂ := by
  obtain ⟨h', tk, nw, e, F, N, off, hS, hr⟩ := q
  exact ⟨h', tk, nw, e, F, N, off, hS, k nw hr⟩
/-- a comprehension by what holds of the list between the turns -/
theorem comp_by {n : Nat} (Inv : Nat → List Value → Prop) (last : ∀ ys, Inv n ys → Fin ys news)
    (step : ∀ i ys v I oI C oC D m₂ h tk (E' : Value → Shared → Prop), i < n → Inv i ys → P i v → LCg.NsObj oC m₂ → m₂ x = some v → Fr h₀ L h m → News h₀ L h ((I, oI) :: (C, oC) :: (D, LCg.lst ys) :: news) → LCg.Off3 I C D news → ((@Ne Nat I C) ∧ (@Ne Nat I D) ∧ (@Ne Nat C D)) →
      wpAny (model prog w) A (eval elt (compEnvC scope cl C env)) (LCg.CompEnd h₀ L m { s with heap := h, toks := tk } I oI C oC D (LCg.lst ys) S (fun y nw => nw = news ∧ Inv (i + 1) (ys ++ [y]))) E' { s with heap := h, toks := tk }) :
    ∀ (left i : Nat) (ys : List Value), i + left = n → Inv i ys → LCg.CompRest prog w A h₀ L m env elt x scope cl s S P Fin left i ys news
  | 0, i, ys, e, q => LCg.CompRest.zero (last ys (e ▸ q))
  | left + 1, i, ys, e, q => LCg.CompRest.succ fun v I oI C oC D m₂ h tk E' hv hC hx F N off ne =>
    wpAny_mono (step i ys v I oI C oC D m₂ h tk E' (by omega) q hv hC hx F N off ne) (fun y _ z => end_to z fun nw ⟨e', q'⟩ => e' ▸ comp_by Inv last step left (i + 1) (ys ++ [y]) (by omega) q') fun _ _ z => z
theorem comp_rest {α : Type} (IsIt : α → Value → Prop) {n : Nat} (xs : List α) (g : α → Str) (hn : xs.length = n) (hP : ∀ i v, i < n → P i v → ∃ a, xs[i]? = some a ∧ IsIt a v)
    (turn : ∀ a v I oI C oC D m₂ ys h tk (E' : Value → Shared → Prop), a ∈ xs → IsIt a v → LCg.NsObj oC m₂ → m₂ x = some v → Fr h₀ L h m → News h₀ L h ((I, oI) :: (C, oC) :: (D, LCg.lst ys) :: news) → LCg.Off3 I C D news → ((@Ne Nat I C) ∧ (@Ne Nat I D) ∧ (@Ne Nat C D)) →
      wpAny (model prog w) A (eval elt (compEnvC scope cl C env)) (LCg.CompEnd h₀ L m { s with heap := h, toks := tk } I oI C oC D (LCg.lst ys) S (fun y news' => KCtEl news (g a) y news')) E' { s with heap := h, toks := tk })
    (fin : ∀ ys, StrsAre ys (xs.map g) → Fin ys news) : LCg.CompRest prog w A h₀ L m env elt x scope cl s S P Fin n 0 [] news :=
  comp_by (fun i ys => StrsAre ys ((xs.take i).map g)) (fun ys q => fin ys (by rw [← hn, List.take_length] at q; exact q)) (fun i ys v I oI C oC D m₂ h tk E' hi q hv hC hx F N off ne => by
    obtain ⟨a, ha, it⟩ := hP i v hi hv
    refine wpAny_mono (turn a v I oI C oC D m₂ ys h tk E' (List.mem_of_getElem? ha) it hC hx F N off ne) (fun y _ z => end_to z fun nw el => ⟨el.1, ?_⟩) fun _ _ z => z
    obtain ⟨_, t, rfl⟩ := el
    rw [List.take_add_one, ha, List.map_append]
    exact kct_snoc q) n 0 [] (Nat.zero_add n) .nil
/-- the same with a test -/
theorem comp_byT {n : Nat} (Inv : Nat → List Value → Prop) (last : ∀ ys, Inv n ys → Fin ys news)
    (step : ∀ i ys v I oI C oC D m₂ h tk (E' : Value → Shared → Prop), i < n → Inv i ys → P i v → LCg.NsObj oC m₂ → m₂ x = some v → Fr h₀ L h m → News h₀ L h ((I, oI) :: (C, oC) :: (D, LCg.lst ys) :: news) → LCg.Off3 I C D news → ((@Ne Nat I C) ∧ (@Ne Nat I D) ∧ (@Ne Nat C D)) →
      wpAny (model prog w) A (isTrue ct (compEnvC scope cl C env) (eval ct (compEnvC scope cl C env))) (fun ok s' => if ok = true then
        wpAny (model prog w) A (eval elt (compEnvC scope cl C env)) (LCg.CompEnd h₀ L m { s with heap := h, toks := tk } I oI C oC D (LCg.lst ys) S (fun y nw => nw = news ∧ Inv (i + 1) (ys ++ [y]))) E' s'
        else LCg.CompEnd h₀ L m { s with heap := h, toks := tk } I oI C oC D (LCg.lst ys) S (fun _ nw => nw = news ∧ Inv (i + 1) ys) Value.none s') E' { s with heap := h, toks := tk }) :
    ∀ (left i : Nat) (ys : List Value), i + left = n → Inv i ys → LCt.CompRestT prog w A h₀ L m env ct elt x scope cl s S P Fin left i ys news
  | 0, i, ys, e, q => LCt.CompRestT.zero (last ys (e ▸ q))
  | left + 1, i, ys, e, q => LCt.CompRestT.succ fun v I oI C oC D m₂ h tk E' hv hC hx F N off ne => by
    refine wpAny_mono (step i ys v I oI C oC D m₂ h tk E' (by omega) q hv hC hx F N off ne) (fun ok s' z => ?_) fun _ _ z => z
    cases ok <;> simp only [if_true, Bool.false_eq_true, if_false] at z ⊢
    · exact end_to z fun nw ⟨e', q'⟩ => e' ▸ comp_byT Inv last step left (i + 1) ys (by omega) q'
    · exact wpAny_mono z (fun y _ z' => end_to z' fun nw ⟨e', q'⟩ => e' ▸ comp_byT Inv last step left (i + 1) (ys ++ [y]) (by omega) q') fun _ _ z' => z'
theorem comp_restT {α : Type} (IsIt : α → Value → Prop) {n : Nat} (xs : List α) (p : α → Bool) (g : α → Str) (hn : xs.length = n) (hP : ∀ i v, i < n → P i v → ∃ a, xs[i]? = some a ∧ IsIt a v)
    (turn : ∀ a v I oI C oC D m₂ ys h tk (E' : Value → Shared → Prop), a ∈ xs → IsIt a v → LCg.NsObj oC m₂ → m₂ x = some v → Fr h₀ L h m → News h₀ L h ((I, oI) :: (C, oC) :: (D, LCg.lst ys) :: news) → LCg.Off3 I C D news → ((@Ne Nat I C) ∧ (@Ne Nat I D) ∧ (@Ne Nat C D)) →
      wpAny (model prog w) A (isTrue ct (compEnvC scope cl C env) (eval ct (compEnvC scope cl C env))) (fun ok s' => if ok = true then
        wpAny (model prog w) A (eval elt (compEnvC scope cl C env)) (LCg.CompEnd h₀ L m { s with heap := h, toks := tk } I oI C oC D (LCg.lst ys) S (fun y news' => p a = true ∧ KCtEl news (g a) y news')) E' s'
        else LCg.CompEnd h₀ L m { s with heap := h, toks := tk } I oI C oC D (LCg.lst ys) S (fun _ news' => p a = false ∧ news' = news) Value.none s') E' { s with heap := h, toks := tk })
    (fin : ∀ ys, StrsAre ys ((xs.filter p).map g) → Fin ys news) : LCt.CompRestT prog w A h₀ L m env ct elt x scope cl s S P Fin n 0 [] news :=
  comp_byT (fun i ys => StrsAre ys (((xs.take i).filter p).map g)) (fun ys q => fin ys (by rw [← hn, List.take_length] at q; exact q)) (fun i ys v I oI C oC D m₂ h tk E' hi q hv hC hx F N off ne => by
    obtain ⟨a, ha, it⟩ := hP i v hi hv
    have grown : xs.take (i + 1) = xs.take i ++ [a] := by rw [List.take_add_one, ha]; rfl
    refine wpAny_mono (turn a v I oI C oC D m₂ ys h tk E' (List.mem_of_getElem? ha) it hC hx F N off ne) (fun ok s' z => ?_) fun _ _ z => z
    cases ok <;> simp only [if_true, Bool.false_eq_true, if_false] at z ⊢
    · refine end_to z fun nw el => ⟨el.2, ?_⟩
      rw [grown, List.filter_append]
      simpa [el.1] using q
    · refine wpAny_mono z (fun y _ z' => end_to z' fun nw el => ⟨el.2.1, ?_⟩) fun _ _ z' => z'
      obtain ⟨pa, _, t, rfl⟩ := el
      rw [grown, List.filter_append]
      simpa [pa] using kct_snoc q) n 0 [] (Nat.zero_add n) .nil
end
theorem strs_item {vs : List Value} {ss : List Str} (h : StrsAre vs ss) : ∀ i v, i < vs.toArray.size → vs.toArray[i]? = some v → ∃ a, ss[i]? = some a ∧ ∃ t, v = .str a t := fun i v _ hv => by
  obtain ⟨y, t, e, hy⟩ := h.item i v (by simpa using hv)
  exact ⟨y, hy, t, e⟩
theorem ints_item {vs : List Value} {ns : List Int} (h : IntsAre vs ns) : ∀ i v, i < vs.toArray.size → vs.toArray[i]? = some v → ∃ a, ns[i]? = some a ∧ ∃ t, v = .int a t := fun i v _ hv => by
  obtain ⟨k, t, e, hk⟩ := IntsAre.at h i v (by simpa using hv)
  exact ⟨k, hk, t, e⟩
end Mine
end PartCompRules
section PartListRules
open PySem PySem.W PyProof.Rows
set_option maxRecDepth 100000
namespace Mine
section
variable {prog : Program} {w : World} {A : Around} {E : Value → Shared → Prop} {s : Shared} {h₀ : Heap} {L : Addr} {m : Str → Option Value} {rest : List (Addr × Obj)}
theorem append_head {l : Addr} {vs : List Value} {n : Nat} {v : Value} {Q : Value → Shared → Prop} (F : Fr h₀ L s.heap m) (N : News h₀ L s.heap ((l, listOf vs.toArray n) :: rest)) (off : ∀ p ∈ rest, p.1 ≠ l) (hsz : vs.length ≤ 100000)
    (h : ∀ h', Fr h₀ L h' m → News h₀ L h' ((l, listOf (vs ++ [v]).toArray (n + 1)) :: rest) → Q .none { s with heap := h' }) : wpAny (model prog w) A (call (.builtin "list.append") [.ref l, v]) Q E s := by
  have hpush : vs.toArray.push v = (vs ++ [v]).toArray := by simp
  refine append_K F N (Upd.head off) (fun h' F' N' => h h' F' ?_) (by rw [List.size_toArray, sizeLine_eq]; omega)
  rw [hpush] at N'
  exact N'
theorem item_last {value slice : PySem.Expr} {l : Addr} {ws : List Value} {v : Value} {u : Tok} {n : Nat} {Q : Value → Shared → Prop} (N : News h₀ L s.heap ((l, listOf (ws ++ [v]).toArray n) :: rest)) (h : Q v s)
    (hs : subscripted slice false (.ref l) (.int (-1) u) = operate [.ref l, .int (-1) u] (getItem (.ref l) (.int (-1) u))) :
    wpAny (model prog w) A (subscriptTail value slice (.ref l) (.int (-1) u)) Q E s := by
  refine kde_neg (j := ws.length) (News.isList N (.head _)) (by decide) (by decide) ?_ (by simp) h hs
  unfold seqIndex?
  simp only [List.length_append, List.length_singleton]
  have e : (if (-1 : Int) < 0 then -1 + ((ws.length + 1 : Nat) : Int) else -1) = (ws.length : Int) := by rw [if_pos (by decide)]; omega
  rw [e, if_pos (by simp only [Bool.and_eq_true, decide_eq_true_eq]; omega)]
  rfl
theorem set_last {l : Addr} {ws : List Value} {v v' : Value} {u : Tok} {n : Nat} {Q : Unit → Shared → Prop} (F : Fr h₀ L s.heap m) (N : News h₀ L s.heap ((l, listOf (ws ++ [v]).toArray n) :: rest)) (off : ∀ p ∈ rest, p.1 ≠ l)
    (h : ∀ h', Fr h₀ L h' m → News h₀ L h' ((l, listOf (ws ++ [v']).toArray n) :: rest) → Q () { s with heap := h' }) : wpAny (model prog w) A (setItem (.ref l) (.int (-1) u) v') Q E s := by
  have z := N _ (List.mem_cons_self ..)
  refine ki_setBack (n := n) z.1 (by decide) ?_ (by decide) (h _ (F.change (Heap.SameBut.update ..) z.2.1 z.2.2) ?_)
  · simp only [List.size_toArray, List.length_append, List.length_singleton]; omega
  · have e : (-1 + (((ws ++ [v]).toArray.size : Nat) : Int)).toNat = ws.length := by simp only [List.size_toArray, List.length_append, List.length_singleton]; omega
    rw [e]
    have := ki_turn (pre := []) (post := rest) (fun x => x.setIfInBounds ws.length v') (n' := n) (its' := (ws ++ [v']).toArray) N (List.forall_mem_nil _) off ?_ ?_
    · exact this
    · apply Array.toList_inj.mp
      simp
    · simp
end
theorem led_sub {q : Addr × Obj} {news own : List (Addr × Obj)} : ∀ p ∈ q :: news, p ∈ q :: (news ++ own) := fun p hp => by
  rcases List.mem_cons.mp hp with h | h
  · rw [h]; exact List.mem_cons_self ..
  · exact List.mem_cons_of_mem _ (List.mem_append_left _ h)
theorem led_own {q : Addr × Obj} {news own : List (Addr × Obj)} : ∀ p ∈ own, p ∈ q :: (news ++ own) := fun p hp => List.mem_cons_of_mem _ (List.mem_append_right _ hp)
section
variable {M : Model} {A : Around} {E : Value → Shared → Prop} {s : Shared} {h₀ : Heap} {L : Addr} {m : Str → Option Value} {news : List (Addr × Obj)} {t : Sem Value} {Q : Value → Shared → Prop}
def CutInt (s : Shared) (v : Value) (s' : Shared) : Prop := ∃ z tk tok, v = .int z tok ∧ s' = { s with toks := tk }
def CutNat (h₀ : Heap) (L : Addr) (m : Str → Option Value) (news : List (Addr × Obj)) (s : Shared) (v : Value) (s' : Shared) : Prop := ∃ z tok h' tk, v = .int z tok ∧ s' = { s with heap := h', toks := tk } ∧ 0 ≤ z ∧ z ≤ 1000 ∧ Fr h₀ L h' m ∧ News h₀ L h' news
theorem cut_int (h1 : wpAny M A t (CutInt s) E s) (h2 : ∀ z tok tk, Q (.int z tok) { s with toks := tk }) : wpAny M A t Q E s :=
  wpAny_mono h1 (fun _ _ ⟨z, tk, tok, e1, e2⟩ => by rw [e1, e2]; exact h2 z tok tk) fun _ _ e => e
theorem cut_nat (_F : Fr h₀ L s.heap m) (_N : News h₀ L s.heap news) (h1 : wpAny M A t (CutNat h₀ L m news s) E s)
    (h2 : ∀ z tok h' tk, 0 ≤ z → z ≤ 1000 → Fr h₀ L h' m → News h₀ L h' news → Q (.int z tok) { s with heap := h', toks := tk }) : wpAny M A t Q E s :=
  wpAny_mono h1 (fun _ _ ⟨z, tok, h', tk, e1, e2, e3, e4, e5, e6⟩ => by rw [e1, e2]; exact h2 z tok h' tk e3 e4 e5 e6) fun _ _ e => e
theorem fmod_box (x : Int) {n : Nat} (hn : n ≤ 64) : 0 ≤ x.fmod ((n : Int) + 1) ∧ x.fmod ((n : Int) + 1) ≤ 1000 := by
  have h1 := Int.fmod_nonneg_of_pos x (b := (n : Int) + 1) (by omega)
  have h2 := Int.fmod_lt_of_pos x (b := (n : Int) + 1) (by omega)
  omega
end
theorem strs_values : ∀ {ys : List Value} {ss : List Str}, StrsAre ys ss → ∃ l : List (Str × Tok), strValues l = ys ∧ l.map (·.1) = ss
  | _, _, .nil => ⟨[], rfl, rfl⟩
  | _, _, .cons x t h => by
    obtain ⟨l, e1, e2⟩ := strs_values h
    exact ⟨(x, t) :: l, by rw [← e1]; rfl, by rw [← e2]; rfl⟩
section
variable {prog : Program} {w : World} {A : Around} {E : Value → Shared → Prop} {s : Shared}
theorem join_strs {D : Addr} {ys : List Value} {ss : List Str} {sep : Str} {t : Tok} {Q : Value → Shared → Prop} (hl : s.heap.IsList D ys.toArray) (hS : StrsAre ys ss) (hok : JoinOk sep ss = true)
    (hq : ∀ t' k, Q (.str (Txt.join sep ss) t') { s with toks := k }) : wpAny (model prog w) A (call (.builtin "str.join") [.str sep t, .ref D]) Q E s := by
  obtain ⟨l, e1, e2⟩ := strs_values hS
  rw [← e1] at hl
  exact SC.join hl e2 hok hq
end
end Mine
end PartListRules
section PartLoopRules
open PySem PySem.W PyProof.Rows
set_option maxRecDepth 100000
namespace Mine
section
variable {prog : Program} {w : World} {A : Around} {E : Value → Shared → Prop} {s : Shared} {env : Env} {h₀ : Heap} {x : Str} {body : List Stmt} {Q : Flow → Shared → Prop}
/-- a state told between the turns of a loop over values: as the library's KstS for ints, the turns counted -/
def KsS {σ : Type} (Led : σ → List (Addr × Obj)) (ps : σ → List (Str × Value)) (Facts : σ → Prop) (x : Str) (stored : List Str) (m₀ : Str → Option Value) (P : Nat → σ → Prop) (i : Nat) : (Str → Option Value) → List (Addr × Obj) → Prop :=
  KstS Led ps Facts x stored m₀ (fun done c => P done.length c) (List.replicate i 0)
theorem kss_end {σ : Type} {Led : σ → List (Addr × Obj)} {ps : σ → List (Str × Value)} {Facts : σ → Prop} {stored : List Str} {m₀ : Str → Option Value} {P : Nat → σ → Prop} {i : Nat} (c : σ) {L : Addr} {m' : Str → Option Value} {own news' : List (Addr × Obj)} {adr : List Addr} {s₁ : Shared} {h' : Heap} {tk : Nat}
    (F : Fr h₀ L h' m') (N : News h₀ L h' news') (hn : ∀ p ∈ Led c, p ∈ news') (ho : ∀ p ∈ own, p ∈ news') (ha : (Led c).map (·.1) = adr) (hf : Facts c) (hk : ∀ p ∈ ps c, m' p.1 = some p.2) (hr : ∀ z, z ≠ x → (∀ p ∈ ps c, z ≠ p.1) → stored.contains z = false → m' z = m₀ z) (hp : P i c) :
    InvEndN h₀ L (KsS Led ps Facts x stored m₀ P i) own adr s₁ { s₁ with heap := h', toks := tk } :=
  kst_end c F N hn ho ha hf hk hr (by simpa using hp)
/-- the loop over a list or a tuple that its walk is told of -/
theorem kss_seq {σ : Type} {l : Addr} {vs : List Value} {St : Nat → Heap → Prop} {m₀ : Str → Option Value} (o : Obj) (Led : σ → List (Addr × Obj)) (ps : σ → List (Str × Value)) (Facts : σ → Prop) (stored : List Str) (P : Nat → σ → Prop) (c₀ : σ)
    (W : Walks prog w A s.heap.objs.size [s.heap.objs.size, l] [s.heap.objs.size] vs.toArray.size (fun i v => vs.toArray[i]? = some v) St) (st : St 0 (s.heap.push o)) (hlL : l ≠ env.locals) (hoff : ∀ q ∈ Led c₀, q.1 ≠ l)
    (F : Fr h₀ env.locals s.heap m₀) (N : News h₀ env.locals s.heap (Led c₀)) (hf : Facts c₀) (hk : ∀ p ∈ ps c₀, m₀ p.1 = some p.2) (hp : P 0 c₀)
    (turn : ∀ (c : σ) i v (u : Str → Option Value) h tk own, i < vs.length → vs[i]? = some v → OwnOff own ((Led c₀).map (·.1)) → Facts c → P i c →
      Fr h₀ env.locals h (fun y => if y = x then some v else kstB (fun z => if stored.contains z then u z else m₀ z) (ps c) y) → News h₀ env.locals h (Led c ++ own) →
      wpAny (model prog w) A (execs body env) (InvPostN h₀ env.locals (KsS Led ps Facts x stored m₀ P (i + 1)) own ((Led c₀).map (·.1)) { s with heap := h, toks := tk } Q) E { s with heap := h, toks := tk })
    (done : ∀ (c : σ) (u : Str → Option Value) h tk, Facts c → P vs.length c → Fr h₀ env.locals h (fun y => if y = x then u y else kstB (fun z => if stored.contains z then u z else m₀ z) (ps c) y) → News h₀ env.locals h (Led c) → Q .next { s with heap := h, toks := tk }) :
    LoopAtV prog w A h₀ env x body Q E (.ref s.heap.objs.size) { s with heap := s.heap.push o } := by
  have young : ∀ q ∈ Led c₀, q.1 ≠ s.heap.objs.size := fun q hq => Nat.ne_of_lt (Heap.lt_size (N q hq).1)
  refine loop_invN (fun i => KsS Led ps Facts x stored m₀ P i) W ?_ ?_ ?_ ?_ st (F.push o) (News.grown N fun b o' e => Heap.get?_push_of_some _ e) ⟨c₀, rfl, hf, hk, fun _ _ _ _ => rfl, hp⟩ ?_ ?_
  · simp only [List.mem_cons, List.not_mem_nil, or_false, not_or]
    exact ⟨Nat.ne_of_lt F.ns.lt, Ne.symm hlL⟩
  · simp only [List.mem_singleton]
    rintro b rfl
    exact next_is_new F
  · exact fun q hq hI => young q hq (List.mem_singleton.mp hI)
  · simp only [List.mem_cons, List.not_mem_nil, or_false, not_or]
    exact fun q hq => ⟨young q hq, hoff q hq⟩
  · rintro i v m₁ nx h tk own hi hv _ off ⟨c, rfl, hf', h1, h2, hp'⟩ F₁ N₁
    exact turn c i v m₁ h tk own (by simpa using hi) (by simpa using hv) off hf' (by simpa using hp') (kst_fr h1 h2 F₁) N₁
  · rintro m₁ nx h tk ⟨c, rfl, hf', h1, h2, hp'⟩ F₁ N₁
    exact done c m₁ h tk hf' (by simpa using hp') (kst_frOut h1 h2 F₁) N₁
theorem kss_list {σ : Type} {l : Addr} {vs : List Value} {m₀ : Str → Option Value} (Led : σ → List (Addr × Obj)) (ps : σ → List (Str × Value)) (Facts : σ → Prop) (stored : List Str) (P : Nat → σ → Prop) (c₀ : σ)
    (hh : A.handled = none) (hl : s.heap.IsList l vs.toArray) (hlL : l ≠ env.locals) (hoff : ∀ q ∈ Led c₀, q.1 ≠ l) (F : Fr h₀ env.locals s.heap m₀) (N : News h₀ env.locals s.heap (Led c₀)) (hf : Facts c₀) (hk : ∀ p ∈ ps c₀, m₀ p.1 = some p.2) (hp : P 0 c₀)
    (turn : ∀ (c : σ) i v (u : Str → Option Value) h tk own, i < vs.length → vs[i]? = some v → OwnOff own ((Led c₀).map (·.1)) → Facts c → P i c →
      Fr h₀ env.locals h (fun y => if y = x then some v else kstB (fun z => if stored.contains z then u z else m₀ z) (ps c) y) → News h₀ env.locals h (Led c ++ own) →
      wpAny (model prog w) A (execs body env) (InvPostN h₀ env.locals (KsS Led ps Facts x stored m₀ P (i + 1)) own ((Led c₀).map (·.1)) { s with heap := h, toks := tk } Q) E { s with heap := h, toks := tk })
    (done : ∀ (c : σ) (u : Str → Option Value) h tk, Facts c → P vs.length c → Fr h₀ env.locals h (fun y => if y = x then u y else kstB (fun z => if stored.contains z then u z else m₀ z) (ps c) y) → News h₀ env.locals h (Led c) → Q .next { s with heap := h, toks := tk }) :
    wpAny (model prog w) A (pyIter (.ref l)) (fun it s₂ => LoopAtV prog w A h₀ env x body Q E it s₂) E s :=
  have ne : l ≠ s.heap.objs.size := by obtain ⟨_, e, _⟩ := hl; exact Nat.ne_of_lt (Heap.lt_size e)
  wpAny_pyIter_list hl (kss_seq _ Led ps Facts stored P c₀ (Walks.list hh _ l ne vs.toArray) ⟨⟨_, Heap.get?_push_size _ rfl, rfl, rfl⟩, hl.at fun o e => Heap.get?_push_of_some _ e⟩ hlL hoff F N hf hk hp turn done)
end
section
variable {prog : Program} {w : World} {A : Around} {E : Value → Shared → Prop} {s : Shared}
theorem split_raise {x : Str} {t u : Tok} {Q : Value → Shared → Prop} (hh : A.handled = none) (h : ∀ h' tk e, Heap.NewExc s.heap h' e "ValueError" → E (.ref e) { s with heap := h', toks := tk }) :
    wpAny (model prog w) A (call (.builtin "str.split") [.str x t, .str (Str.ofString "") u]) Q E s := by
  refine call_meets F.slot_str_split (typeIs_str _ _ _) F.entry_str_split (F.args_str_split_2 _ _) (raises_str_split_empty x (Str.ofString "") t u ?_ (by decide +kernel)) ⟨hh, h⟩
  have e1 : (Str.ofString "").length = 0 := by decide +kernel
  have e2 : Builtin.Str.strKind (Str.ofString "") = 1 := by decide +kernel
  rw [e1, e2, Bool.or_eq_false_iff, decide_eq_false_iff_not, decide_eq_false_iff_not]
  refine ⟨by omega, ?_⟩
  unfold Builtin.Str.strKind
  repeat' split
  all_goals omega
theorem str_empty {x : Str} (h : x.length = 0) : x = Str.ofString "" := by
  have e : Str.ofString "" = ⟨#[]⟩ := by decide +kernel
  rw [e]
  obtain ⟨a⟩ := x
  have : a = #[] := Array.eq_empty_of_size_eq_zero h
  rw [this]
theorem str_nonempty {x : Str} (h : 1 ≤ x.length) : (x == Str.ofString "") = false := by
  rw [beq_eq_false_iff_ne]
  intro e
  rw [e] at h
  have : (Str.ofString "").length = 0 := by decide +kernel
  omega
end
section
variable {prog : Program} {w : World} {A₀ : Around} {E : Value → Shared → Prop} {s' : Shared} {h₀ h : Heap} {outer : List Env} {L a e : Addr} {m : Str → Option Value} {name : Str} {scope : Scope} {cd : Value}
  {n : Str} {b₀ : Stmt} {suite : List Stmt} {pos np : Pos} {rest : List ExceptHandler} {Q : Flow → Shared → Prop} {news : List (Addr × Obj)}
  {p : Program} {loose : List Str} {mean : ExcName → Option Value} {mg mb : Str → Option Value} {x : Str} {X T' : String}
/-- as the library's rule for «except X as n», but the class of what was caught is told -/
theorem caught_as (K : Below A₀ h₀ outer h₀) (F : Fr h₀ L h m) (hsm : h.UpToSlots s'.heap) (R : RaisedN h₀ (envOf name scope L a cd :: outer) e (.type X) news s'.heap)
    (T : TopRead p loose mg mb h₀) (hv : bootBuiltins x = some (.type T'))
    (hexc : isSubtype (.type T') (.type "BaseException") = pure true) (hnt : isSubtype (.type ((Manifest.find? T').elim "type" fun y => y.metatype)) (.type "tuple") = pure false) (hsub : isSubtype (.type X) (.type T') = pure true)
    (k : ∀ h' tk oe, oe.cls = .type X → Fr h₀ L h' (fun y => if y = n then some (.ref e) else m y) → News h₀ L h' ((e, oe) :: news) →
      wpAny (model prog w) ((A₀.deeper (envOf name scope L a cd)).mark (some (.ref e))) (execs (b₀ :: suite) (envOf name scope L a cd))
        (fun f s₄ => wpAny (model prog w) (A₀.deeper (envOf name scope L a cd)) (do bindName (envOf name scope L a cd) n .none; unbindBehindTheSuite (envOf name scope L a cd) n pos) (fun _ s₅ => Q f s₅) E s₄)
        (AsSuiteRaised (model prog w) ((A₀.deeper (envOf name scope L a cd)).mark (some (.ref e))) (envOf name scope L a cd) n pos (notedBy (model prog w) ((A₀.deeper (envOf name scope L a cd)).mark (some (.ref e))) (envOf name scope L a cd) (cameBackBy (model prog w) (A₀.deeper (envOf name scope L a cd)) (envOf name scope L a cd) E)))
        { s' with heap := h', toks := tk })
    (h1 : x ∉ startupNames := by decide +kernel) (h2 : x ∉ loose := by decide +kernel) (h3 : x ∉ (recsOf p).map (·.name) := by decide +kernel) (h4 : x ∉ (litsOf p).map (·.1) := by decide +kernel) (h4c : x ∉ (clssOf p loose).map (·.name) := by decide +kernel) (hn : x ≠ "__name__" := by decide +kernel)
    (hk : scope.kind = .function := by rfl) (hlo : (envOf name scope L a cd).kindOf n = some .local := by rfl) (hx : (envOf name scope L a cd).kindOf x = some .globalImplicit := by rfl) (hd : (x == ("__debug__" : Str)) = false := by decide) :
    wpAny (model prog w) (A₀.deeper (envOf name scope L a cd)) (noteFrame (.ref e) (envOf name scope L a cd))
      (fun _ s₂ => wpAny (model prog w) (A₀.deeper (envOf name scope L a cd)) (setFlight (.ref e) none) (fun _ s₃ =>
        wpAny (model prog w) (A₀.deeper (envOf name scope L a cd)) (handleBy (.ref e) (envOf name scope L a cd) (.ExceptHandler (some (.Name x np)) (some n) (b₀ :: suite) pos :: rest)) Q E s₃) E s₂) E s' := by
  obtain ⟨B, _, below, led, fly⟩ := R
  have unborn : B.get? L = none := by
    obtain ⟨_, ⟨_, _, one, none, _⟩, _⟩ := fly.2.2.1
    cases one
    exact none
  refine wpAny_looks_onW (Around.frames_deeper K.stack) rfl fly fun _ f1 u1 => wpAny_landsW f1 fun _ f2 u2 => ?_
  have up := (hsm.trans u1).trans u2
  have g2 := flyingW_base below f2
  refine wpAny_handleBy_builtin_as (X := X) (T := T') (b := true) hexc hnt hsub (ld_builtin_at (F.of_stays g2.1 up) T.g (T.free x h1 h2 h3 h4 h4c) T.b ((T.builtins x hn).trans hv) ⟨rfl, g2.there, ?_⟩ hk hx hd)
  refine lands_againW f2 fun h₆ f3 u3 => ?_
  have g3 := flyingW_base below f3
  have F₆ := F.of_stays g3.1 (up.trans u3)
  obtain ⟨oe, _, at_e, cls_e, data_e, _⟩ := g3.first
  have N₆ : News h₀ L h₆ news := by
    intro q hq
    obtain ⟨was, fresh⟩ := led q hq
    refine ⟨f3.1 _ _ was, ?_, fresh⟩
    intro c
    rw [c, unborn] at was
    cases was
  refine stN F₆ (News.more F₆ N₆ at_e (fun es n c => ?_) g3.2.1) (fun h₇ F₇ N₇ => k h₇ _ oe cls_e F₇ N₇) hk hlo
  rw [data_e] at c
  cases c
end
section
variable {prog : Program} {w : World} {A : Around} {E : Value → Shared → Prop} {s : Shared} {h₀ : Heap} {L : Addr} {news : List (Addr × Obj)}
theorem type_of_exc {e : Addr} {oe : Obj} {T : String} {Q : Value → Shared → Prop} (N : News h₀ L s.heap ((e, oe) :: news)) (hc : oe.cls = .type T) (hn : (Value.type T == Value.type "builtin_function_or_method") = false) (h : Q (.type T) s) :
    wpAny (model prog w) A (call (.type "type") [.ref e]) Q E s := kto_cont ⟨oe, (N _ (.head _)).1, hc⟩ hn h
end
end Mine
end PartLoopRules
section PartTextMath
open PySem PySem.W PyProof.Rows PySem.Builtin PySem.Builtin.Str
set_option maxRecDepth 100000
namespace Mine
theorem len_list (x : Str) : x.cps.toList.length = x.length := by simp [Str.length]
theorem str_ext {x y : Str} (h : x.cps.toList = y.cps.toList) : x = y := Str.ext' (Array.toList_inj.mp h)
theorem slice_idx_beyond (len : Nat) (i : Int) {j : Int} (h : (len : Int) ≤ j) : strSliceIndices (some i) (some j) 1 len = strSliceIndices (some i) (some (len : Int)) 1 len := by
  have a1 : ¬ j < 0 := by omega
  have a2 : ¬ ((len : Int) < 0) := by omega
  have e1 : max (0 : Int) (min j (len : Int)) = len := by omega
  simp [strSliceIndices, a1, a2, e1]
theorem slice_list {x : Str} {k n : Nat} (hk : k ≤ x.length) : (Txt.slice x (some (k : Int)) (some ((k : Int) + (n : Int)))).cps.toList = (x.cps.toList.drop k).take n := by
  by_cases h : k + n ≤ x.length
  · have e := StrLaws.sliceText_plain (x := x) (i := (k : Int)) (j := (k : Int) + (n : Int)) ⟨by omega, by omega, by rw [len_list]; omega⟩
    show (StrLaws.sliceText x (some (k : Int)) (some ((k : Int) + (n : Int)))).cps.toList = _
    rw [e]
    have e1 : ((k : Int) + (n : Int) - (k : Int)).toNat = n := by omega
    have e2 : (k : Int).toNat = k := by omega
    rw [e1, e2]
  · have e := StrLaws.sliceText_plain (x := x) (i := (k : Int)) (j := (x.length : Int)) ⟨by omega, by omega, by rw [len_list]; omega⟩
    show (StrLaws.sliceText x (some (k : Int)) (some ((k : Int) + (n : Int)))).cps.toList = _
    have e0 : StrLaws.sliceText x (some (k : Int)) (some ((k : Int) + (n : Int))) = StrLaws.sliceText x (some (k : Int)) (some (x.length : Int)) := by
      unfold StrLaws.sliceText
      rw [slice_idx_beyond x.length (k : Int) (by omega)]
    rw [e0, e]
    have e1 : ((x.length : Int) - (k : Int)).toNat = x.length - k := by omega
    have e2 : (k : Int).toNat = k := by omega
    have hl : (x.cps.toList.drop k).length = x.length - k := by rw [List.length_drop, len_list]
    rw [e1, e2, List.take_of_length_le (by omega), List.take_of_length_le (by omega)]
theorem str_beq (x y : Str) : (x == y) = (x.cps.toList == y.cps.toList) := by
  cases h : x == y with
  | true => rw [beq_iff_eq.mp h]; simp
  | false =>
    symm
    rw [beq_eq_false_iff_ne] at h ⊢
    exact fun e => h (str_ext e)
theorem prefix_take (m l : List Nat) : m.isPrefixOf l = (l.take m.length == m) := by
  cases h : m.isPrefixOf l with
  | true => rw [List.isPrefixOf_iff_prefix, List.prefix_iff_eq_take] at h; rw [← h]; simp
  | false =>
    symm
    rw [beq_eq_false_iff_ne]
    intro e
    have : m.isPrefixOf l = true := by rw [List.isPrefixOf_iff_prefix, List.prefix_iff_eq_take]; exact e.symm
    rw [h] at this; cases this
theorem slice_prefix {text mark : Str} {k : Nat} (hk : k ≤ text.length) : (Txt.slice text (some (k : Int)) (some ((k : Int) + (mark.length : Int))) == mark) = mark.cps.toList.isPrefixOf (text.cps.toList.drop k) := by
  rw [str_beq, slice_list hk, prefix_take, len_list]
theorem item_at {text : Str} {k : Nat} (hk : k < text.length) : (Txt.item text (k : Int)).cps.toList = [text.cps.toList[k]'(by rw [len_list]; exact hk)] := by
  show [(Txt.charAt text (k : Int)).getD 0] = _
  have hk' : k < text.cps.size := hk
  have e : Txt.charAt text (k : Int) = some text.cps[k] := by
    unfold Txt.charAt seqIndex?
    have h1 : ¬ ((k : Int) < 0) := by omega
    have h2 : (k : Int) < (text.length : Int) := by omega
    have h3 : (0 : Int) ≤ k := by omega
    simp only [h1, if_false, h2, h3, decide_true, Bool.and_self, if_true, Int.toNat_natCast, Option.bind_some]
    exact Array.getElem?_eq_getElem hk'
  rw [e]
  show [text.cps[k]] = _
  rw [← Array.getElem_toList]
theorem item_getD {text : Str} {k : Nat} (hk : k < text.length) : (Txt.item text (k : Int)).cps.getD 0 0 = text.cps.toList[k]'(by rw [len_list]; exact hk) := by
  have h := item_at hk
  have : (Txt.item text (k : Int)).cps = #[text.cps.toList[k]'(by rw [len_list]; exact hk)] := Array.toList_inj.mp h
  rw [this]; rfl
theorem item_cps {text : Str} {k : Nat} (hk : k < text.length) : text.cps.toList.drop k = (Txt.item text (k : Int)).cps.getD 0 0 :: text.cps.toList.drop (k + 1) := by
  rw [item_getD hk, List.drop_eq_getElem_cons]
theorem slice_len {text mark : Str} {k : Nat} (hk : (k : Int) < text.length) (he : (Txt.slice text (some (k : Int)) (some ((k : Int) + (mark.length : Int))) == mark) = true) : k + mark.length ≤ text.length := by
  rw [slice_prefix (by omega), List.isPrefixOf_iff_prefix] at he
  have := he.length_le
  rw [len_list, List.length_drop, len_list] at this
  omega

/-! the parts between the marks, read from the left -/
def consHead (c : Nat) : List (List Nat) → List (List Nat)
  | [] => [[c]]
  | p :: r => (c :: p) :: r
def splitL (m : List Nat) : List Nat → List (List Nat)
  | [] => [[]]
  | c :: r => if m.isPrefixOf (c :: r) = true then [] :: splitL m (r.drop (m.length - 1)) else consHead c (splitL m r)
termination_by l => l.length
decreasing_by
  · simp only [List.length_drop, List.length_cons]; omega
  · simp
theorem splitL_nil (m : List Nat) : splitL m [] = [[]] := by rw [splitL]
theorem splitL_cons (m : List Nat) (c : Nat) (r : List Nat) : splitL m (c :: r) = if m.isPrefixOf (c :: r) = true then [] :: splitL m (r.drop (m.length - 1)) else consHead c (splitL m r) := by rw [splitL]
theorem splitL_ne (m : List Nat) : ∀ l, ∃ p r, splitL m l = p :: r
  | [] => ⟨_, _, splitL_nil m⟩
  | c :: r => by
    rw [splitL_cons]
    split
    · exact ⟨_, _, rfl⟩
    · cases splitL m r with
      | nil => exact ⟨_, _, rfl⟩
      | cons p q => exact ⟨_, _, rfl⟩
def prepend (w : List Nat) : List (List Nat) → List (List Nat)
  | [] => [w]
  | p :: r => (w ++ p) :: r
theorem at_prefix (x y : Str) (hy : 1 ≤ y.length) (k : Nat) : StrLaws.At x y x.length k ↔ y.cps.toList.isPrefixOf (x.cps.toList.drop k) = true := by
  unfold StrLaws.At
  rw [StrLaws.subAt_eq, prefix_take, len_list]
  constructor
  · exact fun h => h.2
  · intro h
    refine ⟨?_, h⟩
    have e := congrArg List.length (beq_iff_eq.mp h)
    rw [List.length_take, List.length_drop, len_list, len_list] at e
    omega
theorem split_skip (x y : Str) (hy : 1 ≤ y.length) : ∀ (n a c : Nat), c - a = n → a ≤ c → c ≤ x.length → (∀ k, a ≤ k → k < c → ¬ StrLaws.At x y x.length k) →
    splitL y.cps.toList (x.cps.toList.drop a) = prepend ((x.cps.toList.drop a).take (c - a)) (splitL y.cps.toList (x.cps.toList.drop c))
  | 0, a, c, hn, hac, hc, _ => by
    have e : a = c := by omega
    subst e
    obtain ⟨p, r, e⟩ := splitL_ne y.cps.toList (x.cps.toList.drop a)
    rw [e, Nat.sub_self, List.take_zero]; rfl
  | n + 1, a, c, hn, hac, hc, hno => by
    have hlt : a < x.cps.toList.length := by rw [len_list]; omega
    have ih := split_skip x y hy n (a + 1) c (by omega) (by omega) hc fun k h1 h2 => hno k (by omega) h2
    have hnp := hno a (Nat.le_refl _) (by omega)
    rw [at_prefix x y hy] at hnp
    rw [List.drop_eq_getElem_cons hlt] at hnp ⊢
    rw [splitL_cons, if_neg hnp, ih]
    obtain ⟨p, r, e⟩ := splitL_ne y.cps.toList (x.cps.toList.drop c)
    have e2 : c - a = (c - (a + 1)) + 1 := by omega
    rw [e, e2, List.take_succ_cons]
    rfl
theorem parts_split (x y : Str) (hy : 1 ≤ y.length) : ∀ (cuts : List Nat) (a f : Nat), StrLaws.ChainG x y x.length a cuts f → (∀ k, f ≤ k → ¬ StrLaws.At x y x.length k) → a ≤ x.length →
    (StrLaws.partsFrom x y.length a cuts).map (·.cps.toList) = splitL y.cps.toList (x.cps.toList.drop a)
  | [], a, f, h, hn, ha => by
    have e : f = a := h
    subst e
    rw [split_skip x y hy (x.length - f) f x.length rfl ha (Nat.le_refl _) fun k h1 _ => hn k h1]
    have e2 : x.cps.toList.drop x.length = [] := List.drop_of_length_le (by rw [len_list]; exact Nat.le_refl _)
    rw [e2, splitL_nil]
    show [(strSub x f x.length).cps.toList] = _
    rw [StrLaws.strSub_toList]
    simp [prepend]
  | c :: r, a, f, h, hn, ha => by
    obtain ⟨h1, h2, h3, h4⟩ := h
    have hcl : c + y.length ≤ x.length := h2.1
    have ih := parts_split x y hy r (c + y.length) f h4 hn hcl
    rw [split_skip x y hy (c - a) a c rfl h1 (by omega) h3]
    have hp := (at_prefix x y hy c).mp h2
    have hlt : c < x.cps.toList.length := by rw [len_list]; omega
    have e3 : splitL y.cps.toList (x.cps.toList.drop c) = [] :: splitL y.cps.toList (x.cps.toList.drop (c + y.length)) := by
      rw [List.drop_eq_getElem_cons hlt] at hp ⊢
      rw [splitL_cons, if_pos hp, List.drop_drop]
      have : c + 1 + (y.cps.toList.length - 1) = c + y.length := by rw [len_list]; omega
      rw [this]
    rw [e3]
    show (strSub x a c).cps.toList :: (StrLaws.partsFrom x y.length (c + y.length) r).map (·.cps.toList) = _
    rw [ih, StrLaws.strSub_toList]
    simp [prepend]
theorem kind_all {x : Str} {B : Nat} (h : x.cps.all (· < B) = true) : ∀ c ∈ x.cps.toList, c < B := by
  rw [← Array.all_toList] at h
  intro c hc
  exact of_decide_eq_true (List.all_eq_true.mp h c hc)
theorem kind_sub {x y : Str} (h : ∀ c ∈ y.cps.toList, c ∈ x.cps.toList) : PySem.Builtin.Str.strKind y ≤ PySem.Builtin.Str.strKind x := by
  have key : ∀ B : Nat, x.cps.all (· < B) = true → y.cps.all (· < B) = true := fun B hB => by
    have := kind_all hB
    rw [← Array.all_toList, List.all_eq_true]
    intro c hc
    exact decide_eq_true (this c (h c hc))
  unfold PySem.Builtin.Str.strKind
  by_cases a1 : x.cps.all (· < 256) = true
  · rw [if_pos a1, if_pos (key _ a1)]; exact Nat.le_refl _
  · rw [if_neg a1]
    by_cases a2 : x.cps.all (· < 65536) = true
    · rw [if_pos a2]
      split
      · omega
      · rw [if_pos (key _ a2)]; exact Nat.le_refl _
    · rw [if_neg a2]
      split
      · omega
      · split <;> omega
theorem split_eq (x y : Str) (hy : 1 ≤ y.length) : (Txt.split x y).map (·.cps.toList) = splitL y.cps.toList x.cps.toList := by
  obtain ⟨f, hG, hn⟩ := StrLaws.occ_tight x y hy
  have none : (∀ k, ¬ StrLaws.At x y x.length k) → [x.cps.toList] = splitL y.cps.toList x.cps.toList := by
    intro h
    have := split_skip x y hy (x.length - 0) 0 x.length rfl (Nat.zero_le _) (Nat.le_refl _) fun k _ _ => h k
    rw [List.drop_zero] at this
    have e2 : x.cps.toList.drop x.length = [] := List.drop_of_length_le (by rw [len_list]; exact Nat.le_refl _)
    rw [this, e2, splitL_nil, Nat.sub_zero, List.take_of_length_le (by rw [len_list]; exact Nat.le_refl _)]
    simp [prepend]
  unfold Txt.split
  split
  · rename_i hc
    refine none fun k hA => ?_
    have hp := (at_prefix x y hy k).mp hA
    rw [Bool.or_eq_true, decide_eq_true_eq, decide_eq_true_eq] at hc
    rcases hc with h | h
    · have := hA.1; omega
    · refine absurd (kind_sub (x := x) (y := y) fun c hc => ?_) (by omega)
      rw [List.isPrefixOf_iff_prefix] at hp
      exact List.mem_of_mem_drop (hp.subset hc)
  · split
    · rename_i he
      have e0 : occurrences x y 0 x.length (x.length + 1) = [] := List.isEmpty_iff.mp he
      rw [e0] at hG
      have ef : f = 0 := hG
      subst ef
      exact none fun k => hn k (Nat.zero_le _)
    · rw [StrLaws.partsBetween_eq]
      have := parts_split x y hy _ 0 f hG hn (Nat.zero_le _)
      rwa [List.drop_zero] at this
end Mine
end PartTextMath
section PartWordMath
open PySem PySem.W PyProof.Rows PySem.Builtin PySem.Builtin.Str
set_option maxRecDepth 100000
namespace Mine
def wordsAcc (sp : Nat → Bool) (cur : List Nat) : List Nat → List (List Nat)
  | [] => if cur = [] then [] else [cur]
  | c :: r => if sp c = true then (if cur = [] then wordsAcc sp [] r else cur :: wordsAcc sp [] r) else wordsAcc sp (cur ++ [c]) r
def subL (x : Str) (p : Nat × Nat) : List Nat := (strSub x p.1 p.2).cps.toList
def openWord (x : Str) (cur : Nat) : Option Nat → List Nat
  | none => []
  | some b => (x.cps.toList.drop b).take (cur - b)
theorem take_snoc (l : List Nat) {b k : Nat} (h : b ≤ k) (hk : k < l.length) : (l.drop b).take (k + 1 - b) = (l.drop b).take (k - b) ++ [l[k]] := by
  have e : k + 1 - b = (k - b) + 1 := by omega
  rw [e, List.take_add_one]
  have h2 : b + (k - b) = k := by omega
  simp [h2, hk]
theorem open_ne {x : Str} {cur b : Nat} (h1 : b < cur) (h2 : cur ≤ x.length) : openWord x cur (some b) ≠ [] := by
  intro e
  have := congrArg List.length e
  simp only [openWord, List.length_take, List.length_drop, len_list, List.length_nil] at this
  omega
theorem sw_words (x : Str) : ∀ (m cur : Nat) (ws : Array (Nat × Nat)) (start : Option Nat), cur + m = x.length → ws.size ≤ cur → (∀ b, start = some b → b < cur) →
    (StrLaws.swEnd x (forIn (List.range' cur m) ((none, ws, start) : StrLaws.SwSt) (StrLaws.swBody x (x.length + 1))).run).map (subL x) = ws.toList.map (subL x) ++ wordsAcc Unicode.isSpace (openWord x cur start) (x.cps.toList.drop cur)
  | 0, cur, ws, start, hm, hs, hb => by
    have hc : cur = x.length := by omega
    have e2 : x.cps.toList.drop cur = [] := List.drop_of_length_le (by rw [len_list, hc]; exact Nat.le_refl _)
    rw [e2]
    cases start with
    | none =>
      show (ws.toList).map (subL x) = _
      simp [wordsAcc, openWord]
    | some b =>
      have hne := open_ne (x := x) (hb b rfl) (by omega)
      show ((ws.push (b, x.length)).toList).map (subL x) = _
      rw [wordsAcc, if_neg hne, Array.toList_push, List.map_append]
      congr 1
      show [subL x (b, x.length)] = _
      unfold subL
      rw [StrLaws.strSub_toList, hc]
      rfl
  | m + 1, cur, ws, start, hm, hs, hb => by
    have hlt : cur < x.cps.toList.length := by rw [len_list]; omega
    have hlt' : cur < x.cps.size := by have : x.cps.size = x.length := rfl; omega
    have hd : x.cps.toList.drop cur = x.cps.toList[cur] :: x.cps.toList.drop (cur + 1) := List.drop_eq_getElem_cons hlt
    have hg : x.cps.getD cur 0 = x.cps.toList[cur] := by simp [Array.getD, hlt']
    rw [List.range'_succ, List.forIn_cons]
    unfold StrLaws.swBody
    have hl : ((ws.size == x.length + 1) = true) ↔ False := by
      constructor
      · intro h; have := beq_iff_eq.mp h; omega
      · exact False.elim
    dsimp only
    rw [if_neg (fun h => hl.mp h), hg, hd]
    cases start with
    | none =>
      cases hsp : Unicode.isSpace x.cps.toList[cur] with
      | true =>
        have ih := sw_words x m (cur + 1) ws none (by omega) (by omega) (fun b e => nomatch e)
        rw [wordsAcc, if_pos hsp]
        exact ih
      | false =>
        have ih := sw_words x m (cur + 1) ws (some cur) (by omega) (by omega) (fun b e => by cases e; omega)
        rw [wordsAcc, if_neg (by rw [hsp]; exact Bool.false_ne_true)]
        have e : openWord x (cur + 1) (some cur) = openWord x cur none ++ [x.cps.toList[cur]] := by
          show (x.cps.toList.drop cur).take (cur + 1 - cur) = _
          rw [take_snoc _ (Nat.le_refl _) hlt, Nat.sub_self, List.take_zero]
          rfl
        rw [e] at ih
        exact ih
    | some b =>
      have hbc := hb b rfl
      have hne := open_ne (x := x) hbc (by omega)
      cases hsp : Unicode.isSpace x.cps.toList[cur] with
      | true =>
        have ih := sw_words x m (cur + 1) (ws.push (b, cur)) none (by omega) (by rw [Array.size_push]; omega) (fun b e => nomatch e)
        rw [wordsAcc, if_pos hsp, if_neg hne]
        rw [Array.toList_push, List.map_append, List.append_assoc] at ih
        have e : subL x (b, cur) = openWord x cur (some b) := by
          unfold subL
          rw [StrLaws.strSub_toList]
          rfl
        rw [← e]
        exact ih
      | false =>
        have ih := sw_words x m (cur + 1) ws (some b) (by omega) (by omega) (fun b' e => by cases e; omega)
        rw [wordsAcc, if_neg (by rw [hsp]; exact Bool.false_ne_true)]
        have e : openWord x (cur + 1) (some b) = openWord x cur (some b) ++ [x.cps.toList[cur]] := take_snoc _ (Nat.le_of_lt hbc) hlt
        rw [e] at ih
        exact ih
theorem words_eq (x : Str) : (Txt.words x).map (·.cps.toList) = wordsAcc Unicode.isSpace [] x.cps.toList := by
  have h := sw_words x x.length 0 #[] none (by omega) (by simp) (fun b e => nomatch e)
  rw [← StrLaws.sw_eq, List.drop_zero] at h
  have h' : (spaceWords x (x.length + 1)).map (subL x) = wordsAcc Unicode.isSpace [] x.cps.toList := by simpa [openWord] using h
  unfold Txt.words
  split
  · rename_i he
    rw [beq_iff_eq.mp he] at h'
    rw [← h']
    show [x.cps.toList] = [subL x (0, x.length)]
    unfold subL
    rw [StrLaws.strSub_toList, List.drop_zero, Nat.sub_zero, List.take_of_length_le (by rw [len_list]; exact Nat.le_refl _)]
  · rw [← h']
    unfold PySem.wordsOf
    rw [List.map_map]
    rfl
theorem wordsAcc_congr {sp sp' : Nat → Bool} : ∀ (l cur : List Nat), (∀ c ∈ l, sp c = sp' c) → wordsAcc sp cur l = wordsAcc sp' cur l
  | [], _, _ => rfl
  | c :: r, cur, h => by
    have h1 := h c (List.mem_cons_self ..)
    have h2 := fun cur => wordsAcc_congr r cur fun d hd => h d (List.mem_cons_of_mem _ hd)
    rw [wordsAcc, wordsAcc, h1, h2, h2]
theorem map_list_inj : ∀ {a b : List Str}, a.map (·.cps.toList) = b.map (·.cps.toList) → a = b
  | [], [], _ => rfl
  | [], _ :: _, h => by cases h
  | _ :: _, [], h => by cases h
  | x :: a, y :: b, h => by
    have h1 := (List.cons.inj h).1
    have h2 := (List.cons.inj h).2
    rw [str_ext h1, map_list_inj h2]
/-- every sign of a word is a sign of the text and not white -/
theorem wordsAcc_mem {sp : Nat → Bool} : ∀ (l cur : List Nat), (∀ c ∈ cur, sp c = false) → ∀ w ∈ wordsAcc sp cur l, w ≠ [] ∧ ∀ c ∈ w, sp c = false ∧ (c ∈ cur ∨ c ∈ l)
  | [], cur, hc, w, hw => by
    unfold wordsAcc at hw
    split at hw
    · cases hw
    · rw [List.mem_singleton.mp hw]
      exact ⟨by assumption, fun c h => ⟨hc c h, .inl h⟩⟩
  | d :: r, cur, hc, w, hw => by
    unfold wordsAcc at hw
    have up : ∀ w ∈ wordsAcc sp [] r, w ≠ [] ∧ ∀ c ∈ w, sp c = false ∧ (c ∈ cur ∨ c ∈ d :: r) := fun w hw => by
      have := wordsAcc_mem r [] (fun c h => nomatch h) w hw
      refine ⟨this.1, fun c h => ⟨(this.2 c h).1, ?_⟩⟩
      rcases (this.2 c h).2 with h1 | h1
      · cases h1
      · exact .inr (List.mem_cons_of_mem _ h1)
    split at hw
    · split at hw
      · exact up w hw
      · rename_i hne
        rcases List.mem_cons.mp hw with rfl | hw
        · exact ⟨hne, fun c h => ⟨hc c h, .inl h⟩⟩
        · exact up w hw
    · rename_i hd
      have hd' : sp d = false := by simpa using hd
      have := wordsAcc_mem r (cur ++ [d]) (fun c h => by
        rcases List.mem_append.mp h with h | h
        · exact hc c h
        · rw [List.mem_singleton.mp h]; exact hd') w hw
      refine ⟨this.1, fun c h => ⟨(this.2 c h).1, ?_⟩⟩
      rcases (this.2 c h).2 with h1 | h1
      · rcases List.mem_append.mp h1 with h2 | h2
        · exact .inl h2
        · rw [List.mem_singleton.mp h2]; exact .inr (List.mem_cons_self ..)
      · exact .inr (List.mem_cons_of_mem _ h1)
end Mine
end PartWordMath
section PartCapMath
open PySem PySem.W PyProof.Rows PySem.Builtin PySem.Builtin.Str
set_option maxRecDepth 100000
namespace Mine
def joinL (m : List Nat) : List (List Nat) → List Nat
  | [] => []
  | [p] => p
  | p :: q :: r => p ++ m ++ joinL m (q :: r)
theorem join_list (sep : Str) : ∀ ss : List Str, (Txt.join sep ss).cps.toList = joinL sep.cps.toList (ss.map (·.cps.toList)) := by
  intro ss
  show (glued sep ss).cps.toList = _
  rw [StrLaws.glued_eq_join]
  induction ss with
  | nil => rfl
  | cons p r ih =>
    cases r with
    | nil => rfl
    | cons q r =>
      show (p ++ sep ++ Str.join sep (q :: r)).cps.toList = p.cps.toList ++ sep.cps.toList ++ joinL _ _
      rw [Str.cps_append, Str.cps_append, Array.toList_append, Array.toList_append, ih]
      rfl
def conv (fresh : Bool) (c : Nat) : Nat := if fresh = true ∧ 97 ≤ c ∧ c ≤ 122 then c - 32 else if fresh = false ∧ 65 ≤ c ∧ c ≤ 90 then c + 32 else c
def capF (fresh : Bool) : List Nat → List Nat
  | [] => []
  | c :: r => conv fresh c :: r.map (conv false)
theorem title_ascii : ∀ c, c < 128 → Unicode.titleOf c = [conv true c] := by decide +kernel
theorem lower_ascii : ∀ c, c < 128 → Unicode.lowerOf c = [conv false c] := by decide +kernel
theorem upper_ascii : ∀ c, c < 128 → Unicode.upperOf c = [conv true c] := by decide +kernel
theorem space_ascii : ∀ c, c < 128 → Unicode.isSpace c = (c == 32 || (decide (9 ≤ c) && decide (c ≤ 13)) || (decide (28 ≤ c) && decide (c ≤ 31))) := by decide +kernel
theorem lowerAt_ascii {s : Array Nat} {i : Nat} (hi : i < s.size) (h : s[i] < 128) : Unicode.lowerAt s i = [conv false s[i]] := by
  unfold Unicode.lowerAt
  rw [Array.getElem?_eq_getElem hi]
  dsimp only
  have e : (s[i] == 0x3A3) = false := by rw [beq_eq_false_iff_ne]; omega
  rw [e, Bool.false_and, if_neg Bool.false_ne_true]
  exact lower_ascii _ h
theorem flatten_single (l : List Nat) (f : Nat → Nat → Nat) : ∀ (k : Nat), ((l.mapIdx fun i c => (#[f (i + k) c] : Array Nat)).map (·.toList)).flatten = l.mapIdx fun i c => f (i + k) c := by
  induction l with
  | nil => intro k; rfl
  | cons c r ih =>
    intro k
    rw [List.mapIdx_cons, List.mapIdx_cons, List.map_cons, List.flatten_cons]
    have := ih (k + 1)
    have e : (fun i c => (#[f (i + 1 + k) c] : Array Nat)) = fun i c => #[f (i + (k + 1)) c] := by funext i c; rw [Nat.add_right_comm, Nat.add_assoc]
    have e2 : (fun i c => f (i + 1 + k) c) = fun i c => f (i + (k + 1)) c := by funext i c; rw [Nat.add_right_comm, Nat.add_assoc]
    rw [e, e2, this]
    rfl
theorem placed_list (x : Str) (g : Nat → Nat → List Nat) (f : Nat → Nat → Nat) (h : ∀ i (hi : i < x.cps.size), g i x.cps[i] = [f i x.cps[i]]) : (placed x g).toList = x.cps.toList.mapIdx f := by
  have e : (x.cps.mapIdx fun i c => (g i c).toArray) = x.cps.mapIdx fun i c => #[f i c] := by
    refine Array.ext (by simp) fun i h1 h2 => ?_
    have hi : i < x.cps.size := by simpa using h1
    simp only [Array.getElem_mapIdx]
    rw [h i hi]
  unfold placed
  rw [e]
  have h1 := flatten_single x.cps.toList f 0
  simp only [Nat.add_zero] at h1
  rw [← h1]
  rw [Array.toList_flatten]
  simp
theorem mapIdx_cap (c : Nat) (r : List Nat) : (c :: r).mapIdx (fun i c => if i = 0 then conv true c else conv false c) = capF true (c :: r) := by
  rw [List.mapIdx_cons]
  show _ = conv true c :: r.map (conv false)
  simp only [if_true]
  congr 1
  have : (fun i c => if i + 1 = 0 then conv true c else conv false c) = fun _ c => conv false c := by funext i c; rw [if_neg (by omega)]
  rw [this]
  apply List.ext_getElem (by simp)
  intro i h1 h2
  simp
theorem cap_ascii {x : Str} (h : Ascii x) : (Txt.capitalize x).cps.toList = capF true x.cps.toList := by
  unfold Txt.capitalize
  split
  · rename_i he
    have e : x.cps.toList = [] := by
      apply List.eq_nil_of_length_eq_zero
      rw [len_list]; exact beq_iff_eq.mp he
    rw [e]; rfl
  · rename_i he
    unfold Txt.capitalized
    show (placed x _).toList = _
    rw [placed_list x _ (fun i c => if i = 0 then conv true c else conv false c)]
    · cases hx : x.cps.toList with
      | nil => rfl
      | cons c r => exact mapIdx_cap c r
    · intro i hi
      have hc : x.cps[i] < 128 := h _ (Array.getElem_mem hi)
      by_cases h0 : i = 0
      · subst h0; simp only [beq_self_eq_true, if_true]; exact title_ascii _ hc
      · have e0 : (i == 0) = false := by rw [beq_eq_false_iff_ne]; exact h0
        simp only [e0, Bool.false_eq_true, if_false, if_neg h0]
        exact lowerAt_ascii hi hc
theorem ascii_list {x : Str} : Ascii x ↔ ∀ c ∈ x.cps.toList, c < 128 := by
  unfold Ascii
  constructor
  · intro h c hc; exact h c (Array.mem_toList_iff.mp hc)
  · intro h c hc; exact h c (Array.mem_toList_iff.mpr hc)
theorem caps_ascii : ∀ {ss : List Str}, (∀ s ∈ ss, Ascii s) → (ss.map Txt.capitalize).map (·.cps.toList) = (ss.map (·.cps.toList)).map (capF true)
  | [], _ => rfl
  | s :: r, h => by
    have := caps_ascii fun s hs => h s (List.mem_cons_of_mem _ hs)
    simp only [List.map_cons]
    rw [cap_ascii (h s (List.mem_cons_self ..))]
    congr 1
/-- the signs of the parts are signs of the text -/
theorem splitL_mem (m : List Nat) (l : List Nat) : ∀ p ∈ splitL m l, ∀ c ∈ p, c ∈ l := by
  induction l using splitL.induct m with
  | case1 =>
    intro p hp c hc
    rw [splitL_nil] at hp
    rw [List.mem_singleton.mp hp] at hc
    cases hc
  | case2 d r hpre ih =>
    intro p hp c hc
    rw [splitL_cons, if_pos hpre] at hp
    rcases List.mem_cons.mp hp with rfl | hp
    · cases hc
    · exact List.mem_cons_of_mem _ (List.mem_of_mem_drop (ih p hp c hc))
  | case3 d r hpre ih =>
    intro p hp c hc
    rw [splitL_cons, if_neg hpre] at hp
    obtain ⟨q, t, e⟩ := splitL_ne m r
    rw [e] at hp ih
    rcases List.mem_cons.mp hp with rfl | hp
    · rcases List.mem_cons.mp hc with rfl | hc
      · exact List.mem_cons_self ..
      · exact List.mem_cons_of_mem _ (ih q (List.mem_cons_self ..) c hc)
    · exact List.mem_cons_of_mem _ (ih p (List.mem_cons_of_mem _ hp) c hc)
theorem ascii_parts {whole mark : Str} (hA : Ascii whole) (hm : 1 ≤ mark.length) : ∀ s ∈ Txt.split whole mark, Ascii s := by
  intro s hs
  rw [ascii_list] at hA ⊢
  intro c hc
  refine hA c (splitL_mem mark.cps.toList _ s.cps.toList ?_ c hc)
  rw [← split_eq whole mark hm]
  exact List.mem_map_of_mem hs
theorem capw_list {whole mark : Str} (hA : Ascii whole) (hm : 1 ≤ mark.length) : (Txt.join mark ((Txt.split whole mark).map Txt.capitalize)).cps.toList = joinL mark.cps.toList ((splitL mark.cps.toList whole.cps.toList).map (capF true)) := by
  rw [join_list, caps_ascii (ascii_parts hA hm), split_eq whole mark hm]
end Mine
end PartCapMath
section PartPartsL
open PySem PySem.W PyProof.Rows
set_option maxRecDepth 100000
namespace Mine
structure PtSt where
  ws : List Value
  wss : List Str
  last : Str
  tl : Tok
  n : Nat
  k : Nat
  tk : Tok
def PtInv (text mark : Str) (c : PtSt) : Prop :=
  c.wss.map (·.cps.toList) ++ prepend c.last.cps.toList (splitL mark.cps.toList (text.cps.toList.drop c.k)) = splitL mark.cps.toList text.cps.toList ∧ c.k ≤ text.length ∧ c.wss.length ≤ c.k ∧ c.last.length ≤ c.k
theorem prepend_nil {m l : List Nat} : prepend [] (splitL m l) = splitL m l := by
  obtain ⟨p, r, e⟩ := splitL_ne m l
  rw [e]; rfl
theorem pt_start (text mark : Str) (t1 t2 : Tok) (n : Nat) : PtInv text mark ⟨[], [], Str.ofString "", t1, n, 0, t2⟩ := by
  refine ⟨?_, Nat.zero_le _, Nat.zero_le _, Nat.zero_le _⟩
  have e : (Str.ofString "").cps.toList = [] := by decide +kernel
  dsimp only
  rw [e, List.drop_zero, prepend_nil]; rfl
theorem pt_mark {text mark : Str} {ws ws' : List Value} {wss : List Str} {last : Str} {tl tl' : Tok} {n n' k : Nat} {tk tk' : Tok} (hm : 1 ≤ mark.length) (h : PtInv text mark ⟨ws, wss, last, tl, n, k, tk⟩) (hk : (k : Int) < text.length)
    (he : (Txt.slice text (some (k : Int)) (some ((k : Int) + (mark.length : Int))) == mark) = true) : PtInv text mark ⟨ws', wss ++ [last], Str.ofString "", tl', n', k + mark.length, tk'⟩ := by
  obtain ⟨h1, h2, h3, h4⟩ := h
  dsimp only at h1 h2 h3 h4
  have hk' : k < text.length := by omega
  have hl := slice_len hk he
  rw [slice_prefix (Nat.le_of_lt hk')] at he
  refine ⟨?_, hl, ?_, Nat.zero_le _⟩
  · have e : (Str.ofString "").cps.toList = [] := by decide +kernel
    dsimp only
    rw [← h1, e, prepend_nil, item_cps hk', splitL_cons, ← item_cps hk', if_pos he, List.drop_drop, List.map_append, List.append_assoc]
    have e2 : k + 1 + (mark.cps.toList.length - 1) = k + mark.length := by rw [len_list]; omega
    rw [e2]
    simp [prepend]
  · show (wss ++ [last]).length ≤ k + mark.length
    rw [List.length_append, List.length_singleton]; omega
theorem pt_other {text mark : Str} {ws ws' : List Value} {wss : List Str} {last : Str} {tl tl' : Tok} {n n' k : Nat} {tk tk' : Tok} (h : PtInv text mark ⟨ws, wss, last, tl, n, k, tk⟩) (hk : (k : Int) < text.length)
    (he : (Txt.slice text (some (k : Int)) (some ((k : Int) + (mark.length : Int))) == mark) = false) : PtInv text mark ⟨ws', wss, last ++ Txt.item text (k : Int), tl', n', k + 1, tk'⟩ := by
  obtain ⟨h1, h2, h3, h4⟩ := h
  dsimp only at h1 h2 h3 h4
  have hk' : k < text.length := by omega
  rw [slice_prefix (Nat.le_of_lt hk')] at he
  refine ⟨?_, by dsimp only; omega, by dsimp only; omega, ?_⟩
  · dsimp only
    rw [← h1, item_cps hk', splitL_cons, ← item_cps hk', if_neg (by rw [he]; exact Bool.false_ne_true), Str.cps_append, Array.toList_append]
    have e : (Txt.item text (k : Int)).cps.toList = [(Txt.item text (k : Int)).cps.getD 0 0] := by rw [item_at hk', item_getD hk']
    rw [e]
    obtain ⟨p, r, e2⟩ := splitL_ne mark.cps.toList (text.cps.toList.drop (k + 1))
    rw [e2]
    simp [prepend, consHead]
  · show (last ++ Txt.item text (k : Int)).length ≤ k + 1
    rw [Str.length_append]
    have := item_len text (k : Int)
    omega
theorem pt_done {text mark : Str} {ws : List Value} {wss : List Str} {last : Str} {tl : Tok} {n k : Nat} {tk : Tok} (h : PtInv text mark ⟨ws, wss, last, tl, n, k, tk⟩) (hk : ¬ (k : Int) < text.length) : (wss ++ [last]).map (·.cps.toList) = splitL mark.cps.toList text.cps.toList := by
  obtain ⟨h1, h2, h3, h4⟩ := h
  dsimp only at h1 h2
  have e : text.cps.toList.drop k = [] := List.drop_of_length_le (by rw [len_list]; omega)
  rw [e, splitL_nil] at h1
  rw [← h1, List.map_append]
  simp [prepend]
theorem pt_split {text mark : Str} {ss : List Str} (hm : 1 ≤ mark.length) (h : ss.map (·.cps.toList) = splitL mark.cps.toList text.cps.toList) : ss = Txt.split text mark := by
  apply map_list_inj
  rw [h, split_eq text mark hm]
end Mine
end PartPartsL
section PartL3Math
open PySem PySem.W PyProof.Rows
set_option maxRecDepth 100000
namespace Mine
def capw (m t : List Nat) : List Nat := joinL m ((splitL m t).map (capF true))
theorem capF_len (b : Bool) (p : List Nat) : (capF b p).length = p.length := by cases p <;> simp [capF]
theorem joinL_len (m : List Nat) : ∀ (ps : List (List Nat)), (joinL m (ps.map (capF true))).length = (joinL m ps).length
  | [] => rfl
  | [p] => capF_len true p
  | p :: q :: r => by
    have ih := joinL_len m (q :: r)
    show (capF true p ++ m ++ joinL m ((q :: r).map (capF true))).length = (p ++ m ++ joinL m (q :: r)).length
    simp only [List.length_append] at ih ⊢
    rw [ih, capF_len]
theorem joinL_ne (m p : List Nat) {r : List (List Nat)} (h : r ≠ []) : joinL m (p :: r) = p ++ m ++ joinL m r := by
  cases r with
  | nil => exact absurd rfl h
  | cons q r => rfl
theorem splitL_ne' (m l : List Nat) : splitL m l ≠ [] := by
  obtain ⟨p, r, e⟩ := splitL_ne m l
  rw [e]; exact List.cons_ne_nil _ _
theorem prefix_drop {m : List Nat} {c : Nat} {r : List Nat} (hm : m ≠ []) (h : m.isPrefixOf (c :: r) = true) : m ++ r.drop (m.length - 1) = c :: r := by
  rw [List.isPrefixOf_iff_prefix] at h
  obtain ⟨t, e⟩ := h
  cases m with
  | nil => exact absurd rfl hm
  | cons a b =>
    have e1 := (List.cons.inj e).1
    have e2 : b ++ t = r := (List.cons.inj e).2
    rw [← e2, ← e1]
    simp
theorem joinL_splitL {m : List Nat} (hm : m ≠ []) (l : List Nat) : joinL m (splitL m l) = l := by
  induction l using splitL.induct m with
  | case1 => rw [splitL_nil]; rfl
  | case2 c r hp ih =>
    rw [splitL_cons, if_pos hp, joinL_ne m [] (splitL_ne' m _), ih, List.nil_append]
    exact prefix_drop hm hp
  | case3 c r hp ih =>
    rw [splitL_cons, if_neg hp]
    obtain ⟨p, q, e⟩ := splitL_ne m r
    rw [e] at ih ⊢
    show joinL m ((c :: p) :: q) = _
    cases q with
    | nil => show c :: p = _; rw [← ih]; rfl
    | cons a b => show (c :: p) ++ m ++ _ = _; rw [← ih]; rfl
theorem capw_len {m : List Nat} (hm : m ≠ []) (t : List Nat) : (capw m t).length = t.length := by
  unfold capw
  rw [joinL_len, joinL_splitL hm]
theorem capF_lt {b : Bool} {p : List Nat} (h : ∀ c ∈ p, c < 128) : ∀ c ∈ capF b p, c < 128 := by
  have cv : ∀ (b : Bool) c, c < 128 → conv b c < 128 := by
    intro b c hc; unfold conv
    split
    · omega
    · split <;> omega
  cases p with
  | nil => intro c hc; cases hc
  | cons d r =>
    intro c hc
    rcases List.mem_cons.mp hc with rfl | hc
    · exact cv _ _ (h d (List.mem_cons_self ..))
    · obtain ⟨e, he, rfl⟩ := List.mem_map.mp hc
      exact cv _ _ (h e (List.mem_cons_of_mem _ he))
theorem joinL_mem' (m : List Nat) : ∀ (ws : List (List Nat)) (c : Nat), c ∈ joinL m ws → c ∈ m ∨ ∃ w ∈ ws, c ∈ w
  | [], c, h => by cases h
  | [p], c, h => .inr ⟨p, List.mem_cons_self .., h⟩
  | p :: q :: r, c, h => by
    unfold joinL at h
    rcases List.mem_append.mp h with h | h
    · rcases List.mem_append.mp h with h | h
      · exact .inr ⟨p, List.mem_cons_self .., h⟩
      · exact .inl h
    · rcases joinL_mem' m (q :: r) c h with h | ⟨w, hw, h⟩
      · exact .inl h
      · exact .inr ⟨w, List.mem_cons_of_mem _ hw, h⟩
theorem capw_lt {m t : List Nat} (hm : ∀ c ∈ m, c < 128) (ht : ∀ c ∈ t, c < 128) : ∀ c ∈ capw m t, c < 128 := by
  intro c hc
  rcases joinL_mem' m _ c hc with h | ⟨w, hw, h⟩
  · exact hm c h
  · obtain ⟨p, hp, rfl⟩ := List.mem_map.mp hw
    exact capF_lt (fun d hd => ht d (splitL_mem m t p hp d hd)) c h
theorem conv_idem (b : Bool) (c : Nat) : conv b (conv b c) = conv b c := by
  unfold conv
  cases b
  · simp only [Bool.false_eq_true, false_and, if_false, true_and]
    split
    · rw [if_neg (by omega)]
    · rfl
  · simp only [true_and, Bool.true_eq_false, false_and, if_false]
    split
    · rw [if_neg (by omega)]
    · rfl
theorem capF_take (q : List Nat) (p : Nat) : capF true ((capF true q).take p) = (capF true q).take p := by
  cases q with
  | nil => simp [capF]
  | cons c r =>
    cases p with
    | zero => rfl
    | succ p =>
      show capF true (conv true c :: (r.map (conv false)).take p) = conv true c :: (r.map (conv false)).take p
      show conv true (conv true c) :: ((r.map (conv false)).take p).map (conv false) = _
      rw [conv_idem]
      congr 1
      rw [← List.map_take, List.map_map]
      apply List.map_congr_left
      intro a _
      exact conv_idem false a
theorem capF_idem (q : List Nat) : capF true (capF true q) = capF true q := by
  have := capF_take q (capF true q).length
  rwa [List.take_length] at this
def Stable (m calm : List Nat) : Prop := ∀ u, capw m (calm ++ u) = calm ++ capw m u
theorem stable_nil (m : List Nat) : Stable m [] := fun _ => rfl
theorem stable_append {m a b : List Nat} (ha : Stable m a) (hb : Stable m b) : Stable m (a ++ b) := fun u => by
  rw [List.append_assoc, ha, hb, List.append_assoc]
theorem split_first {m : List Nat} (hm : m ≠ []) (u : List Nat) : ∀ w : List Nat, (∀ k, k < w.length → m.isPrefixOf ((w ++ (m ++ u)).drop k) = false) → splitL m (w ++ (m ++ u)) = w :: splitL m u
  | [], _ => by
    rw [List.nil_append]
    cases m with
    | nil => exact absurd rfl hm
    | cons a b =>
      rw [List.cons_append, splitL_cons, if_pos (by rw [List.isPrefixOf_iff_prefix]; exact ⟨u, rfl⟩)]
      simp
  | c :: r, h => by
    have h0 := h 0 (by simp)
    rw [List.drop_zero] at h0
    have ih := split_first hm u r fun k hk => by
      have := h (k + 1) (by simp; exact hk)
      simpa using this
    rw [List.cons_append] at h0 ⊢
    rw [splitL_cons, if_neg (by rw [h0]; exact Bool.false_ne_true), ih]
    rfl
theorem prefix_local {m a b b' : List Nat} (h : m.length ≤ a.length) : m.isPrefixOf (a ++ b) = m.isPrefixOf (a ++ b') := by
  rw [prefix_take, prefix_take, List.take_append_of_le_length h, List.take_append_of_le_length h]
theorem first_le {m t : List Nat} {p : Nat} {p0 : List Nat} {ps : List (List Nat)} (hs : splitL m t = p0 :: ps) (hp : m.isPrefixOf ((capw m t).drop p) = true) (hmin : ∀ k, k < p → m.isPrefixOf ((capw m t).drop k) = false) (hpl : p ≤ (capw m t).length) :
    p ≤ p0.length ∧ (capw m t).take p = (capF true p0).take p := by
  have hl := capF_len true p0
  have ht : capw m t = joinL m (capF true p0 :: ps.map (capF true)) := by unfold capw; rw [hs]; rfl
  have hle : p ≤ p0.length := by
    cases ps with
    | nil =>
      have : capw m t = capF true p0 := ht
      rw [this, hl] at hpl
      exact hpl
    | cons q r =>
      apply Nat.le_of_not_lt
      intro hlt
      have := hmin p0.length hlt
      have e : capw m t = capF true p0 ++ (m ++ joinL m ((q :: r).map (capF true))) := by rw [ht, List.map_cons, ← List.append_assoc]; rfl
      rw [e, ← hl, List.drop_left] at this
      have h2 : m.isPrefixOf (m ++ joinL m ((q :: r).map (capF true))) = true := by rw [List.isPrefixOf_iff_prefix]; exact ⟨_, rfl⟩
      rw [h2] at this
      cases this
  refine ⟨hle, ?_⟩
  cases ps with
  | nil =>
    have : capw m t = capF true p0 := ht
    rw [this]
  | cons q r =>
    have e : capw m t = capF true p0 ++ (m ++ joinL m ((q :: r).map (capF true))) := by rw [ht, List.map_cons, ← List.append_assoc]; rfl
    rw [e, List.take_append_of_le_length (by rw [hl]; exact hle)]
theorem stable_step {m t : List Nat} (hm : m ≠ []) {p : Nat} (hp : m.isPrefixOf ((capw m t).drop p) = true) (hmin : ∀ k, k < p → m.isPrefixOf ((capw m t).drop k) = false) (hpl : p ≤ (capw m t).length) : Stable m ((capw m t).take p ++ m) := by
  obtain ⟨p0, ps, hs⟩ := splitL_ne m t
  obtain ⟨h1, h2⟩ := first_le hs hp hmin hpl
  have hw : capF true ((capw m t).take p) = (capw m t).take p := by rw [h2, capF_take]
  have hwl : ((capw m t).take p).length = p := by rw [List.length_take]; omega
  obtain ⟨rest, hrest⟩ := List.isPrefixOf_iff_prefix.mp hp
  have ht : (capw m t).take p ++ (m ++ rest) = capw m t := by rw [hrest]; exact List.take_append_drop p _
  intro u
  have hno : ∀ k, k < ((capw m t).take p).length → m.isPrefixOf (((capw m t).take p ++ (m ++ u)).drop k) = false := by
    intro k hk
    rw [hwl] at hk
    have h3 := hmin k hk
    rw [← ht] at h3
    rw [List.drop_append_of_le_length (by omega), ← List.append_assoc] at h3 ⊢
    rw [prefix_local (b' := rest) (by rw [List.length_append]; omega)]
    exact h3
  have hsp := split_first hm u _ hno
  rw [List.append_assoc]
  unfold capw at hsp ⊢
  rw [hsp, List.map_cons, joinL_ne m _ (by intro e; exact splitL_ne' m u (List.map_eq_nil_iff.mp e))]
  have hw' : capF true ((joinL m ((splitL m t).map (capF true))).take p) = (joinL m ((splitL m t).map (capF true))).take p := hw
  rw [hw', List.append_assoc]
theorem splitL_none {m : List Nat} : ∀ t : List Nat, (∀ k, k < t.length → m.isPrefixOf (t.drop k) = false) → splitL m t = [t]
  | [], _ => splitL_nil m
  | c :: r, h => by
    have h0 := h 0 (by simp)
    rw [List.drop_zero] at h0
    have ih := splitL_none r fun k hk => by
      have := h (k + 1) (by simp; exact hk)
      simpa using this
    rw [splitL_cons, if_neg (by rw [h0]; exact Bool.false_ne_true), ih]
    rfl
theorem fixed_none {m t : List Nat} (h : ∀ k, k ≤ (capw m t).length → m.isPrefixOf ((capw m t).drop k) = false) : capw m (capw m t) = capw m t := by
  obtain ⟨p0, ps, hs⟩ := splitL_ne m t
  have ht : capw m t = joinL m (capF true p0 :: ps.map (capF true)) := by unfold capw; rw [hs]; rfl
  have hps : ps = [] := by
    cases ps with
    | nil => rfl
    | cons q r =>
      have e : capw m t = capF true p0 ++ (m ++ joinL m ((q :: r).map (capF true))) := by rw [ht, List.map_cons, ← List.append_assoc]; rfl
      have := h (capF true p0).length (by rw [e, List.length_append]; omega)
      rw [e, List.drop_left] at this
      have h2 : m.isPrefixOf (m ++ joinL m ((q :: r).map (capF true))) = true := by rw [List.isPrefixOf_iff_prefix]; exact ⟨_, rfl⟩
      rw [h2] at this
      cases this
  subst hps
  have ht' : capw m t = capF true p0 := ht
  have hsp := splitL_none (m := m) (capw m t) fun k hk => h k (Nat.le_of_lt hk)
  show joinL m ((splitL m (capw m t)).map (capF true)) = _
  rw [hsp]
  show capF true (capw m t) = capw m t
  rw [ht', capF_idem]
theorem capw_nil (m : List Nat) : capw m [] = [] := by unfold capw; rw [splitL_nil]; rfl
/-! the calls one after the other -/
def Good (m : List Nat) : List Nat → List (List Nat) → Prop
  | T, [] => capw m T = T
  | T, h :: r => capw m T = h ∧ Good m h r
def Steps (m : List Nat) : List Nat → List (List Nat) → List Nat → Prop
  | T, [], C => C = T
  | T, h :: r, C => capw m T = h ∧ Steps m h r C
theorem steps_snoc {m C : List Nat} : ∀ {w : List (List Nat)} {T : List Nat}, Steps m T w C → Steps m T (w ++ [capw m C]) (capw m C)
  | [], T, h => by
    have e : C = T := h
    subst e
    exact ⟨rfl, rfl⟩
  | _ :: _, _, h => ⟨h.1, steps_snoc h.2⟩
theorem steps_good {m C : List Nat} (hC : capw m C = C) : ∀ {w : List (List Nat)} {T : List Nat}, Steps m T w C → Good m T w
  | [], T, h => by
    have e : C = T := h
    subst e
    exact hC
  | _ :: _, _, h => ⟨h.1, steps_good hC h.2⟩
/-- what holds between the turns of the law's own loop: i calls are done -/
def Turn (m : List Nat) (P : List (List Nat)) (i : Nat) (T : List Nat) : Prop := Good m T (P.drop i) ∧ (P.length ≤ i → P[P.length - 1]? = some T)
theorem turn_next {m T : List Nat} {P : List (List Nat)} {i : Nat} (hP : P ≠ []) (h : Turn m P i T) : Turn m P (i + 1) (capw m T) ∧ P[min (i + 1) P.length - 1]? = some (capw m T) := by
  obtain ⟨h1, h2⟩ := h
  by_cases hi : i < P.length
  · rw [List.drop_eq_getElem_cons hi] at h1
    obtain ⟨e, h3⟩ := h1
    have e2 : min (i + 1) P.length - 1 = i := by omega
    refine ⟨⟨by rw [e]; exact h3, fun hle => ?_⟩, ?_⟩
    · have e3 : P.length - 1 = i := by omega
      rw [e3, e]; exact List.getElem?_eq_getElem hi
    · rw [e2, e]; exact List.getElem?_eq_getElem hi
  · have hd : P.drop i = [] := List.drop_of_length_le (by omega)
    rw [hd] at h1
    have e : capw m T = T := h1
    have hpos : 0 < P.length := List.length_pos_iff.mpr hP
    have e2 : min (i + 1) P.length - 1 = P.length - 1 := by omega
    have hd2 : P.drop (i + 1) = [] := List.drop_of_length_le (by omega)
    refine ⟨⟨by rw [hd2, e]; exact e, fun _ => by rw [e]; exact h2 (by omega)⟩, by rw [e2, e]; exact h2 (by omega)⟩
end Mine
end PartL3Math
section PartL3Cap2
open PySem PySem.W PyProof.Rows PySem.Builtin PySem.Builtin.Str
set_option maxRecDepth 100000
namespace Mine
def capPart (p : Str) : Str := Txt.upper (Txt.slice p none (some 1)) ++ Txt.lower (Txt.slice p (some 1) none)
theorem slice_to_list {x : Str} {n : Nat} (h : n ≤ x.length) : (Txt.slice x none (some (n : Int))).cps.toList = x.cps.toList.take n := by
  have e := StrLaws.sliceText_to (x := x) (j := (n : Int)) ⟨by omega, by rw [len_list]; omega⟩
  show (StrLaws.sliceText x none (some (n : Int))).cps.toList = _
  rw [e]
  have e1 : ((n : Int) - 0).toNat = n := by omega
  rw [e1, List.drop_zero]
theorem slice_from_list {x : Str} {n : Nat} (h : n ≤ x.length) : (Txt.slice x (some (n : Int)) none).cps.toList = x.cps.toList.drop n := by
  have e := StrLaws.sliceText_from (x := x) (i := (n : Int)) ⟨by omega, by rw [len_list]; omega⟩
  show (StrLaws.sliceText x (some (n : Int)) none).cps.toList = _
  rw [e]
  have e1 : ((x.cps.toList.length : Int) - (n : Int)).toNat = x.length - n := by rw [len_list]; omega
  have e2 : (n : Int).toNat = n := by omega
  rw [e1, e2, List.take_of_length_le (by rw [List.length_drop, len_list]; exact Nat.le_refl _)]
theorem nil_of_len {x : Str} (h : x.length = 0) : x.cps.toList = [] := List.eq_nil_of_length_eq_zero (by rw [len_list]; exact h)
theorem slice_one (x : Str) : (Txt.slice x none (some 1)).cps.toList = x.cps.toList.take 1 := by
  by_cases h : 1 ≤ x.length
  · exact slice_to_list (n := 1) h
  · have h0 : x.length = 0 := by omega
    have := Txt.slice_le x none (some 1)
    rw [nil_of_len h0, nil_of_len (x := Txt.slice x none (some 1)) (by omega)]; rfl
theorem slice_rest (x : Str) : (Txt.slice x (some 1) none).cps.toList = x.cps.toList.drop 1 := by
  by_cases h : 1 ≤ x.length
  · exact slice_from_list (n := 1) h
  · have h0 : x.length = 0 := by omega
    have := Txt.slice_le x (some 1) none
    rw [nil_of_len h0, nil_of_len (x := Txt.slice x (some 1) none) (by omega)]; rfl
theorem mapIdx_const (f : Nat → Nat) (l : List Nat) : (l.mapIdx fun _ c => f c) = l.map f := by
  apply List.ext_getElem (by simp)
  intro i h1 h2
  simp
theorem upper_list {x : Str} (h : ∀ c ∈ x.cps.toList, c < 128) : (Txt.upper x).cps.toList = x.cps.toList.map (conv true) := by
  show (placed x _).toList = _
  rw [placed_list x _ (fun _ c => conv true c), mapIdx_const]
  intro i hi
  exact upper_ascii _ (h _ (Array.mem_toList_iff.mpr (Array.getElem_mem hi)))
theorem lower_list {x : Str} (h : ∀ c ∈ x.cps.toList, c < 128) : (Txt.lower x).cps.toList = x.cps.toList.map (conv false) := by
  show (placed x _).toList = _
  rw [placed_list x _ (fun _ c => conv false c), mapIdx_const]
  intro i hi
  exact lowerAt_ascii hi (h _ (Array.mem_toList_iff.mpr (Array.getElem_mem hi)))
theorem capPart_eq {p : Str} (h : Ascii p) : capPart p = Txt.capitalize p := by
  apply str_ext
  rw [ascii_list] at h
  unfold capPart
  rw [cap_ascii (ascii_list.mpr h), Str.cps_append, Array.toList_append, upper_list, lower_list, slice_one, slice_rest]
  · cases p.cps.toList with
    | nil => rfl
    | cons c r => rfl
  · intro c hc; rw [slice_rest] at hc; exact h c (List.mem_of_mem_drop hc)
  · intro c hc; rw [slice_one] at hc; exact h c (List.mem_of_mem_take hc)
theorem capParts_eq {txt mark : Str} (hA : Ascii txt) (hm : 1 ≤ mark.length) : (Txt.split txt mark).map capPart = (Txt.split txt mark).map Txt.capitalize :=
  List.map_congr_left fun p hp => capPart_eq (ascii_parts hA hm p hp)
end Mine
end PartL3Cap2
section PartL3Inv
open PySem PySem.W PyProof.Rows
set_option maxRecDepth 100000
namespace Mine
structure PsSt where
  text : Str
  tt : Tok
  calm : Str
  tc : Tok
  ws : List Value
  wss : List Str
  n : Nat
def PsInv (text0 mark : Str) (c : PsSt) : Prop :=
  Steps mark.cps.toList text0.cps.toList (c.wss.map (·.cps.toList)) (c.calm.cps.toList ++ c.text.cps.toList) ∧ Stable mark.cps.toList c.calm.cps.toList ∧ Ascii c.text ∧ c.calm.length + c.text.length ≤ text0.length ∧ c.wss.length + c.text.length ≤ text0.length ∧ (c.wss = [] → 1 ≤ c.text.length)
theorem app_list (a b : Str) : (a ++ b).cps.toList = a.cps.toList ++ b.cps.toList := by rw [Str.cps_append, Array.toList_append]
theorem not_at {TX mark : Str} (hm1 : 1 ≤ mark.length) {k : Nat} (h : ¬ StrLaws.At TX mark TX.length k) : mark.cps.toList.isPrefixOf (TX.cps.toList.drop k) = false := by
  rw [at_prefix TX mark hm1] at h
  exact Bool.not_eq_true _ ▸ h
theorem mark_ne {mark : Str} (hm1 : 1 ≤ mark.length) : mark.cps.toList ≠ [] := by
  intro e
  have := len_list mark
  rw [e] at this
  simp at this
  omega
theorem steps_more {text0 mark txt calm TX : Str} {wss : List Str} (hSt : Steps mark.cps.toList text0.cps.toList (wss.map (·.cps.toList)) (calm.cps.toList ++ txt.cps.toList)) (hStab : Stable mark.cps.toList calm.cps.toList)
    (hTX : TX.cps.toList = capw mark.cps.toList txt.cps.toList) : Steps mark.cps.toList text0.cps.toList ((wss ++ [calm ++ TX]).map (·.cps.toList)) (calm.cps.toList ++ TX.cps.toList) := by
  have h := steps_snoc hSt
  rw [hStab, ← hTX] at h
  rw [List.map_append, List.map_cons, List.map_nil, app_list]
  exact h
theorem ps_return {text0 mark txt calm TX : Str} {wss : List Str} (hm1 : 1 ≤ mark.length) (hSt : Steps mark.cps.toList text0.cps.toList (wss.map (·.cps.toList)) (calm.cps.toList ++ txt.cps.toList)) (hStab : Stable mark.cps.toList calm.cps.toList)
    (hTX : TX.cps.toList = capw mark.cps.toList txt.cps.toList) (hno : Txt.find TX mark < 0) : Good mark.cps.toList text0.cps.toList ((wss ++ [calm ++ TX]).map (·.cps.toList)) := by
  refine steps_good ?_ (steps_more hSt hStab hTX)
  rw [hStab]
  congr 1
  rcases find_whole TX mark with ⟨_, h⟩ | ⟨i, h, _⟩
  · rw [hTX]
    refine fixed_none fun k _ => ?_
    rw [← hTX]
    exact not_at hm1 (h k)
  · omega
theorem ps_exit {text0 mark txt calm : Str} {wss : List Str} (hSt : Steps mark.cps.toList text0.cps.toList (wss.map (·.cps.toList)) (calm.cps.toList ++ txt.cps.toList)) (hStab : Stable mark.cps.toList calm.cps.toList) (h0 : txt.length = 0) :
    Good mark.cps.toList text0.cps.toList (wss.map (·.cps.toList)) := by
  rw [nil_of_len h0, List.append_nil] at hSt
  refine steps_good ?_ hSt
  have := hStab []
  rw [List.append_nil, capw_nil, List.append_nil] at this
  exact this
theorem ps_next {text0 mark txt calm TX : Str} {wss : List Str} (hm1 : 1 ≤ mark.length) (hAm : Ascii mark) (hAt : Ascii txt) (hSt : Steps mark.cps.toList text0.cps.toList (wss.map (·.cps.toList)) (calm.cps.toList ++ txt.cps.toList)) (hStab : Stable mark.cps.toList calm.cps.toList)
    (hl1 : calm.length + txt.length ≤ text0.length) (hl2 : wss.length + txt.length ≤ text0.length)
    (hTX : TX.cps.toList = capw mark.cps.toList txt.cps.toList) (hyes : ¬ Txt.find TX mark < 0) (t1 t2 : Tok) (ws : List Value) (n : Nat) :
    PsInv text0 mark ⟨Txt.slice TX (some (Txt.find TX mark + (mark.length : Int))) none, t1, calm ++ Txt.slice TX none (some (Txt.find TX mark)) ++ mark, t2, ws, wss ++ [calm ++ TX], n⟩ ∧ (Txt.slice TX (some (Txt.find TX mark + (mark.length : Int))) none).length < txt.length := by
  have hTXn : TX.length = txt.length := by rw [← len_list, hTX, ← len_list txt]; exact capw_len (mark_ne hm1) _
  rcases find_whole TX mark with ⟨h, _⟩ | ⟨i, h, hA, hmin⟩
  · omega
  · have hil : i + mark.length ≤ TX.length := hA.1
    have e1 : (Txt.slice TX (some (Txt.find TX mark + (mark.length : Int))) none).cps.toList = TX.cps.toList.drop (i + mark.length) := by
      rw [h]
      have := slice_from_list (x := TX) (n := i + mark.length) hil
      rw [← this]
      congr 3
    have e2 : (Txt.slice TX none (some (Txt.find TX mark))).cps.toList = TX.cps.toList.take i := by
      rw [h]
      exact slice_to_list (by omega)
    have hp := (at_prefix TX mark hm1 i).mp hA
    have hle : (Txt.slice TX (some (Txt.find TX mark + (mark.length : Int))) none).length = TX.length - (i + mark.length) := by
      rw [← len_list, e1, List.length_drop, len_list]
    have hcl : (calm ++ Txt.slice TX none (some (Txt.find TX mark)) ++ mark).length = calm.length + i + mark.length := by
      rw [Str.length_append, Str.length_append]
      have : (Txt.slice TX none (some (Txt.find TX mark))).length = i := by rw [← len_list, e2, List.length_take, len_list]; omega
      omega
    have hcal : (calm ++ Txt.slice TX none (some (Txt.find TX mark)) ++ mark).cps.toList = calm.cps.toList ++ (TX.cps.toList.take i ++ mark.cps.toList) := by
      rw [app_list, app_list, e2, List.append_assoc]
    refine ⟨⟨?_, ?_, ?_, ?_, ?_, ?_⟩, by omega⟩
    · dsimp only
      rw [hcal, e1]
      have : calm.cps.toList ++ (TX.cps.toList.take i ++ mark.cps.toList) ++ TX.cps.toList.drop (i + mark.length) = calm.cps.toList ++ TX.cps.toList := by
        rw [List.append_assoc, List.append_assoc]
        congr 1
        obtain ⟨r, hr⟩ := List.isPrefixOf_iff_prefix.mp hp
        have h3 : TX.cps.toList.drop (i + mark.length) = r := by
          rw [← List.drop_drop, ← hr, ← len_list mark, List.drop_left]
        rw [h3, hr]
        exact List.take_append_drop _ _
      rw [this]
      exact steps_more hSt hStab hTX
    · dsimp only
      rw [hcal]
      refine stable_append hStab ?_
      rw [hTX]
      refine stable_step (mark_ne hm1) ?_ ?_ ?_
      · rw [← hTX]; exact hp
      · intro k hk; rw [← hTX]; exact not_at hm1 (hmin k hk)
      · rw [← hTX, len_list]; omega
    · dsimp only
      rw [ascii_list] at hAt hAm ⊢
      intro c hc
      rw [e1] at hc
      have := List.mem_of_mem_drop hc
      rw [hTX] at this
      exact capw_lt hAm hAt c this
    · dsimp only
      omega
    · dsimp only
      rw [List.length_append, List.length_singleton]
      omega
    · intro e
      exact absurd e (by simp)
end Mine
end PartL3Inv
section PartCompRules2
open PySem PySem.W PyProof.Rows
set_option maxRecDepth 100000
namespace Mine
section
variable {prog : Program} {w : World} {A : Around} {h₀ : Heap} {L : Addr} {m : Str → Option Value} {env : Env} {elt : Expr} {x : Str} {scope : Scope} {cl : List (Str × Addr)} {s : Shared} {S : List (Addr × Obj) → Prop} {P : Nat → Value → Prop} {Fin : List Value → List (Addr × Obj) → Prop} {news : List (Addr × Obj)}
def ElP (R : Str → Prop) (news : List (Addr × Obj)) (y : Value) (news' : List (Addr × Obj)) : Prop := news' = news ∧ ∃ (r : Str) (t : Tok), y = .str r t ∧ R r
/-- a comprehension whose elements are texts of which one thing is known -/
theorem comp_restP {n : Nat} (R : Str → Prop)
    (turn : ∀ i v I oI C oC D m₂ ys h tk (E' : Value → Shared → Prop), i < n → P i v → LCg.NsObj oC m₂ → m₂ x = some v → Fr h₀ L h m → News h₀ L h ((I, oI) :: (C, oC) :: (D, LCg.lst ys) :: news) → LCg.Off3 I C D news → ((@Ne Nat I C) ∧ (@Ne Nat I D) ∧ (@Ne Nat C D)) →
      wpAny (model prog w) A (eval elt (compEnvC scope cl C env)) (LCg.CompEnd h₀ L m { s with heap := h, toks := tk } I oI C oC D (LCg.lst ys) S (ElP R news)) E' { s with heap := h, toks := tk })
    (fin : ∀ ys ss, StrsAre ys ss → ss.length = n → (∀ r ∈ ss, R r) → Fin ys news) : LCg.CompRest prog w A h₀ L m env elt x scope cl s S P Fin n 0 [] news :=
  comp_by (fun i ys => ∃ ss, StrsAre ys ss ∧ ss.length = i ∧ ∀ r ∈ ss, R r) (fun ys ⟨ss, a, b, c⟩ => fin ys ss a b c) (fun i ys v I oI C oC D m₂ h tk E' hi q hv hC hx F N off ne => by
    obtain ⟨ss, a, b, c⟩ := q
    refine wpAny_mono (turn i v I oI C oC D m₂ ys h tk E' hi hv hC hx F N off ne) (fun y _ z => end_to z fun nw el => ⟨el.1, ?_⟩) fun _ _ z => z
    obtain ⟨_, r, t, rfl, hR⟩ := el
    refine ⟨ss ++ [r], kct_snoc a, by rw [List.length_append, b]; rfl, fun r' hr' => ?_⟩
    rcases List.mem_append.mp hr' with k | k
    · exact c r' k
    · exact List.mem_singleton.mp k ▸ hR) n 0 [] (Nat.zero_add n) ⟨[], .nil, rfl, fun r k => nomatch k⟩
end
theorem join_signs : ∀ {ss : List Str}, (∀ r ∈ ss, Ascii r ∧ r.length = 1) → (∀ c ∈ joinL [] (ss.map (·.cps.toList)), c < 128) ∧ (joinL [] (ss.map (·.cps.toList))).length = ss.length
  | [], _ => ⟨fun c h => (by cases h), rfl⟩
  | [p], h => by
    obtain ⟨h1, h2⟩ := h p (List.mem_cons_self ..)
    exact ⟨ascii_list.mp h1, by show p.cps.toList.length = 1; rw [len_list, h2]⟩
  | p :: q :: r, h => by
    obtain ⟨h1, h2⟩ := h p (List.mem_cons_self ..)
    obtain ⟨i1, i2⟩ := join_signs (ss := q :: r) fun s hs => h s (List.mem_cons_of_mem _ hs)
    have e : joinL [] ((p :: q :: r).map (·.cps.toList)) = p.cps.toList ++ joinL [] ((q :: r).map (·.cps.toList)) := by
      show p.cps.toList ++ [] ++ joinL [] ((q :: r).map (·.cps.toList)) = _
      rw [List.append_nil]
    rw [e]
    refine ⟨fun c hc => ?_, ?_⟩
    · rcases List.mem_append.mp hc with hc | hc
      · exact ascii_list.mp h1 c hc
      · exact i1 c hc
    · rw [List.length_append, i2, len_list, h2, List.length_cons (a := p)]; omega
theorem join_empty {ss : List Str} (h : ∀ r ∈ ss, Ascii r ∧ r.length = 1) : Ascii (Txt.join (Str.ofString "") ss) ∧ (Txt.join (Str.ofString "") ss).length = ss.length := by
  have e : (Str.ofString "").cps.toList = [] := by decide +kernel
  have := join_signs h
  rw [ascii_list, ← len_list, join_list, e]
  exact this
theorem joinOk_signs {ss : List Str} (h : ∀ r ∈ ss, Ascii r ∧ r.length = 1) (hl : ss.length ≤ 1000) : JoinOk (Str.ofString "") ss = true := by
  refine joinOk_of ?_
  have e0 : (Str.ofString "").length = 0 := by decide +kernel
  have : (ss.map (·.length)).sum = ss.length := by
    clear hl
    induction ss with
    | nil => rfl
    | cons p r ih =>
      rw [List.map_cons, List.sum_cons, ih fun s hs => h s (List.mem_cons_of_mem _ hs), (h p (List.mem_cons_self ..)).2, List.length_cons]; omega
  rw [this, e0]; omega
end Mine
end PartCompRules2
section PartL3Turn
open PySem PySem.W PyProof.Rows
namespace Mine
theorem str_of_list {a b : Str} (h : a.cps.toList = b.cps.toList) : a = b := by
  obtain ⟨a⟩ := a
  obtain ⟨b⟩ := b
  exact congrArg Str.mk (Array.toList_inj.mp h)
theorem turn_str {P : List Str} {mark told T : Str} {i : Nat} (hP : P ≠ []) (hm1 : 1 ≤ mark.length) (hAm : Ascii mark) (hA : Ascii told) (h : Turn mark.cps.toList (P.map (·.cps.toList)) i told.cps.toList)
    (hT : Txt.join mark ((Txt.split told mark).map Txt.capitalize) = T) : Turn mark.cps.toList (P.map (·.cps.toList)) (i + 1) T.cps.toList ∧ P[min (i + 1) P.length - 1]? = some T ∧ Ascii T ∧ T.length = told.length := by
  have e : T.cps.toList = capw mark.cps.toList told.cps.toList := by rw [← hT]; exact capw_list hA hm1
  have hmne : mark.cps.toList ≠ [] := by intro e; have := len_list mark; rw [e] at this; simp at this; omega
  obtain ⟨h1, h2⟩ := turn_next (by simpa using hP) h
  rw [← e] at h1 h2
  refine ⟨h1, ?_, ?_, ?_⟩
  · rw [List.length_map, List.getElem?_map] at h2
    obtain ⟨x, hx, hxe⟩ := Option.map_eq_some_iff.mp h2
    rw [hx, str_of_list hxe]
  · rw [ascii_list, e]
    exact capw_lt (ascii_list.mp hAm) (ascii_list.mp hA)
  · rw [← len_list, e, capw_len hmne, len_list]
theorem strs_at {ys : List Value} {P : List Str} (h : StrsAre ys P) {j : Nat} {x : Str} (hx : P[j]? = some x) : ∃ t, ys[j]? = some (Value.str x t) := by
  have hl := h.length
  have hj : j < P.length := (List.getElem?_eq_some_iff.mp hx).1
  have hv : ys[j]? = some ys[j] := List.getElem?_eq_getElem (by omega)
  obtain ⟨y, t, e, hy⟩ := h.item j _ hv
  rw [hx] at hy
  obtain rfl := Option.some.inj hy
  exact ⟨t, by rw [hv, e]⟩
theorem turn_zero {m T : List Nat} {P : List (List Nat)} (hP : P ≠ []) (h : Good m T P) : Turn m P 0 T := ⟨h, fun hl => absurd (List.length_eq_zero_iff.mp (Nat.le_zero.mp hl)) hP⟩
theorem fd_box {a b : Int} (h0 : 0 ≤ a) (h1 : a ≤ 70) (hb : 1 ≤ b) : 0 ≤ a.fdiv b ∧ a.fdiv b ≤ 70 := by
  rw [Int.fdiv_eq_ediv_of_nonneg _ (by omega)]
  have h2 := Int.ediv_nonneg h0 (b := b) (by omega)
  have h3 := Int.ediv_le_self b h0
  omega
end Mine
end PartL3Turn
section PartL3Head
open PySem PySem.W PyProof.Rows
set_option maxRecDepth 100000
set_option maxHeartbeats 8000000
namespace Mine
open_top hd03 for PySem.Challenge.rw_dn0181_03
end Mine
end PartL3Head
section PartL3Cap
open PySem PySem.W PyProof.Rows
set_option maxRecDepth 100000
set_option maxHeartbeats 8000000
namespace Mine
local macro_rules | `(tactic| cell_enter) => `(tactic| (refine' code_def ?k1 ?k2 ?k3 ?k4 ?k5 ?kA ?kF ?kK ?k6 ?k7 ?k8 ?k9 ?kB ?_ ?c2 ?c3 ?c4 ?c5; (case kA => exact rfl); (case kF => exact rfl); (case kK => assumption); (case k1 => k_asm); (case k2 => k_asm); (case k3 => k_asm); (case k4 => k_asm); (case k5 => k_asm); (case k6 => k_is); (case k7 => k_is); (case k8 => ktr_room); (case k9 => first | exact BindsTo.of_eq rfl | exact binds_K (by k_in) rfl (by k_is) rfl rfl rfl); (case c5 => decide); (case kB => exact locs rfl); (case c2 => exact rfl); (case c3 => exact rfl); (case c4 => exact rfl); k_whole; intro g' L' h' FG' F' N' B' X' T'; (try dsimp only); (try k_lift B'); (try k_fold)))
local macro_rules | `(tactic| walk_at "getAttr") => `(tactic| (k_dflt (refine' attr_type ?F ?X ?t ?s ?e ?h ?_; (case F => k_asm); (case X => k_asm); (case t => decide +kernel); (case s => decide +kernel); (case e => k_is); (case h => k_handed); k_whole)))
local macro_rules | `(tactic| walk_at "call type:map") => `(tactic| (refine call_mapN (by k_asm) (by k_asm) (News.isList (by k_asm) (by k_mem)) ?_; intro mH mI mT mZ mF mN m1 m2 m3))

theorem sum_cap : ∀ ss : List Str, ((ss.map Txt.capitalize).map (·.length)).sum ≤ 3 * (ss.map (·.length)).sum
  | [] => Nat.le_refl _
  | a :: r => by
    have h := sum_cap r
    have ha := len_capitalize a
    simp only [List.map_cons, List.sum_cons]
    omega
theorem joinOk_cap {sep : Str} {ss : List Str} {n : Nat} (hW : (ss.map (·.length)).sum + ss.length ≤ n + 1) (hn : n ≤ 4000) (hs : sep.length ≤ 4000) : JoinOk sep (ss.map Txt.capitalize) = true := by
  have h1 := sum_cap ss
  refine joinOk_of ?_
  rw [List.length_map]
  have h2 : ss.length * sep.length ≤ 4001 * 4000 := Nat.mul_le_mul (by omega) hs
  omega

section
variable {w : World} {loose : List Str} {mean : ExcName → Option Value} {mg mb : Str → Option Value} {gd : Option (List Code)} {cn : Str} {cs : Scope} {a : Addr} {ccd : Value} {cl : List (Str × Addr)} {outer : List Env} {A₀ : Around} {base h₀ : Heap} {L : Addr} {m : Str → Option Value} {news : List (Addr × Obj)} {s : Shared} {Q E : Value → Shared → Prop}
   (B : Below A₀ base outer h₀) (F : Fr h₀ L s.heap m) (X : (hd03.heap_39 w.params).In h₀) (N : News h₀ L s.heap news) (T : Top hd03.view_39 loose mean mg mb h₀) (hk : cs.kind = .function)
include B F X N T hk

section
local macro_rules | `(tactic| walk_at "truthy str") => `(tactic| (refine KXt.truthy_pos (K := 4000) (by assumption) (by assumption) (by decide) ?_; intro _))
local macro_rules | `(tactic| walk_at "call builtin:str.split") => `(tactic| (refine KSpl.split1 (by k_asm) (by k_asm) (by assumption) ?_ (by assumption); intro lD lV hS kS hSp hAre lF lN lLt))
theorem cap_mark (text mark : Str) (t1 t2 : Tok) (hm1 : 1 ≤ mark.length) (hm2 : mark.length ≤ 4000) (ht : text.length ≤ 4000)
   (hret : ∀ t h' tk', Fr h₀ L h' m → News h₀ L h' news → Q (.str (Txt.join mark ((Txt.split text mark).map Txt.capitalize)) t) { s with heap := h', toks := tk' }) :
   wpAny (model PySem.Challenge.rw_dn0181_03.row.prog w) (ktrTop 302 7 gd cn cs L a ccd cl outer) (call (.ref 22) [.str text t1, .str mark t2]) Q E s := by
  have hm3 : (mark.length == 0) = false := by rw [beq_eq_false_iff_ne]; omega
  have ht2 : text.length + 2 ≤ sizeLine := by rw [sizeLine_eq]; omega
  revert X; k_fill; intro X
  refine wpAny_call ?_
  k_dflt cell_enter
  k_steps
  rename_i lD lV hS kS hSp hAre lF lN lLt mH mI mT mZ mF mN m1 m2 m3
  have hw := split_weight text mark hm1
  refine join_mapN (ss := Txt.split text mark) rfl mF mN (News.isList mN (by k_mem)) (hSp ▸ hAre) m1 m2 m3 ?_ ?_ ?_ ?_ ?_
  · exact Nat.ne_of_lt (m1 _ (List.mem_cons_self ..))
  · intro x hx
    exact Nat.le_trans (part_short hx) (by omega)
  · simp only [sizeLine_eq]; omega
  · exact joinOk_cap hw ht hm2
  · intro h' tk' t' F' N'
    k_steps
    rename_i kF kN Tc kX
    exact hret _ _ _ kF (cb_drop kN fun p hp => List.mem_cons_of_mem _ hp)
end

end
end Mine
end PartL3Cap
section PartL3Parts
open PySem PySem.W PyProof.Rows
set_option maxRecDepth 100000
set_option maxHeartbeats 8000000
namespace Mine
local macro_rules | `(tactic| cell_enter) => `(tactic| (refine' code_def ?k1 ?k2 ?k3 ?k4 ?k5 ?kA ?kF ?kK ?k6 ?k7 ?k8 ?k9 ?kB ?_ ?c2 ?c3 ?c4 ?c5; (case kA => exact rfl); (case kF => exact rfl); (case kK => assumption); (case k1 => k_asm); (case k2 => k_asm); (case k3 => k_asm); (case k4 => k_asm); (case k5 => k_asm); (case k6 => k_is); (case k7 => k_is); (case k8 => ktr_room); (case k9 => first | exact BindsTo.of_eq rfl | exact binds_K (by k_in) rfl (by k_is) rfl rfl rfl); (case c5 => decide); (case kB => exact locs rfl); (case c2 => exact rfl); (case c3 => exact rfl); (case c4 => exact rfl); k_whole; intro g' L' h' FG' F' N' B' X' T'; (try dsimp only); (try k_lift B'); (try k_fold)))
local macro_rules | `(tactic| k_steps) => `(tactic| repeat' (
  (fail_if_success (with_reducible show wpAny _ _ (pyIter _) _ _ _));
  (fail_if_success (with_reducible show wpAny _ _ (exec (Stmt.While _ _ _ _) _) _ _ _));
  (fail_if_success (with_reducible show wpAny _ _ (exec (Stmt.For _ _ _ _ _) _) _ _ _));
  (fail_if_success (with_reducible show wpAny _ _ (eval (Expr.ListComp _ _ _ _) _) _ _ _));
  (fail_if_success (with_reducible show wpAny _ _ (call (Value.ref _) _ _) _ _ _));
  (fail_if_success (with_reducible show InvPostN _ _ _ _ _ _ _ _ _));
  (fail_if_success (with_reducible show LCg.CompEnd _ _ _ _ _ _ _ _ _ _ _ _ _ _));
  (fail_if_success (with_reducible show KswPost _ _ _ _ _ _ _ _ _ _ _ _ _ _));
  first | (k_unfold; (try dsimp only)) | (k_end; wrow_close) | walk1 | (dsimp only; walk1) | (leave1; try dsimp only) | fail "no step"))
local macro_rules | `(tactic| walk_at "binaryOp Add str str") => `(tactic| (refine KXadd.add (K := 8000) (L := 8000) (by omega) (by omega) (by decide) ?_; intro _ _ _))

local macro_rules | `(tactic| walk_at "call builtin:list.append") => `(tactic| (refine append_head (by k_asm) (by k_asm) (by assumption) (by assumption) ?_; intro h' F' N'; (try k_sweep)))
local macro_rules | `(tactic| walk_at "subscriptTail Name UnaryOp ref int") => `(tactic| (with_unfolding_all refine' item_last ?k1 ?_ ?k2; (case k1 => k_asm); (case k2 => with_unfolding_all rfl); k_whole))
local macro_rules | `(tactic| walk_at "setItem ref int") => `(tactic| (refine set_last (by k_asm) (by k_asm) (by assumption) ?_; intro h' F' N'; (try k_sweep)))
section
variable {w : World} {loose : List Str} {mean : ExcName → Option Value} {mg mb : Str → Option Value} {gd : Option (List Code)} {cn : Str} {cs : Scope} {a : Addr} {ccd : Value} {cl : List (Str × Addr)} {outer : List Env} {A₀ : Around} {base h₀ : Heap} {L : Addr} {m : Str → Option Value} {news : List (Addr × Obj)} {s : Shared} {Q E : Value → Shared → Prop}
   (B : Below A₀ base outer h₀) (F : Fr h₀ L s.heap m) (X : (hd03.heap_39 w.params).In h₀) (N : News h₀ L s.heap news) (T : Top hd03.view_39 loose mean mg mb h₀) (hk : cs.kind = .function)
include B F X N T hk

theorem parts_spec (text mark : Str) (t1 t2 : Tok) (hm1 : 1 ≤ mark.length) (hm2 : mark.length ≤ 4000) (ht : text.length ≤ 4000)
   (hret : ∀ D ys n h' tk', StrsAre ys (Txt.split text mark) → Fr h₀ L h' m → News h₀ L h' ((D, listOf ys.toArray n) :: news) → (∀ p ∈ news, p.1 < D) → Q (.ref D) { s with heap := h', toks := tk' }) :
   wpAny (model PySem.Challenge.rw_dn0181_03.row.prog w) (ktrTop 303 10 gd cn cs L a ccd cl outer) (call (.ref 29) [.str text t1, .str mark t2]) Q E s := by
  revert X; k_fill; intro X
  refine wpAny_call ?_
  k_dflt cell_enter
  k_steps
  rename_i lw _ lLt _ _ hF1 hN1
  refine ksw_while (σ := PtSt) (fun c => (lw, listOf (c.ws ++ [Value.str c.last c.tl]).toArray c.n) :: news) (fun c => [(Str.ofString "k", .int c.k c.tk)]) (fun c => StrsAre c.ws c.wss) []
    (PtInv text mark) (fun c => text.length - c.k) ⟨[], [], Str.ofString "", _, _, 0, _⟩ hF1 hN1 .nil (List.forall_mem_cons.mpr ⟨rfl, List.forall_mem_nil _⟩) (pt_start _ _ _ _ _) ?_
  rintro ⟨ws, wss, last, tl, n, k, tk⟩ u h2 tk2 hS hI F2 N2
  obtain ⟨-, hk1, hl1, hl2⟩ := id hI
  dsimp only [kstB] at F2 N2 hS hk1 hl1 hl2
  have hoffN : ∀ p ∈ news, p.1 ≠ lw := fun p hp => Nat.ne_of_lt (lLt p hp)
  have hws := hS.length
  have hwl : (ws ++ [Value.str last tl]).length ≤ 100000 := by rw [List.length_append, List.length_singleton]; omega
  have hil : (Txt.item text (k : Int)).length ≤ 1 := item_len text _
  k_steps
  · refine ksw_end ⟨ws ++ [Value.str last tl], wss ++ [last], Str.ofString "", _, _, k + mark.length, _⟩ (by assumption) (by assumption) (fun p hp => hp) (KStt.strs_snoc hS) (List.forall_mem_cons.mpr ⟨rfl, List.forall_mem_nil _⟩) ?_ (pt_mark hm1 hI (by assumption) (by assumption)) ?_
    · intro z hz2 hz3
      simp only [List.forall_mem_cons, List.not_mem_nil, false_implies, implies_true, and_true, ne_eq] at hz2
      simp [hz2]
    · have hsl := slice_len (text := text) (mark := mark) (k := k) (by assumption) (by assumption)
      show text.length - (k + mark.length) < text.length - k
      omega
  · refine ksw_end ⟨ws, wss, last ++ Txt.item text (k : Int), _, _, k + 1, _⟩ (by assumption) (by assumption) (fun p hp => hp) hS (List.forall_mem_cons.mpr ⟨rfl, List.forall_mem_nil _⟩) ?_ (pt_other hI (by assumption) (by assumption)) ?_
    · intro z hz2 hz3
      simp only [List.forall_mem_cons, List.not_mem_nil, false_implies, implies_true, and_true, ne_eq] at hz2
      simp [hz2]
    · show text.length - (k + 1) < text.length - k
      omega
  · rename_i hkn kF kN Tc kX
    refine hret lw _ _ _ _ ?_ kF kN lLt
    rw [← pt_split hm1 (pt_done hI (by assumption))]
    exact KStt.strs_snoc hS
end
end Mine
end PartL3Parts
section PartL3Passes
open PySem PySem.W PyProof.Rows
set_option maxRecDepth 100000
set_option maxHeartbeats 8000000
namespace Mine
local macro_rules | `(tactic| cell_enter) => `(tactic| (refine' code_def ?k1 ?k2 ?k3 ?k4 ?k5 ?kA ?kF ?kK ?k6 ?k7 ?k8 ?k9 ?kB ?_ ?c2 ?c3 ?c4 ?c5; (case kA => exact rfl); (case kF => exact rfl); (case kK => assumption); (case k1 => k_asm); (case k2 => k_asm); (case k3 => k_asm); (case k4 => k_asm); (case k5 => k_asm); (case k6 => k_is); (case k7 => k_is); (case k8 => ktr_room); (case k9 => first | exact BindsTo.of_eq rfl | exact binds_K (by k_in) rfl (by k_is) rfl rfl rfl); (case c5 => decide); (case kB => exact locs rfl); (case c2 => exact rfl); (case c3 => exact rfl); (case c4 => exact rfl); k_whole; intro g' L' h' FG' F' N' B' X' T'; (try dsimp only); (try k_lift B'); (try k_fold)))
local macro_rules | `(tactic| k_steps) => `(tactic| repeat' (
  (fail_if_success (with_reducible show wpAny _ _ (pyIter _) _ _ _));
  (fail_if_success (with_reducible show wpAny _ _ (exec (Stmt.While _ _ _ _) _) _ _ _));
  (fail_if_success (with_reducible show wpAny _ _ (exec (Stmt.For _ _ _ _ _) _) _ _ _));
  (fail_if_success (with_reducible show wpAny _ _ (eval (Expr.ListComp _ _ _ _) _) _ _ _));
  (fail_if_success (with_reducible show wpAny _ _ (call (Value.ref _) _ _) _ _ _));
  (fail_if_success (with_reducible show InvPostN _ _ _ _ _ _ _ _ _));
  (fail_if_success (with_reducible show LCg.CompEnd _ _ _ _ _ _ _ _ _ _ _ _ _ _));
  (fail_if_success (with_reducible show KswPost _ _ _ _ _ _ _ _ _ _ _ _ _ _));
  first | (k_unfold; (try dsimp only)) | (k_end; wrow_close) | walk1 | (dsimp only; walk1) | (leave1; try dsimp only) | fail "no step"))
local macro_rules | `(tactic| walk_at "binaryOp Add str str") => `(tactic| (refine KXadd.add (K := 8000) (L := 8000) (by omega) (by omega) (by decide) ?_; intro _ _ _))

local macro_rules | `(tactic| walk_at "call builtin:list.append") => `(tactic| (refine append_head (by k_asm) (by k_asm) (by assumption) (by assumption) ?_; intro h' F' N'; (try k_sweep)))
local macro_rules | `(tactic| walk_at "subscriptTail Name UnaryOp ref int") => `(tactic| (with_unfolding_all refine' item_last ?k1 ?_ ?k2; (case k1 => k_asm); (case k2 => with_unfolding_all rfl); k_whole))
local macro_rules | `(tactic| walk_at "setItem ref int") => `(tactic| (refine set_last (by k_asm) (by k_asm) (by assumption) ?_; intro h' F' N'; (try k_sweep)))
section
variable {w : World} {loose : List Str} {mean : ExcName → Option Value} {mg mb : Str → Option Value} {gd : Option (List Code)} {cn : Str} {cs : Scope} {a : Addr} {ccd : Value} {cl : List (Str × Addr)} {outer : List Env} {A₀ : Around} {base h₀ : Heap} {L : Addr} {m : Str → Option Value} {news : List (Addr × Obj)} {s : Shared} {Q E : Value → Shared → Prop}
   (B : Below A₀ base outer h₀) (F : Fr h₀ L s.heap m) (X : (hd03.heap_39 w.params).In h₀) (N : News h₀ L s.heap news) (T : Top hd03.view_39 loose mean mg mb h₀) (hk : cs.kind = .function)
include B F X N T hk

theorem passes_spec (text mark : Str) (t1 t2 : Tok) (hm1 : 1 ≤ mark.length) (hm2 : mark.length ≤ 3) (ht : text.length ≤ 100) (ht1 : 1 ≤ text.length) (hA : Ascii text) (hAm : Ascii mark)
   (hret : ∀ D ys P n h' tk', StrsAre ys P → P ≠ [] → P.length ≤ 200 → Good mark.cps.toList text.cps.toList (P.map (·.cps.toList)) → Fr h₀ L h' m → News h₀ L h' ((D, listOf ys.toArray n) :: news) → (∀ p ∈ news, p.1 < D) → Q (.ref D) { s with heap := h', toks := tk' }) :
   wpAny (model PySem.Challenge.rw_dn0181_03.row.prog w) (ktrTop 302 7 gd cn cs L a ccd cl outer) (call (.ref 34) [.str text t1, .str mark t2]) Q E s := by
  revert X; k_fill; intro X
  refine wpAny_call ?_
  k_dflt cell_enter
  k_steps
  rename_i lw _ lLt _ hF1 hN1
  refine ksw_while (σ := PsSt) (fun c => (lw, listOf c.ws.toArray c.n) :: news) (fun c => [(Str.ofString "text", .str c.text c.tt), (Str.ofString "calm", .str c.calm c.tc)]) (fun c => StrsAre c.ws c.wss) [Str.ofString "place"]
    (PsInv text mark) (fun c => c.text.length) ⟨text, _, Str.ofString "", _, [], [], _⟩ hF1 hN1 .nil (List.forall_mem_cons.mpr ⟨rfl, List.forall_mem_cons.mpr ⟨rfl, List.forall_mem_nil _⟩⟩) ?_ ?_
  · have e : (Str.ofString "").cps.toList = [] := by decide +kernel
    have e0 : (Str.ofString "").length = 0 := by decide +kernel
    refine ⟨?_, ?_, hA, ?_, ?_, fun _ => ht1⟩
    · dsimp only; rw [e]; rfl
    · dsimp only; rw [e]; exact stable_nil _
    · dsimp only; omega
    · show 0 + text.length ≤ text.length; omega
  rintro ⟨txt, tt, calm, tc, ws, wss, n⟩ u h2 tk2 hS hI F2 N2
  obtain ⟨hSt, hStab, hAt, hl1, hl2, hne⟩ := id hI
  dsimp only [kstB] at F2 N2 hS hSt hStab hAt hl1 hl2 hne
  have hoffN : ∀ p ∈ news, p.1 ≠ lw := fun p hp => Nat.ne_of_lt (lLt p hp)
  have hws := hS.length
  have hwl : ws.length ≤ 100000 := by omega
  k_steps
  · refine LCg.ListComp_U (F₀ := F2) (by with_unfolding_all rfl) (by decide) (by rfl) (by decide) (by rfl) ?_
    k_steps
    with_unfolding_all refine parts_spec (by k_asm) (by k_asm) (by k_asm) (by k_asm) (by k_asm) rfl _ _ _ _ hm1 (by omega) (by omega) ?_
    intro D ys nD h3 tk3 hys F3 N3 hlt
    have hpw := split_weight txt mark hm1
    have hyl := hys.length
    refine LCg.CompSrc.ledger rfl F3 N3 (.head _) (by rw [List.size_toArray, sizeLine_eq]; omega) ?_
    intro g1
    refine comp_rest (fun a v => ∃ t, v = Value.str a t) (Txt.split txt mark) capPart (by rw [List.size_toArray]; exact hyl.symm) (strs_item hys) ?_ ?_
    · rintro a v I oI C oC D' m₂ ys' h4 tk4 E' ha ⟨ta, rfl⟩ hC hx F4 N4 off ne
      have hal := part_short ha
      k_steps
      exact LCg.CompEnd.intro (by assumption) (by assumption) _ (fun p hp => hp) off (.inr ⟨_, .head _, rfl, _, rfl⟩) ⟨rfl, _, rfl⟩
    · intro zs hzs D2 h4 tk4 F4 N4 off
      rw [capParts_eq hAt hm1] at hzs
      k_steps
      refine join_strs (News.isList N4 (.head _)) hzs (joinOk_cap hpw (by omega) (by omega)) ?_
      intro tJ kJ
      have hTXl := capw_list hAt hm1
      generalize Txt.join mark ((Txt.split txt mark).map Txt.capitalize) = TX at hTXl
      have hmne : mark.cps.toList ≠ [] := by intro e; have := len_list mark; rw [e] at this; simp at this; omega
      have hTXn : TX.length = txt.length := by rw [← len_list, hTXl, ← len_list txt]; exact capw_len hmne _
      replace N4 := cb_drop (news := (lw, listOf ws.toArray n) :: news) N4 (fun p hp => List.mem_cons_of_mem _ (List.mem_cons_of_mem _ hp))
      have hTXl' : TX.cps.toList = capw mark.cps.toList txt.cps.toList := hTXl
      clear hTXl
      k_steps
      · dsimp only [KswPost]
        k_steps
        rename_i kF kN Tc kX
        refine hret lw _ (wss ++ [calm ++ TX]) _ _ _ (KStt.strs_snoc hS) (by simp) (by rw [List.length_append, List.length_singleton]; omega) (ps_return hm1 hSt hStab hTXl' (by assumption)) kF kN lLt
      · have hyes : ¬ Txt.find TX mark < 0 := by assumption
        refine ksw_end ⟨_, _, _, _, ws ++ [Value.str (calm ++ TX) _], wss ++ [calm ++ TX], _⟩ (by assumption) (by assumption) (fun p hp => hp) (KStt.strs_snoc hS) (List.forall_mem_cons.mpr ⟨rfl, List.forall_mem_cons.mpr ⟨rfl, List.forall_mem_nil _⟩⟩) ?_ (ps_next hm1 hAm hAt hSt hStab hl1 hl2 hTXl' hyes _ _ _ _).1 (ps_next hm1 hAm hAt hSt hStab hl1 hl2 hTXl' hyes 0 0 [] 0).2
        intro z hz2 hz3
        simp only [List.forall_mem_cons, List.not_mem_nil, false_implies, implies_true, and_true, ne_eq] at hz2
        simp only [List.contains_cons, List.contains_nil, Bool.or_false, beq_eq_false_iff_ne, ne_eq] at hz3
        simp [hz2, hz3]
  · rename_i hE kF kN Tc kX
    have h0 : txt.length = 0 := by
      have e : txt = Str.ofString "" := by simpa using hE
      rw [e]; decide +kernel
    exact hret lw _ wss _ _ _ hS (fun e => by have := hne e; omega) (by omega) (ps_exit hSt hStab h0) kF kN lLt
end
end Mine
end PartL3Passes
section PartL3Law
open PySem PySem.W PyProof.Rows
set_option maxRecDepth 100000
set_option maxHeartbeats 8000000
namespace Mine
section
variable {M : Model} {A : Around} {E : Value → Shared → Prop} {s : Shared} {h₀ : Heap} {L : Addr} {m : Str → Option Value} {news : List (Addr × Obj)} {t : Sem Value} {Q : Value → Shared → Prop}
def CutH (h₀ : Heap) (L : Addr) (m : Str → Option Value) (news : List (Addr × Obj)) (s : Shared) (v : Value) (s' : Shared) : Prop := ∃ z tok h' tk, v = .int z tok ∧ s' = { s with heap := h', toks := tk } ∧ Fr h₀ L h' m ∧ News h₀ L h' news
theorem cut_h (_F : Fr h₀ L s.heap m) (_N : News h₀ L s.heap news) (h1 : wpAny M A t (CutH h₀ L m news s) E s)
    (h2 : ∀ z tok h' tk, Fr h₀ L h' m → News h₀ L h' news → Q (.int z tok) { s with heap := h', toks := tk }) : wpAny M A t Q E s :=
  wpAny_mono h1 (fun _ _ ⟨z, tok, h', tk, e1, e2, e5, e6⟩ => by rw [e1, e2]; exact h2 z tok h' tk e5 e6) fun _ _ e => e
end
local macro_rules | `(tactic| k_steps) => `(tactic| repeat' (
  (fail_if_success (with_reducible show wpAny _ _ (pyIter _) _ _ _));
  (fail_if_success (with_reducible show wpAny _ _ (exec (Stmt.While _ _ _ _) _) _ _ _));
  (fail_if_success (with_reducible show wpAny _ _ (exec (Stmt.For _ _ _ _ _) _) _ _ _));
  (fail_if_success (with_reducible show wpAny _ _ (eval (Expr.ListComp _ _ _ _) _) _ _ _));
  (fail_if_success (with_reducible show wpAny _ _ (call (Value.ref _) _ _) _ _ _));
  (fail_if_success (with_reducible show CutH _ _ _ _ _ _ _));
  (fail_if_success (with_reducible show wpAny _ _ (subscriptTail _ _ (Value.ref _) (Value.int _ _)) _ _ _));
  (fail_if_success (with_reducible show wpAny _ _ (eval (Expr.IfExp _ _ _ _) _) _ _ _));
  (fail_if_success (with_reducible show InvPostN _ _ _ _ _ _ _ _ _));
  (fail_if_success (with_reducible show LCg.CompSrc _ _ _ _ _ _ _ _ _ _ _ _ _ _));
  (fail_if_success (with_reducible show LCg.CompEnd _ _ _ _ _ _ _ _ _ _ _ _ _ _));
  (fail_if_success (with_reducible show KswPost _ _ _ _ _ _ _ _ _ _ _ _ _ _));
  first | (k_unfold; (try dsimp only)) | (k_end; wrow_close) | walk1 | (dsimp only; walk1) | (leave1; try dsimp only) | fail "no step"))

theorem ints_head : ∀ {ws : List Value} {ns : List Int}, IntsAre ws ns → ns ≠ [] → ∃ z t, ws[0]? = some (Value.int z t)
  | _, _, .nil, h => absurd rfl h
  | _, _, .cons n t _, _ => ⟨n, t, rfl⟩
theorem mod3 (x : Int) : (1 + x.fmod 3 - 0).toNat ≤ 3 ∧ 1 ≤ (1 + x.fmod 3 - 0).toNat ∧ -(2 ^ 62) ≤ 1 + x.fmod 3 ∧ 1 + x.fmod 3 < 2 ^ 62 := by
  have h1 := Int.fmod_nonneg_of_pos x (b := 3) (by omega)
  have h2 := Int.fmod_lt_of_pos x (b := 3) (by omega)
  omega
theorem fm_nat (x : Int) : (x.fmod 128).toNat < 128 := by have := Int.fmod_lt_of_pos x (b := 128) (by decide); omega
theorem min_lo {n i : Nat} {k : Int} (hk : k = ((i + 1 : Nat) : Int)) (hn : 1 ≤ n) : 0 ≤ (if (n : Int) < k then (n : Int) else k) - 1 := by split <;> omega
theorem min_hi {n i : Nat} {k : Int} (hk : k = ((i + 1 : Nat) : Int)) (hi : i ≤ 100) : (if (n : Int) < k then (n : Int) else k) - 1 < 2 ^ 63 := by split <;> omega
theorem min_eq {n i p : Nat} {k : Int} (hk : k = ((i + 1 : Nat) : Int)) (hp : 1 ≤ p) (hn : n = p) : ((if (n : Int) < k then (n : Int) else k) - 1).toNat = min (i + 1) p - 1 := by split <;> omega
theorem law3 : PySem.Challenge.rw_dn0181_03.Holds := hd03 (by
  k_go0
  all_goals try k_fold
  k_steps
  rename_i hF1 hN1
  refine cut_h hF1 hN1 ?_ ?_
  · walk1
    k_steps
    · exact ⟨_, _, _, _, rfl, rfl, by assumption, cb_drop (by assumption) fun p hp => List.mem_cons_of_mem _ hp⟩
    · rename_i hI' _ _ _ _ _ _ F' N' _ hne
      obtain ⟨z, t, hz⟩ := ints_head hI' (by simpa using hne)
      refine item_litK (News.isList N' (List.mem_cons_of_mem _ (.head _))) (by decide) (by decide) hz ?_ (by with_unfolding_all rfl)
      exact ⟨_, _, _, _, rfl, rfl, by assumption, cb_drop (by assumption) fun p hp => List.mem_cons_of_mem _ hp⟩
  · intro first tok h2 tk2 F2 N2
    k_steps
    rename_i F3 N3 d3
    refine LCg.ListComp_U (F₀ := F3) (by with_unfolding_all rfl) (by decide) (by rfl) (by decide) (by rfl) ?_
    k_steps
    rename_i hR F4 N4 _
    refine LCg.CompSrc.range (by rfl) F4 N4 hR (small_one (a := 0) (b := 1 + first.fmod 3) (by decide) (by decide) (mod3 _).2.2.1 (mod3 _).2.2.2) (rangeSize_nat _ _) (by rw [sizeLine_eq]; have := (mod3 first).1; omega) ?_
    intro g1
    refine comp_restP (fun r => Ascii r ∧ r.length = 1) ?_ ?_
    · rintro i v I oI C oC D' m₂ ys' h4 tk4 E' hi ⟨ta, rfl⟩ hC hx F4 N4 off ne
      have hi3 : i < 3 := Nat.lt_of_lt_of_le hi (mod3 first).1
      clear hi
      have hAB : Ascii (Str.ofString "aAbB.") := by unfold Ascii; decide +kernel
      rcases i with _ | _ | _ | i
      · k_steps
        exact LCg.CompEnd.intro (by assumption) (by assumption) _ (fun p hp => hp) off trivial ⟨rfl, _, _, rfl, item_asc hAB _, rfl⟩
      · k_steps
        exact LCg.CompEnd.intro (by assumption) (by assumption) _ (fun p hp => hp) off trivial ⟨rfl, _, _, rfl, item_asc hAB _, rfl⟩
      · k_steps
        exact LCg.CompEnd.intro (by assumption) (by assumption) _ (fun p hp => hp) off trivial ⟨rfl, _, _, rfl, item_asc hAB _, rfl⟩
      · omega
    · intro zs ss hzs hsl hss D2 h4 tk4 F4 N4 off
      have hm1 : 1 ≤ ss.length := by rw [hsl]; exact (mod3 first).2.1
      have hm2 : ss.length ≤ 3 := by rw [hsl]; exact (mod3 first).1
      clear hsl
      k_steps
      refine join_strs (News.isList N4 (.head _)) hzs (joinOk_signs hss (by omega)) ?_
      intro tJ kJ
      obtain ⟨hAm, hlm⟩ := join_empty hss
      rw [← hlm] at hm1 hm2
      clear hlm hss hzs
      generalize Txt.join (Str.ofString "") ss = mark at hm1 hm2 hAm ⊢
      replace N4 := cb_drop N4 (fun p hp => List.mem_cons_of_mem _ hp)
      k_steps
      rename_i F5 N5
      refine LCg.ListComp_U (F₀ := F5) (by with_unfolding_all rfl) (by decide) (by rfl) (by decide) (by rfl) ?_
      k_steps
      rename_i F6 N6 hI6 hC6 hL6 l6
      have hI6l := hI6.length
      refine LCg.CompSrc.ledger rfl F6 N6 (.head _) (by rw [List.size_toArray, sizeLine_eq]; omega) ?_
      intro g2
      refine comp_restP (fun r => Ascii r ∧ r.length = 1) ?_ ?_
      · rintro i v I oI C oC D' m₂ ys' h4 tk4 E' hi hv hC hx F4 N4 off ne
        obtain ⟨x, -, tx, rfl⟩ := ints_item hI6 i v hi hv
        have hAB : Ascii (Str.ofString "aAbB.") := by unfold Ascii; decide +kernel
        clear hi hv
        refine IfExp_ ?_
        k_steps
        · exact LCg.CompEnd.intro (by assumption) (by assumption) _ (fun p hp => hp) off (.inr ⟨_, .head _, rfl, _, rfl⟩) ⟨rfl, _, _, rfl, item_asc hAB _, rfl⟩
        · exact LCg.CompEnd.intro (by assumption) (by assumption) _ (fun p hp => hp) off (.inr ⟨_, .head _, rfl, _, rfl⟩) ⟨rfl, _, _, rfl, asc_one (fm_nat _), rfl⟩
      · intro zs ss hzs hsl hss D2 h4 tk4 F4 N4 off
        have ht2 : ss.length ≤ 63 := by rw [hsl, List.size_toArray]; omega
        clear hsl
        k_steps
        refine join_strs (News.isList N4 (.head _)) hzs (joinOk_signs hss (by omega)) ?_
        intro tJ kJ
        obtain ⟨hAt, hlt⟩ := join_empty hss
        rw [← hlt] at ht2
        clear hlt hss hzs
        generalize Txt.join (Str.ofString "") ss = text at ht2 hAt ⊢
        replace N4 := cb_drop (news := []) N4 (fun p hp => nomatch hp)
        k_steps
        all_goals first
          | (have hyes : (text == Str.ofString "") = true := by assumption
             clear ht2 hAt
             have hAt : Ascii (Str.ofString "bBaAbb") := by unfold Ascii; decide +kernel
             have ht1 : 1 ≤ (Str.ofString "bBaAbb").length := by decide +kernel
             have ht2 : (Str.ofString "bBaAbb").length ≤ 63 := by decide +kernel
             clear hyes
             generalize Str.ofString "bBaAbb" = text at *)
          | (have hno : (text == Str.ofString "") = false := by assumption
             have ht1 : 1 ≤ text.length := by
               rcases Nat.eq_zero_or_pos text.length with h | h
               · obtain rfl := str_empty h
                 exact absurd hno (by decide)
               · exact h)
        all_goals
          with_unfolding_all refine passes_spec (by k_asm) (by k_asm) (by k_asm) (by k_asm) (by k_asm) rfl _ _ _ _ hm1 hm2 (by omega) ht1 hAt hAm ?_
          intro D ys P n h7 tk7 hys hPne hPl hGood F7 N7 _
          k_steps
          rename_i F8 N8
          refine For_invVF F8 rfl rfl ?_
          k_steps
          rename_i hR9 F9 N9 _
          have hbx := fd_box (a := (text.length : Int) + mark.length - 1) (b := mark.length) (by omega) (by omega) (by omega)
          refine kst_range (σ := Str × Tok) (fun _ => [(D, listOf ys.toArray n)]) (fun c => [(Str.ofString "told", .str c.1 c.2)]) (fun _ => True) [] (fun pre c => Turn mark.cps.toList (P.map (·.cps.toList)) pre.length c.1.cps.toList ∧ Ascii c.1 ∧ c.1.length = text.length) (text, _) rfl hR9 (small_one (by decide) (by decide) (by omega) (by omega)) (rangeSize_nat _ _) F9 N9 trivial (List.forall_mem_cons.mpr ⟨rfl, List.forall_mem_nil _⟩) ⟨turn_zero (by simpa using hPne) hGood, hAt, rfl⟩ ?_ ?_
          · rintro ⟨told, tt⟩ pre k tk u h9 tk9 own hk hlt hoff - ⟨hT, hA, hl⟩ F9 N9
            have hk1 : k = ((pre.length + 1 : Nat) : Int) := by omega
            have hk2 : pre.length ≤ 100 := by omega
            clear hbx hk hlt
            dsimp only [kstB] at F9 hT hA hl
            k_steps
            with_unfolding_all refine cap_mark (by k_asm) (by k_asm) (by k_asm) (by k_asm) (by k_asm) rfl _ _ _ _ hm1 (by omega) (by omega) ?_
            intro tc h10 tk10 F10 N10
            generalize hTX : Txt.join mark ((Txt.split told mark).map Txt.capitalize) = TX
            obtain ⟨hT2, hIt, hA2, hl2⟩ := turn_str hPne hm1 hAm hA hT hTX
            clear hTX
            obtain ⟨tv, hv⟩ := strs_at hys hIt
            have hyl := hys.length
            have hPp : 1 ≤ P.length := List.length_pos_iff.mpr hPne
            k_steps
            rename_i F11 N11
            refine item_litK (v := Value.str TX tv) (News.isList N11 (.head _)) ?_ ?_ (Eq.trans (congrArg (fun j => ys[j]?) ?_) hv) ?_ (by with_unfolding_all rfl)
            · exact min_lo hk1 (by first | omega | (simp only [List.size_toArray]; omega))
            · exact min_hi hk1 hk2
            · exact min_eq hk1 hPp (by first | omega | (simp only [List.size_toArray]; omega))
            clear hv hyl hIt
            k_steps
            · exact absurd (show (TX != TX) = true by assumption) (by simp)
            · refine kst_end (c := (TX, tc)) (by assumption) (by assumption) (fun p hp => List.mem_append_left _ hp) (fun p hp => List.mem_append_right _ hp) rfl trivial (List.forall_mem_cons.mpr ⟨rfl, List.forall_mem_nil _⟩) ?_ ⟨?_, hA2, ?_⟩
              · intro z hz1 hz2 hz3
                have hz4 := hz2 _ (List.mem_cons_self ..)
                dsimp only at hz4
                simp [hz1, hz4]
              · rw [List.length_append, List.length_singleton]; exact hT2
              · rw [hl2]; exact hl
          · rintro ⟨told, tt⟩ u h9 tk9 - - F9 N9
            k_steps)
end Mine
end PartL3Law
set_option maxRecDepth 100000 in
theorem PySem.Challenge.cw_dn0181_03_holds : PySem.Challenge.rw_dn0181_03.Holds :=
  Mine.law3
