import PyProof.Rows.All
import Wide.All
import OpenK.AllK
import Wide.FinOn
import Lean
import PySem.Challenge.RW_aw0019_01
open PySem PySem.W PyProof.Rows
set_option Elab.async false
set_option maxRecDepth 100000
set_option maxHeartbeats 8000000
namespace Mine
open_top hd for PySem.Challenge.rw_aw0019_01
end Mine
-- part M1
theorem Mine.off_M1 : True := by
  w_top off
  trivial
namespace Mine
open Sem (wp)

theorem owner_map : Manifest.owners.lookup (String.ofList ['p', 'a', 'm'].reverse) = some Manifest.sig_map := by kernel_rfl
theorem slot_map_next : Slot "map" "__next__" "map.__next__" :=
  .of (owner := "map") (n := "__next__") (by rw [typeLookup_type, builtinLookup_eq_fast]; kernel_rfl) (by decide +kernel) (by decide +kernel) (by decide +kernel)
    (by first | exact .inl (by decide +kernel) | exact .inr (by decide +kernel)) (by rw [isSubtype_type]; kernel_rfl)
theorem entry_map_next : entryFor table "map.__next__" = some Builtin.«map.__next__» := entryFor_of_tree (by kernel_rfl)
theorem args_map_next (a : Value) : argsOk "map.__next__" ⟨[a], []⟩ := by
  unfold argsOk; rw [signature?_of (id := "map.__next__") (n := ['_', '_', 't', 'x', 'e', 'n', '_', '_']) (o := ['p', 'a', 'm']) (by kernel_rfl) owner_map]; kernel_rfl
theorem slot_map_iter : Slot "map" "__iter__" "map.__iter__" :=
  .of (owner := "map") (n := "__iter__") (by rw [typeLookup_type, builtinLookup_eq_fast]; kernel_rfl) (by decide +kernel) (by decide +kernel) (by decide +kernel)
    (by first | exact .inl (by decide +kernel) | exact .inr (by decide +kernel)) (by rw [isSubtype_type]; kernel_rfl)
theorem args_map_iter (a : Value) : argsOk "map.__iter__" ⟨[a], []⟩ := by
  unfold argsOk; rw [signature?_of (id := "map.__iter__") (n := ['_', '_', 'r', 'e', 't', 'i', '_', '_']) (o := ['p', 'a', 'm']) (by kernel_rfl) owner_map]; kernel_rfl
theorem entry_map_iter : entryFor table "map.__iter__" = some Builtin.«dict_keyiterator.__iter__» :=
  entryFor_alias (id' := "dict_keyiterator.__iter__") (by kernel_rfl) (by first | rfl | decide +kernel | (unfold String.splitOn; simp +decide [String.splitOnAux])) (by decide +kernel) (by kernel_rfl)
theorem slot_map_init : Slot "map" "__init__" "object.__init__" :=
  .of (owner := "object") (n := "__init__") (by rw [typeLookup_type, builtinLookup_eq_fast]; kernel_rfl) (by decide +kernel) (by decide +kernel) (by decide +kernel)
    (by first | exact .inl (by decide +kernel) | exact .inr (by decide +kernel)) (by rw [isSubtype_type]; kernel_rfl)
theorem mro_map : mroOf (.type "map") = pure [.type "map", .type "object"] := by rw [mroOf_type]; kernel_rfl
theorem lookup_map_new : typeLookup (.type "map") "__new__" = pure (some (.builtin "map.__new__")) := by rw [typeLookup_type, builtinLookup_eq_fast]; kernel_rfl
theorem called_map : TypeCalled "map" "map.__new__" "object.__init__" :=
  ⟨by decide +kernel, by decide +kernel, ⟨_, _, mro_map⟩, madeBy_type mro_map lookup_map_new (by decide +kernel), by decide +kernel, by rw [isSubtype_type]; kernel_rfl, slot_map_init⟩
theorem typeCall_map (a b : Value) : checkTypeCall "map" ⟨[a, b], []⟩ = pure () := by kernel_rfl
theorem newCall_map (a b : Value) : checkBuiltinCall "map.__new__" ⟨[.type "map", a, b], []⟩ = pure () := by kernel_rfl
theorem entry_map_new : entryFor table "map.__new__" = some Builtin.«map.__new__» := entryFor_of_tree (by kernel_rfl)
theorem sub_map : isSubtype (.type "map") (.type "map") = pure true := by rw [isSubtype_type]; kernel_rfl
theorem map_no_len : typeLookup (.type "map") "__len__" = pure none := by rw [typeLookup_type, builtinLookup_eq_fast]; kernel_rfl
theorem map_no_hint : typeLookup (.type "map") "__length_hint__" = pure none := by rw [typeLookup_type, builtinLookup_eq_fast]; kernel_rfl

abbrev mapObj (T : Addr) : Obj := { cls := .type "map", data := .fields #[.ref T, .builtin "ord"] }
abbrev oneTup (I : Addr) : Obj := { cls := .type "tuple", data := .seq #[.ref I] }
abbrev strIt (x : Str) (t : Tok) : Obj := { cls := .type (strIterType x), data := .fields #[.str x t, .int 0 0] }

theorem meets_map_new (x : Str) (t : Tok) :
    Meets (Builtin.«map.__new__» ⟨[.type "map", .builtin "ord", .str x t], []⟩) (fun _ R s =>
      R (.ok (.ret (.ref ((s.heap.push (strIt x t)).push (oneTup s.heap.objs.size)).objs.size)))
        { s with heap := ((s.heap.push (strIt x t)).push (oneTup s.heap.objs.size)).push (mapObj (s.heap.push (strIt x t)).objs.size) }) :=
  .of_wp fun prog w A R s h => by
    obtain ⟨hp, g, d, tk, os⟩ := s
    have hsub := sub_map
    wp_walk using wpAny_pyIter_strU
    exact ⟨_, rfl, h⟩

section
variable {prog : Program} {w : World} {A : Around} {E : Value → Shared → Prop} {s : Shared}

theorem call_map_ord {x : Str} {t : Tok} {Q : Value → Shared → Prop}
    (h : ∀ h', h'.get? (s.heap.objs.size + 2) = some (mapObj (s.heap.objs.size + 1)) → h'.get? (s.heap.objs.size + 1) = some (oneTup s.heap.objs.size) → h'.IsStrIter s.heap.objs.size (strIterType x) x t 0 →
      h'.objs.size = s.heap.objs.size + 3 → (∀ o : Obj, True) → (∃ o1 o2 o3 : Obj, h' = ((s.heap.push o1).push o2).push o3) → Q (.ref (s.heap.objs.size + 2)) { s with heap := h' }) :
    wpAny (model prog w) A (call (.type "map") [.builtin "ord", .str x t]) Q E s := by
  refine callType_new called_map (by decide) (typeCall_map _ _) (newCall_map _ _) (fun obj => F.args_object_init_3 obj _ _) entry_map_new (meets_map_new x t) ?_
  have z1 : (s.heap.push (strIt x t)).objs.size = s.heap.objs.size + 1 := Heap.size_push ..
  have z2 : ((s.heap.push (strIt x t)).push (oneTup s.heap.objs.size)).objs.size = s.heap.objs.size + 2 := by rw [Heap.size_push, z1]
  show _ ∧ _
  rw [z1, z2]
  have g3 := Heap.get?_push_size ((s.heap.push (strIt x t)).push (oneTup s.heap.objs.size)) (o := mapObj (s.heap.objs.size + 1)) rfl
  have g2 := Heap.get?_push_of_some (mapObj (s.heap.objs.size + 1)) (Heap.get?_push_size (s.heap.push (strIt x t)) (o := oneTup s.heap.objs.size) rfl)
  have g1 := Heap.get?_push_of_some (mapObj (s.heap.objs.size + 1)) (Heap.get?_push_of_some (oneTup s.heap.objs.size) (Heap.get?_push_size s.heap (o := strIt x t) rfl))
  rw [z2] at g3
  rw [z1] at g2
  refine ⟨⟨_, g3, rfl⟩, h _ g3 g2 ⟨_, g1, rfl, rfl⟩ (by rw [Heap.size_push, z2]) (fun _ => trivial) ⟨_, _, _, rfl⟩⟩
end
end Mine

-- part M2
theorem Mine.off_M2 : True := by
  w_top off
  trivial
namespace Mine
open Sem (wp)
abbrev IsMapOrd (h : Heap) (M T it : Addr) : Prop := h.get? M = some (mapObj T) ∧ h.get? T = some (oneTup it)

section
variable {prog : Program} {w : World} {A : Around} {E : Value → Shared → Prop} {s : Shared}

theorem map_next_item {M T it : Addr} {n i : Nat} {x : Str} {St : Nat → Heap → Prop} {Q : Option Value → Shared → Prop}
    (D : Draws prog w A.in1 it [it] n (fun i v => ∃ c u, x.cps[i]? = some c ∧ v = .str ⟨#[c]⟩ u) St) (hm : IsMapOrd s.heap M T it) (hne : M ≠ it) (hst : St i s.heap) (hi : i < n)
    (hQ : ∀ c h' tk u, x.cps[i]? = some c → St (i + 1) h' → Heap.SameBut it s.heap h' → Q (some (.int (c : Nat) u)) { s with heap := h', toks := tk }) :
    wpAny (model prog w) A (pyNext (.ref M)) Q E s := by
  have hT : s.TypeIs (.ref M) "map" := ⟨_, hm.1, rfl⟩
  unfold pyNext
  refine wpAny_bind (wpAny_attempt (wpAny_callSpecial?_slot (name := Str.ofString "__next__") hT slot_map_next
    (wpAny_call_entry slot_map_next hT entry_map_next ?_ (args_map_next _))))
  unfold Builtin.«map.__next__»
  refine wpAny_bind (wpAny_of_eq (a := (Value.ref M, [])) rfl ?_)
  show wpAny _ _ (field (.ref M) 0 >>= _) _ _ s
  refine wpAny_bind (wpAny_field hm.1 rfl (x := .ref T) rfl ?_)
  refine wpAny_bind (wpAny_seqItems hm.2 rfl ?_)
  dsimp only
  refine wpAny_bind ?_
  rw [← Array.forIn_toList]
  simp only [List.forIn_cons, List.forIn_nil]
  refine wpAny_bind (wpAny_bind (wpAny_holding (D.item i _ _ _ hi hst fun v h' tk hv hst' hs' => ?_)))
  obtain ⟨c, u, hc, rfl⟩ := hv
  refine wpAny_pure (wpAny_pure ?_)
  have hm' : h'.get? M = some (mapObj T) := hs'.extBut _ _ hne hm.1
  show wpAny _ _ (field (.ref M) 1 >>= _) _ _ _
  refine wpAny_bind (wpAny_field hm' rfl (x := .builtin "ord") rfl ?_)
  refine wpAny_bind (wpAny_holding (P.ord_of_char ?_))
  refine wpAny_bind (wpAny_letGo ?_)
  exact wpAny_pure ⟨_, rfl, wpAny_pure (hQ c h' _ _ hc hst' hs')⟩

theorem map_next_end {M T it : Addr} {n : Nat} {x : Str} {St : Nat → Heap → Prop} {Q : Option Value → Shared → Prop}
    (D : Draws prog w A.in1 it [it] n (fun i v => ∃ c u, x.cps[i]? = some c ∧ v = .str ⟨#[c]⟩ u) St) (hm : IsMapOrd s.heap M T it) (hst : St n s.heap)
    (hQ : ∀ h', Heap.ExtBut it s.heap h' → Q none { s with heap := h' }) :
    wpAny (model prog w) A (pyNext (.ref M)) Q E s := by
  have hT : s.TypeIs (.ref M) "map" := ⟨_, hm.1, rfl⟩
  unfold pyNext
  refine wpAny_bind (wpAny_attempt (wpAny_callSpecial?_slot (name := Str.ofString "__next__") hT slot_map_next
    (wpAny_call_entry slot_map_next hT entry_map_next ?_ (args_map_next _))))
  unfold Builtin.«map.__next__»
  refine wpAny_bind (wpAny_of_eq (a := (Value.ref M, [])) rfl ?_)
  show wpAny _ _ (field (.ref M) 0 >>= _) _ _ s
  refine wpAny_bind (wpAny_field hm.1 rfl (x := .ref T) rfl ?_)
  refine wpAny_bind (wpAny_seqItems hm.2 rfl ?_)
  dsimp only
  refine wpAny_bind ?_
  rw [← Array.forIn_toList]
  simp only [List.forIn_cons, List.forIn_nil]
  refine wpAny_bind (wpAny_bind (wpAny_holding (D.done _ _ _ hst fun h' e hs' he => ?_)))
  obtain ⟨o, ho, hc⟩ := he
  refine wpAny_bind (wpAny_isInstance (T := "StopIteration") (b := true) ⟨o, ho, hc⟩ isSubtype_stop ?_)
  exact wpAny_pure (hQ _ hs')

theorem pyIter_map {M T : Addr} {Q : Value → Shared → Prop} (hm : s.heap.get? M = some (mapObj T)) (h : Q (.ref M) s) : wpAny (model prog w) A (pyIter (.ref M)) Q E s := by
  have hT : s.TypeIs (.ref M) "map" := ⟨_, hm, rfl⟩
  refine wpAny_pyIter_slot hT slot_map_iter (wpAny_call_entry slot_map_iter hT entry_map_iter ?_ (args_map_iter _))
  show wpAny _ _ (ret (.ref M)) _ _ s
  exact wpAny_pure ⟨_, rfl, "map", _, hT, slot_map_next.lookup, h⟩
end

theorem Draws_str {prog : Program} {w : World} {A : Around} (hh : A.handled = none) (it : Addr) (x : Str) (t : Tok) :
    Draws prog w A it [it] x.cps.size (fun i v => ∃ c u, x.cps[i]? = some c ∧ v = .str ⟨#[c]⟩ u) (fun i h => h.IsStrIter it (strIterType x) x t i) := by
  cases ha : x.cps.all (· < 128)
  · have e : strIterType x = "str_iterator" := by simp [strIterType, ha]
    rw [e]; exact Draws.strWide hh it x t
  · have e : strIterType x = "str_ascii_iterator" := by simp [strIterType, ha]
    rw [e]; exact Draws.strAscii hh it x t

def OrdAt (x : Str) (i : Nat) (v : Value) : Prop := ∃ c u, x.cps[i]? = some c ∧ v = .int (c : Nat) u

theorem Walks_map {prog : Program} {w : World} {A : Around} (hh : A.handled = none) (M T it : Addr) (hM : M ≠ it) (hT : T ≠ it) (x : Str) (t : Tok) :
    Walks prog w A M [M, T, it] [it] x.cps.size (OrdAt x) (fun i h => IsMapOrd h M T it ∧ h.IsStrIter it (strIterType x) x t i) where
  sub := fun b hb => by simp at hb; simp [hb]
  frame := fun _ _ _ st hk => ⟨⟨hk M (by simp) _ st.1.1, hk T (by simp) _ st.1.2⟩, let ⟨o, ho, r⟩ := st.2; ⟨o, hk it (by simp) o ho, r⟩⟩
  item := fun i s Q E hi st hQ => by
    refine map_next_item (Draws_str (A := A.in1) hh it x t) st.1 hM st.2 hi fun c h' tk u hc st' hs' => ?_
    exact hQ _ h' tk ⟨c, u, hc, rfl⟩ ⟨⟨hs'.extBut _ _ hM st.1.1, hs'.extBut _ _ hT st.1.2⟩, st'⟩ fun b o hb e => hs'.extBut b o (fun h => hb (by simp [h])) e
  done := fun s Q E st hQ => map_next_end (Draws_str (A := A.in1) hh it x t) st.1 st.2 fun h' he => hQ h' s.toks fun b o hb e => he b o (fun h => hb (by simp [h])) e
  self := fun _ _ _ _ st hQ => pyIter_map st.1.1 hQ

section
variable {prog : Program} {w : World} {A : Around} {s : Shared} {R : Result → Shared → Prop}
variable {I : Addr} {fp wr : List Addr} {G : Array GenState → Array GenState → Prop} {n : Nat} {P : Nat → Value → Prop} {St : Nat → Shared → Prop}

/-- list.__init__ on a map object: it is drawn to its end -/
theorem init_map (W : WalksS prog w A.in1 I fp wr G n P St) (hT : ∀ i s, St i s → s.TypeIs (.ref I) "map") (S : Addr) (hst : St 0 s) (hSf : S ∉ fp) (hI : I ∈ fp)
    (hS : s.heap.get? S = some { cls := .type "list", data := .seq #[] })
    (hR : ∀ s' acc' c', Moved (S :: wr) G s s' → s'.heap.get? S = some { cls := .type "list", dict := none, data := .seq acc' c', slots := #[] } → ItemsOf P acc' n → R (.ok (.ret .none)) s') (hn : n ≤ sizeLine) :
    wpAny (model prog w) A.in1 (Builtin.«list.__init__» ⟨[.ref S, .ref I], []⟩)
      (fun fin s' => match fin with | .done f => R (.ok f) s' | .again c' => c'.quiet = true ∧ codeAny (model prog w) A c' R s') (fun e s' => R (.error e) s') s := by
  have hSI : S ≠ I := fun e => hSf (e ▸ hI)
  show wpAny _ A.in1 (do let old ← Builtin.List.listItems (.ref S); Builtin.List.listUpdate (.ref S) (fun _ => #[]); letGo old.toList.reverse; Builtin.List.listExtendWith (.ref S) (.ref I) .none) _ _ s
  refine wpAny_bind ?_
  unfold Builtin.List.listItems
  refine wpAny_bind (wpAny_seqItems hS rfl (wpAny_pure ?_))
  show wpAny _ A.in1 (updateSeq S (fun _ => #[]) >>= fun _ => letGo (#[] : Array Value).toList.reverse >>= fun _ => Builtin.List.listExtendWith (.ref S) (.ref I) .none) _ _ s
  refine wpAny_bind (wpAny_updateSeq hS rfl ?_)
  have hS₁ := Heap.get?_update_self (Obj.mapSeq (fun _ => (#[] : Array Value))) hS rfl
  have away₁ : ∀ b o, b ≠ S → s.heap.get? b = some o → (s.heap.update S (Obj.mapSeq (fun _ => (#[] : Array Value)))).get? b = some o :=
    fun b o hb e => (Heap.get?_update_other _ _ (Ne.symm hb)).trans e
  refine wpAny_bind (wpAny_letGo ?_)
  have hst₁ := W.frame 0 s (s.heap.update S (Obj.mapSeq (fun _ => (#[] : Array Value)))) s.toks hst (Nat.le_refl _) fun b hb o e => away₁ b o (fun h => hSf (h ▸ hb)) e
  generalize hh₁ : s.heap.update S (Obj.mapSeq (fun _ => (#[] : Array Value))) = h₁ at hS₁ away₁ hst₁ ⊢
  unfold Builtin.List.listExtendWith
  refine wpAny_bind (wpAny_typeOf (hT 0 _ hst₁) ?_)
  have e1 : Builtin.List.listSameRef (.ref S) (.ref I) = false := by simp [Builtin.List.listSameRef, hSI]
  have e2 : (Value.type "map" == Value.type "list") = false := by decide
  have e3 : (Value.type "map" == Value.type "tuple") = false := by decide
  simp only [e1, e2, e3, Bool.or_false, Bool.false_eq_true, if_false]
  refine wpAny_bind (W.self 0 _ _ _ hst₁ ?_)
  refine wpAny_bind (wpAny_holding ?_)
  unfold Builtin.List.listLengthHint
  refine wpAny_bind (wpAny_specialOf (hT 0 _ hst₁) map_no_len ?_)
  show wpAny _ A.in1 (specialOf (Value.ref I) (Str.ofString "__length_hint__") >>= _) _ _ _
  refine wpAny_bind (wpAny_specialOf (hT 0 _ hst₁) map_no_hint ?_)
  refine wpAny_pure ?_
  show wpAny _ A.in1 (rule "list.extend.makes-room" >>= fun _ => Builtin.List.listTouch (.ref S) >>= fun _ =>
    again (.builtin "list.extend.loop" ⟨[.ref S, .ref I, .none], []⟩)) _ _ _
  refine wpAny_bind (wpAny_rule ?_)
  refine wpAny_bind ?_
  show wpAny _ A.in1 (updateSeq S (·.push .none) >>= fun _ => updateSeq S (·.pop)) _ _ _
  refine wpAny_bind (wpAny_updateSeq hS₁ rfl ?_)
  have hS₂ := Heap.get?_update_self (Obj.mapSeq (·.push Value.none)) hS₁ rfl
  refine wpAny_updateSeq (hz := by seq_fits) hS₂ rfl ?_
  have hS₃ := Heap.get?_update_self (Obj.mapSeq (·.pop)) hS₂ rfl
  have away₃ : ∀ b o, b ≠ S → h₁.get? b = some o → ((h₁.update S (Obj.mapSeq (·.push Value.none))).update S (Obj.mapSeq (·.pop))).get? b = some o :=
    fun b o hb e => (Heap.get?_update_other _ _ (Ne.symm hb)).trans ((Heap.get?_update_other _ _ (Ne.symm hb)).trans e)
  refine wpAny_pure ⟨plainId_quiet F.plain_extend_loop _, codeAny_extend_loopS W hn _ hSf _ n 0 _ _ _ rfl (Nat.zero_le _)
    (W.frame 0 { s with heap := h₁ } ((h₁.update S (Obj.mapSeq (·.push Value.none))).update S (Obj.mapSeq (·.pop))) s.toks hst₁ (Nat.le_refl _) fun b hb o e => away₃ b o (fun h => hSf (h ▸ hb)) e) hS₃ (ItemsOf.nil P) fun s' acc' c' hm hS' hacc => ?_⟩
  refine hR s' acc' c' (Moved.trans W.gtrans ((Moved.refl W.grefl).then_heap (Nat.le_refl _) fun b o hb e => ?_) hm) hS' hacc
  have hbS : b ≠ S := fun h => hb (h ▸ List.mem_cons_self)
  exact away₃ b o hbS (away₁ b o hbS e)
end

section
variable {prog : Program} {w : World} {A : Around} {E : Value → Shared → Prop} {s : Shared}

theorem call_list_map {M T it : Addr} {x : Str} {t : Tok} {Q : Value → Shared → Prop} (hh : A.handled = none) (hM : M ≠ it) (hT : T ≠ it)
    (hm : IsMapOrd s.heap M T it) (hi : s.heap.IsStrIter it (strIterType x) x t 0) (hn : x.cps.size ≤ sizeLine)
    (hQ : ∀ h' tk acc' c', (∀ b o, b ≠ it → s.heap.get? b = some o → h'.get? b = some o) → h'.get? s.heap.objs.size = some { cls := .type "list", data := .seq acc' c' } → ItemsOf (OrdAt x) acc' x.cps.size →
      Q (.ref s.heap.objs.size) { s with heap := h', toks := tk }) :
    wpAny (model prog w) A (call (.type "list") [.ref M]) Q E s := by
  obtain ⟨oi, hoi, _⟩ := id hi
  have hfp : s.heap.objs.size ∉ [M, T, it] := fun h => by
    simp at h
    rcases h with h | h | h
    · exact absurd (Heap.lt_size hm.1) (by rw [h]; exact Nat.lt_irrefl _)
    · exact absurd (Heap.lt_size hm.2) (by rw [h]; exact Nat.lt_irrefl _)
    · exact absurd (Heap.lt_size hoi) (by rw [h]; exact Nat.lt_irrefl _)
  refine callType_codes (Q₁ := fun obj s₁ => obj = .ref s.heap.objs.size ∧ s₁ = { s with heap := s.heap.push { cls := .type "list", data := .seq #[] } }) F.called_list (F.typeCall_list_1 _) F.entry_list_init
    (code_list_new _ ⟨rfl, rfl⟩) fun obj s₁ h₁ => ?_
  obtain ⟨rfl, rfl⟩ := h₁
  have hS : (s.heap.push { cls := .type "list", data := .seq #[] }).get? s.heap.objs.size = some { cls := .type "list", data := .seq #[] } := Heap.get?_push_size _ rfl
  have W := (Walks_map (prog := prog) (w := w) (A := A.in1.in1) hh M T it hM hT x t).toS
  refine ⟨⟨_, hS, rfl⟩, F.args_list_init_2 _ _, init_map W (fun i s st => ⟨_, st.1.1, rfl⟩) _ (W.frame 0 s _ s.toks ⟨hm, hi⟩ (Nat.le_refl _) fun b _ o e => Heap.get?_push_of_some _ e) hfp (by simp) hS (fun s' acc' c' hmv hS' hacc => ?_) hn⟩
  refine ⟨rfl, ?_⟩
  have e := hmv.eq_with
  rw [e]
  refine hQ s'.heap s'.toks acc' c' (fun b o hb eo => hmv.heap b o (fun h => ?_) (Heap.get?_push_of_some _ eo)) hS' hacc
  rcases List.mem_cons.mp h with h | h
  · exact absurd (Heap.lt_size eo) (by rw [h]; exact Nat.lt_irrefl _)
  · exact hb (List.mem_singleton.mp h)

theorem ints_of_items {x : Str} {acc : Array Value} (h : ItemsOf (OrdAt x) acc x.cps.size) : IntsAre acc.toList (x.cps.toList.map fun c => ((c : Nat) : Int)) := by
  have key : ∀ (vs : List Value) (cs : List Nat), vs.length = cs.length → (∀ (j : Nat) (v : Value), vs[j]? = some v → ∃ (c : Nat) (u : Tok), cs[j]? = some c ∧ v = Value.int ((c : Nat) : Int) u) → IntsAre vs (cs.map fun c => ((c : Nat) : Int)) := by
    intro vs
    induction vs with
    | nil => intro cs hl _; cases cs with
      | nil => exact .nil
      | cons c r => cases hl
    | cons v r ih => intro cs hl hg; cases cs with
      | nil => cases hl
      | cons c r' =>
        obtain ⟨c', u, hc, rfl⟩ := hg 0 v rfl
        have : c = c' := Option.some.inj hc
        subst this
        exact .cons _ _ (ih r' (Nat.succ.inj hl) fun j v hj => hg (j + 1) v hj)
  refine key _ _ (by simpa using h.1) fun j v hj => ?_
  obtain ⟨c, u, hc, e⟩ := h.2 j v (by simpa using hj)
  exact ⟨c, u, by simpa using hc, e⟩
end

section
variable {prog : Program} {w : World} {A : Around} {E : Value → Shared → Prop} {s : Shared} {h₀ : Heap} {L : Addr} {m : Str → Option Value} {news : List (Addr × Obj)}

theorem mapK {x : Str} {t : Tok} {Q : Value → Shared → Prop} (F : Fr h₀ L s.heap m) (N : News h₀ L s.heap news)
    (h : ∀ M T I h', Fr h₀ L h' m → News h₀ L h' ((M, mapObj T) :: (T, oneTup I) :: (I, strIt x t) :: news) → (∀ p ∈ news, p.1 < I) → I < T → T < M → Q (.ref M) { s with heap := h' }) :
    wpAny (model prog w) A (call (.type "map") [.builtin "ord", .str x t]) Q E s := by
  refine callType_new called_map (by decide) (typeCall_map _ _) (newCall_map _ _) (fun obj => PySem.F.args_object_init_3 obj _ _) entry_map_new (meets_map_new x t) ?_
  have z1 : (s.heap.push (strIt x t)).objs.size = s.heap.objs.size + 1 := Heap.size_push ..
  have z2 : ((s.heap.push (strIt x t)).push (oneTup s.heap.objs.size)).objs.size = s.heap.objs.size + 2 := by rw [Heap.size_push, z1]
  have F1 := F.push (strIt x t)
  have N1 := News.push F N (strIt x t)
  have F2 := F1.push (oneTup s.heap.objs.size)
  have N2 := News.push F1 N1 (oneTup s.heap.objs.size)
  have F3 := F2.push (mapObj (s.heap.push (strIt x t)).objs.size)
  have N3 := News.push F2 N2 (mapObj (s.heap.push (strIt x t)).objs.size)
  refine ⟨⟨_, (N3 _ (List.mem_cons_self ..)).1, rfl⟩, h _ _ _ _ F3 N3 (fun p hp => Heap.lt_size (N p hp).1) ?_ ?_⟩
  · rw [z1]; exact Nat.lt_succ_self _
  · rw [z2, z1]; exact Nat.lt_succ_self _

theorem listMapK {M T I : Addr} {x : Str} {t : Tok} {Q : Value → Shared → Prop} (hh : A.handled = none) (F : Fr h₀ L s.heap m) (N : News h₀ L s.heap ((M, mapObj T) :: (T, oneTup I) :: (I, strIt x t) :: news))
    (hnew : ∀ p ∈ news, p.1 < I) (hIT : I < T) (hTM : T < M) (hn : x.cps.size ≤ sizeLine)
    (h : ∀ D h' tk vs n, Fr h₀ L h' m → News h₀ L h' ((D, listOf vs.toArray n) :: news) → (∀ p ∈ news, p.1 < D) → IntsAre vs (x.cps.toList.map fun c => ((c : Nat) : Int)) → Q (.ref D) { s with heap := h', toks := tk }) :
    wpAny (model prog w) A (call (.type "list") [.ref M]) Q E s := by
  have nM := N _ (List.mem_cons_self ..)
  have nT := N _ (List.mem_cons_of_mem _ (List.mem_cons_self ..))
  have nI := N _ (List.mem_cons_of_mem _ (List.mem_cons_of_mem _ (List.mem_cons_self ..)))
  refine call_list_map hh (Nat.ne_of_gt (Nat.lt_trans hIT hTM)) (Nat.ne_of_gt hIT) ⟨nM.1, nT.1⟩ ⟨_, nI.1, rfl, rfl⟩ hn fun h' tk acc' c' hk hS hacc => ?_
  have F' : Fr h₀ L h' m := by
    obtain ⟨oL, a1, a2, hL, a3⟩ := F.ns
    refine ⟨⟨oL, a1, a2, hk _ _ (Ne.symm nI.2.1) hL, a3⟩, fun b o e => hk b o (fun hb => ?_) (F.keep b o e), F.above⟩
    have := nI.2.2
    rw [← hb] at this
    rw [this] at e
    cases e
  refine h s.heap.objs.size h' tk acc'.toList c' F' (fun p hp => ?_) (fun p hp => Heap.lt_size (N p (List.mem_cons_of_mem _ (List.mem_cons_of_mem _ (List.mem_cons_of_mem _ hp)))).1) (ints_of_items hacc)
  rcases List.mem_cons.mp hp with rfl | hp
  · refine ⟨by simpa using hS, Nat.ne_of_gt F.ns.lt, ?_⟩
    cases e : h₀.get? s.heap.objs.size with
    | none => rfl
    | some o => exact absurd (Heap.lt_size (F.keep _ _ e)) (Nat.lt_irrefl _)
  · have np := N p (List.mem_cons_of_mem _ (List.mem_cons_of_mem _ (List.mem_cons_of_mem _ hp)))
    exact ⟨hk _ _ (Nat.ne_of_lt (hnew p hp)) np.1, np.2⟩
end
end Mine

-- part M3
theorem Mine.off_M3 : True := by
  w_top off
  trivial
namespace Mine
open Sem (wp)

theorem bytes_len_slot : typeLookup (.type "bytes") "__len__" = pure (some (.builtin "bytes.__len__")) := by rw [typeLookup_type, builtinLookup_eq_fast]; kernel_rfl
abbrev bytesIt (b : Array UInt8) (t : Tok) : Obj := { cls := .type "bytes_iterator", data := .fields #[.bytes b t, .int 0 0] }
def ByteAt (b : Array UInt8) (i : Nat) (v : Value) : Prop := ∃ c u, b[i]? = some c ∧ v = .int (c.toNat : Int) u

section
variable {prog : Program} {w : World} {A : Around} {E : Value → Shared → Prop} {s : Shared}

theorem init_bytes {R : Result → Shared → Prop} (hh : A.handled = none) (b : Array UInt8) (t : Tok) (S : Addr) (hS : s.heap.get? S = some { cls := .type "list", data := .seq #[] })
    (hR : ∀ h' tk acc' c', (∀ a o, a ≠ S → s.heap.get? a = some o → h'.get? a = some o) → h'.get? S = some { cls := .type "list", dict := none, data := .seq acc' c', slots := #[] } →
      ItemsOf (ByteAt b) acc' b.size → R (.ok (.ret .none)) { s with heap := h', toks := tk }) (hn : b.size ≤ sizeLine) :
    wpAny (model prog w) A.in1 (Builtin.«list.__init__» ⟨[.ref S, .bytes b t], []⟩)
      (fun fin s' => match fin with | .done f => R (.ok f) s' | .again c' => c'.quiet = true ∧ codeAny (model prog w) A c' R s') (fun e s' => R (.error e) s') s := by
  have hT : ∀ s₀ : Shared, s₀.TypeIs (.bytes b t) "bytes" := fun s₀ => typeIs_bytes s₀ b t
  show wpAny _ _ (do let old ← Builtin.List.listItems (.ref S); Builtin.List.listUpdate (.ref S) (fun _ => #[]); letGo old.toList.reverse; Builtin.List.listExtendWith (.ref S) (.bytes b t) .none) _ _ s
  refine wpAny_bind ?_
  unfold Builtin.List.listItems
  refine wpAny_bind (wpAny_seqItems hS rfl (wpAny_pure ?_))
  show wpAny _ _ (updateSeq S (fun _ => #[]) >>= fun _ => letGo (#[] : Array Value).toList.reverse >>= fun _ => Builtin.List.listExtendWith (.ref S) (.bytes b t) .none) _ _ s
  refine wpAny_bind (wpAny_updateSeq hS rfl ?_)
  have hS₁ := Heap.get?_update_self (Obj.mapSeq (fun _ => (#[] : Array Value))) hS rfl
  have away₁ : ∀ a o, a ≠ S → s.heap.get? a = some o → (s.heap.update S (Obj.mapSeq (fun _ => (#[] : Array Value)))).get? a = some o :=
    fun a o hb e => (Heap.get?_update_other _ _ (Ne.symm hb)).trans e
  refine wpAny_bind (wpAny_letGo ?_)
  generalize s.heap.update S (Obj.mapSeq (fun _ => (#[] : Array Value))) = h₁ at hS₁ away₁ ⊢
  have hSf : S ∉ [h₁.objs.size] := fun hm => Nat.ne_of_lt (Heap.lt_size hS₁) (List.mem_singleton.mp hm)
  unfold Builtin.List.listExtendWith
  refine wpAny_bind (wpAny_typeOf (hT _) ?_)
  have e1 : Builtin.List.listSameRef (.ref S) (.bytes b t) = false := rfl
  have e2 : (Value.type "bytes" == Value.type "list") = false := by decide
  have e3 : (Value.type "bytes" == Value.type "tuple") = false := by decide
  simp only [e1, e2, e3, Bool.or_false, Bool.false_eq_true, if_false]
  refine wpAny_bind (KBw.pyIter_bytes ?_)
  refine wpAny_bind (wpAny_holding ?_)
  unfold Builtin.List.listLengthHint
  refine wpAny_bind (wpAny_specialOf (hT _) bytes_len_slot ?_)
  wp_delta
  refine wpAny_bind (wpAny_isInstance (T := "bytes") (v := .bytes b t) (b := true) (hT _) (by rw [isSubtype_type]; kernel_rfl) ?_)
  show wpAny _ _ (typeOf (Value.bytes b t) >>= _) _ _ _
  refine wpAny_bind (wpAny_typeOf (hT _) ?_)
  refine wpAny_pure ?_
  rw [if_neg (by decide)]
  refine wpAny_pure ⟨plainId_quiet F.plain_extend_loop _, codeAny_extend_loopS (KBw.walks (A := A.in1) hh h₁.objs.size b t).toS hn _ hSf _ b.size 0 _ _ _ rfl (Nat.zero_le _) ⟨_, Heap.get?_push_size _ rfl, rfl, rfl⟩ (Heap.get?_push_of_some _ hS₁) (ItemsOf.nil _) fun s' acc' c' hm hS' hacc => ?_⟩
  rw [Moved.eq_with hm]
  refine hR s'.heap s'.toks acc' c' (fun a ob hb e => hm.heap a ob (fun hmem => ?_) (Heap.get?_push_of_some _ (away₁ a ob hb e))) hS' hacc
  rcases List.mem_cons.mp hmem with e' | hmem
  · exact hb e'
  · exact absurd (Heap.lt_size (away₁ a ob hb e)) (by rw [List.mem_singleton.mp hmem]; exact Nat.lt_irrefl _)

theorem ints_of_bytes {b : Array UInt8} {acc : Array Value} (h : ItemsOf (ByteAt b) acc b.size) : IntsAre acc.toList (KBw.bInts b) := by
  have key : ∀ (vs : List Value) (cs : List UInt8), vs.length = cs.length → (∀ (j : Nat) (v : Value), vs[j]? = some v → ∃ (c : UInt8) (u : Tok), cs[j]? = some c ∧ v = Value.int (c.toNat : Int) u) → IntsAre vs (cs.map fun c => (c.toNat : Int)) := by
    intro vs
    induction vs with
    | nil => intro cs hl _; cases cs with
      | nil => exact .nil
      | cons c r => cases hl
    | cons v r ih => intro cs hl hg; cases cs with
      | nil => cases hl
      | cons c r' =>
        obtain ⟨c', u, hc, rfl⟩ := hg 0 v rfl
        have : c = c' := Option.some.inj hc
        subst this
        exact .cons _ _ (ih r' (Nat.succ.inj hl) fun j v hj => hg (j + 1) v hj)
  refine key _ _ (by simpa using h.1) fun j v hj => ?_
  obtain ⟨c, u, hc, e⟩ := h.2 j v (by simpa using hj)
  exact ⟨c, u, by simpa using hc, e⟩
end

section
variable {prog : Program} {w : World} {A : Around} {E : Value → Shared → Prop} {s : Shared} {h₀ : Heap} {L : Addr} {m : Str → Option Value} {news : List (Addr × Obj)}

theorem listBytesK {b : Array UInt8} {t : Tok} {Q : Value → Shared → Prop} (hh : A.handled = none) (F : Fr h₀ L s.heap m) (N : News h₀ L s.heap news) (hn : b.size ≤ sizeLine)
    (h : ∀ D h' tk vs n, Fr h₀ L h' m → News h₀ L h' ((D, listOf vs.toArray n) :: news) → (∀ p ∈ news, p.1 < D) → IntsAre vs (KBw.bInts b) → Q (.ref D) { s with heap := h', toks := tk }) :
    wpAny (model prog w) A (call (.type "list") [.bytes b t]) Q E s := by
  refine callType_codes (Q₁ := fun obj s₁ => obj = .ref s.heap.objs.size ∧ s₁ = { s with heap := s.heap.push { cls := .type "list", data := .seq #[] } }) PySem.F.called_list (PySem.F.typeCall_list_1 _) PySem.F.entry_list_init
    (code_list_new _ ⟨rfl, rfl⟩) fun obj s₁ h₁ => ?_
  obtain ⟨rfl, rfl⟩ := h₁
  have hS : (s.heap.push { cls := .type "list", data := .seq #[] }).get? s.heap.objs.size = some { cls := .type "list", data := .seq #[] } := Heap.get?_push_size _ rfl
  refine ⟨⟨_, hS, rfl⟩, PySem.F.args_list_init_2 _ _, init_bytes (A := A.in1) hh b t _ hS (fun h' tk acc' c' hk hS' hacc => ⟨rfl, ?_⟩) hn⟩
  have hk' : ∀ a o, s.heap.get? a = some o → h'.get? a = some o := fun a o e => hk a o (Nat.ne_of_lt (Heap.lt_size e)) (Heap.get?_push_of_some _ e)
  refine h s.heap.objs.size h' tk acc'.toList c' ⟨F.ns.keeps hk', fun a o e => hk' a o (F.keep a o e), F.above⟩ (fun p hp => ?_) (fun p hp => Heap.lt_size (N p hp).1) (ints_of_bytes hacc)
  rcases List.mem_cons.mp hp with rfl | hp
  · refine ⟨by simpa using hS', Nat.ne_of_gt F.ns.lt, ?_⟩
    cases e : h₀.get? s.heap.objs.size with
    | none => rfl
    | some o => exact absurd (Heap.lt_size (F.keep _ _ e)) (Nat.lt_irrefl _)
  · exact ⟨hk' _ _ (N p hp).1, (N p hp).2⟩
end
end Mine

-- part L1
theorem Mine.off_L1 : True := by
  w_top off
  trivial
namespace Mine
/-- the end of a loop's turn that leaves the ledger as it was -/
def LEnd (h₀ : Heap) (L : Addr) (J : (Str → Option Value) → Prop) (need : List (Addr × Obj)) (s₁ s₂ : Shared) : Prop :=
  ∃ h' tk m' news', s₂ = { s₁ with heap := h', toks := tk } ∧ Fr h₀ L h' m' ∧ News h₀ L h' news' ∧ (∀ p ∈ need, p ∈ news') ∧ J m'
def LPost (h₀ : Heap) (L : Addr) (J : (Str → Option Value) → Prop) (need : List (Addr × Obj)) (s₁ : Shared) (Q : Flow → Shared → Prop) (f : Flow) (s₂ : Shared) : Prop :=
  match f with
  | .ret v => Q (.ret v) s₂
  | .brk => Q .next s₂
  | _ => LEnd h₀ L J need s₁ s₂
theorem LEnd.mk {h₀ : Heap} {L : Addr} {J : (Str → Option Value) → Prop} {m' : Str → Option Value} {need news' : List (Addr × Obj)} {s₁ : Shared} {h' : Heap} {tk : Nat} (F : Fr h₀ L h' m') (N : News h₀ L h' news') (hn : ∀ p ∈ need, p ∈ news')
    (hj : J m') : LEnd h₀ L J need s₁ { s₁ with heap := h', toks := tk } := ⟨h', tk, m', news', rfl, F, N, hn, hj⟩
theorem LPost.next {h₀ : Heap} {L : Addr} {J : (Str → Option Value) → Prop} {m' : Str → Option Value} {need news' : List (Addr × Obj)} {s₁ : Shared} {h' : Heap} {tk : Nat} {Q : Flow → Shared → Prop} (F : Fr h₀ L h' m') (N : News h₀ L h' news') (hn : ∀ p ∈ need, p ∈ news')
    (hj : J m') : LPost h₀ L J need s₁ Q .next { s₁ with heap := h', toks := tk } := LEnd.mk F N hn hj

section
variable {prog : Program} {w : World} {A : Around} {E : Value → Shared → Prop} {s : Shared} {env : Env} {h₀ : Heap} {x : Str} {body : List Stmt} {Q : Flow → Shared → Prop}

theorem lp_walks {I : Addr} {fp wr : List Addr} {n : Nat} {P : Nat → Value → Prop} {St : Nat → Heap → Prop} {m₀ : Str → Option Value} {news : List (Addr × Obj)} (J : Nat → (Str → Option Value) → Prop)
    (W : Walks prog w A I fp wr n P St) (hLf : env.locals ∉ fp) (hwr : ∀ b ∈ wr, h₀.get? b = none) (hnw : ∀ p ∈ news, p.1 ∉ wr) (hst : St 0 s.heap) (F : Fr h₀ env.locals s.heap m₀) (N : News h₀ env.locals s.heap news) (hj : J 0 m₀)
    (turn : ∀ i v m₁ h tk, i < n → P i v → J i m₁ → Fr h₀ env.locals h (fun y => if y = x then some v else m₁ y) → ∀ own, News h₀ env.locals h (own ++ news) →
      wpAny (model prog w) A (execs body env) (LPost h₀ env.locals (J (i + 1)) (own ++ news) { s with heap := h, toks := tk } Q) E { s with heap := h, toks := tk })
    (done : ∀ m₁ h tk, J n m₁ → Fr h₀ env.locals h m₁ → News h₀ env.locals h news → Q .next { s with heap := h, toks := tk }) :
    LoopAtV prog w A h₀ env x body Q E (.ref I) s := by
  refine ⟨I, fp, wr, n, P, St, m₀, news, (fun i m nx => nx = news ∧ J i m), rfl, W, hLf, hwr, hnw, hst, F, N, ⟨rfl, hj⟩, ?_, ?_⟩
  · rintro i v m₁ news₁ s₁ own ⟨hh', tk', rfl⟩ hin hP ⟨rfl, hJ⟩ hoff _ _ _ _ F₁ N₁
    refine wpAny_mono (turn i v m₁ hh' tk' hin hP hJ F₁ own N₁) (fun f s₂ p => ?_) fun _ _ e => e
    have fin : LEnd h₀ env.locals (J (i + 1)) (own ++ news₁) { s with heap := hh', toks := tk' } s₂ → LoopStepU h₀ env.locals wr own (fun m nx => nx = news₁ ∧ J (i + 1) m) { s with heap := hh', toks := tk' } .next s₂ := by
      rintro ⟨h', tk, m', news', e, F', N', hn, hm⟩
      exact ⟨rfl, h', tk, m', news₁, e, F', fun p hp => N' p (hn p hp), hoff, rfl, hm⟩
    cases f with
    | ret v => exact .ret p
    | brk => exact .brk p
    | next => exact .next (fin p)
    | cont => exact .cont (fin p)
  · rintro h' tk m' news' F' N' _ ⟨rfl, hJ⟩
    exact done m' h' tk hJ F' N'

/-- one int name folded -/
abbrev AccJ (x y : Str) (m₀ : Str → Option Value) (a : Int) (m : Str → Option Value) : Prop := (∃ t, m y = some (.int a t)) ∧ ∀ z, z ≠ x → z ≠ y → m z = m₀ z
theorem acc_fr {L : Addr} {h : Heap} {y : Str} {m₀ m₁ : Str → Option Value} {a : Int} {ta : Tok} {v : Value} (ha : m₁ y = some (.int a ta)) (hm : ∀ z, z ≠ x → z ≠ y → m₁ z = m₀ z)
    (F : Fr h₀ L h (fun z => if z = x then some v else m₁ z)) : Fr h₀ L h (fun z => if z = x then some v else if z = y then some (.int a ta) else m₀ z) := by
  have e : (fun z => if z = x then some v else m₁ z) = fun z => if z = x then some v else if z = y then some (Value.int a ta) else m₀ z := by
    funext z
    by_cases h1 : z = x
    · simp [h1]
    · simp only [if_neg h1]
      by_cases h2 : z = y
      · subst h2; simp [ha]
      · simp only [if_neg h2]; exact hm z h1 h2
  rw [← e]; exact F
theorem acc_frOut {L : Addr} {h : Heap} {y : Str} {m₀ m₁ : Str → Option Value} {a : Int} {ta : Tok} (ha : m₁ y = some (.int a ta)) (hm : ∀ z, z ≠ x → z ≠ y → m₁ z = m₀ z)
    (F : Fr h₀ L h m₁) : Fr h₀ L h (fun z => if z = x then m₁ z else if z = y then some (.int a ta) else m₀ z) := by
  have e : (fun z => if z = x then m₁ z else if z = y then some (Value.int a ta) else m₀ z) = m₁ := by
    funext z
    by_cases h1 : z = x
    · simp [h1]
    · simp only [if_neg h1]
      by_cases h2 : z = y
      · subst h2; simp [ha]
      · simp only [if_neg h2]; exact (hm z h1 h2).symm
  rw [e]; exact F

theorem LPost.acc {L : Addr} {y : Str} {m₀ m' : Str → Option Value} {a b : Int} {t : Tok} {need news' : List (Addr × Obj)} {s₁ : Shared} {h' : Heap} {tk : Nat} (F : Fr h₀ L h' m') (N : News h₀ L h' news') (hn : ∀ p ∈ need, p ∈ news')
    (hy : m' y = some (.int b t)) (hb : b = a) (hz : ∀ z, z ≠ x → z ≠ y → m' z = m₀ z) : LPost h₀ L (AccJ x y m₀ a) need s₁ Q .next { s₁ with heap := h', toks := tk } :=
  LPost.next F N hn ⟨⟨t, hb ▸ hy⟩, hz⟩

theorem lp_list {l : Addr} {vs : List Value} {ns : List Int} {nn : Nat} {m₀ : Str → Option Value} {news : List (Addr × Obj)} {y : Str} {a₀ : Int} {t₀ : Tok} (g : Int → Int → Int)
    (hh : A.handled = none) (hl : (l, listOf vs.toArray nn) ∈ news) (hi : IntsAre vs ns) (F : Fr h₀ env.locals s.heap m₀) (N : News h₀ env.locals s.heap news) (hy : m₀ y = some (.int a₀ t₀)) (_hyx : y ≠ x)
    (turn : ∀ n t a ta h tk own, n ∈ ns → Fr h₀ env.locals h (fun z => if z = x then some (.int n t) else if z = y then some (.int a ta) else m₀ z) → News h₀ env.locals h (own ++ news) →
      wpAny (model prog w) A (execs body env) (LPost h₀ env.locals (AccJ x y m₀ (g a n)) (own ++ news) { s with heap := h, toks := tk } Q) E { s with heap := h, toks := tk })
    (done : ∀ (u : Str → Option Value) t h tk, Fr h₀ env.locals h (fun z => if z = x then u z else if z = y then some (.int (ns.foldl g a₀) t) else m₀ z) → News h₀ env.locals h news → Q .next { s with heap := h, toks := tk }) :
    wpAny (model prog w) A (pyIter (.ref l)) (fun it s₂ => LoopAtV prog w A h₀ env x body Q E it s₂) E s := by
  have hol : s.heap.get? l = some (listOf vs.toArray nn) := (N _ hl).1
  have hls : s.heap.IsList l vs.toArray := ⟨_, hol, rfl, nn, rfl⟩
  have hne : l ≠ s.heap.objs.size := Nat.ne_of_lt (Heap.lt_size hol)
  refine wpAny_pyIter_list hls ?_
  have W := Walks.list (prog := prog) (w := w) hh s.heap.objs.size l hne vs.toArray
  have hlen : vs.toArray.size = ns.length := by simp [hi.length]
  rw [hlen] at W
  refine lp_walks (s := { s with heap := _ }) (news := news) (m₀ := m₀) (fun i m => AccJ x y m₀ ((ns.take i).foldl g a₀) m) W ?_ ?_ ?_ ⟨⟨_, Heap.get?_push_size _ rfl, rfl, rfl⟩, hls.at fun o e => Heap.get?_push_of_some _ e⟩ (F.push _) (fun p hp => ⟨Heap.get?_push_of_some _ (N p hp).1, (N p hp).2⟩) ⟨⟨t₀, by simpa using hy⟩, fun _ _ _ => rfl⟩ ?_ ?_
  · intro hm
    rcases List.mem_cons.mp hm with e | hm
    · exact absurd F.ns.lt (e ▸ Nat.lt_irrefl _)
    · exact (N _ hl).2.1 (List.mem_singleton.mp hm).symm
  · intro b hb
    rw [List.mem_singleton.mp hb]
    exact next_is_new F
  · intro p hp hI
    exact absurd (Heap.lt_size (N p hp).1) ((List.mem_singleton.mp hI) ▸ Nat.lt_irrefl _)
  · rintro i v m₁ h tk hin hP ⟨⟨ta, ha⟩, hm⟩ F₁ own N₁
    obtain ⟨t, hx⟩ := hi.get i ns[i] (by simp [hin])
    have hv : v = .int ns[i] t := by
      have hP' : vs[i]? = some v := by simpa using hP
      rw [hx] at hP'; exact (Option.some.inj hP').symm
    subst hv
    have hs : (ns.take (i + 1)).foldl g a₀ = g ((ns.take i).foldl g a₀) ns[i] := by
      rw [List.take_add_one, List.getElem?_eq_getElem hin]; simp only [Option.toList, List.foldl_append, List.foldl_cons, List.foldl_nil]
    rw [hs]
    exact turn ns[i] t _ ta h tk own (List.getElem_mem hin) (acc_fr ha hm F₁) N₁
  · rintro m₁ h tk ⟨⟨t, ha⟩, hm⟩ F₁ N₁
    rw [List.take_length] at ha
    exact done m₁ t h tk (acc_frOut ha hm F₁) N₁

theorem lp_rev {I l : Addr} {vs : List Value} {ns : List Int} {nn : Nat} {m₀ : Str → Option Value} {news : List (Addr × Obj)} {y : Str} {a₀ : Int} {t₀ : Tok} (g : Int → Int → Int)
    (hh : A.handled = none) (hl : (l, listOf vs.toArray nn) ∈ news) (hi : IntsAre vs ns) (F : Fr h₀ env.locals s.heap m₀) (N : News h₀ env.locals s.heap ((I, revObj l ((vs.length : Int) - 1)) :: news)) (hlt : ∀ p ∈ news, p.1 < I) (hy : m₀ y = some (.int a₀ t₀)) (_hyx : y ≠ x)
    (turn : ∀ n t a ta h tk own, n ∈ ns → Fr h₀ env.locals h (fun z => if z = x then some (.int n t) else if z = y then some (.int a ta) else m₀ z) → News h₀ env.locals h (own ++ news) →
      wpAny (model prog w) A (execs body env) (LPost h₀ env.locals (AccJ x y m₀ (g a n)) (own ++ news) { s with heap := h, toks := tk } Q) E { s with heap := h, toks := tk })
    (done : ∀ (u : Str → Option Value) t h tk, Fr h₀ env.locals h (fun z => if z = x then u z else if z = y then some (.int (ns.reverse.foldl g a₀) t) else m₀ z) → News h₀ env.locals h news → Q .next { s with heap := h, toks := tk }) :
    wpAny (model prog w) A (pyIter (.ref I)) (fun it s₂ => LoopAtV prog w A h₀ env x body Q E it s₂) E s := by
  have hIx := N _ (List.mem_cons_self ..)
  have N' : News h₀ env.locals s.heap news := fun p hp => N p (List.mem_cons_of_mem _ hp)
  have hol : s.heap.get? l = some (listOf vs.toArray nn) := (N' _ hl).1
  have hls : s.heap.IsList l vs.toArray := ⟨_, hol, rfl, nn, rfl⟩
  have hne : l ≠ I := Nat.ne_of_lt (hlt _ hl)
  have hlen' : vs.length = ns.length := hi.length
  have hit : s.heap.IsRevIter I l ((vs.length : Int) - 1) := ⟨_, hIx.1, rfl, rfl⟩
  refine wpAny_pyIter_revIter hit ?_
  have W := Walks.listRev (prog := prog) (w := w) hh I l hne vs.toArray
  have hlen : vs.toArray.size = ns.length := by simp [hi.length]
  rw [hlen] at W
  refine lp_walks (news := news) (m₀ := m₀) (fun i m => AccJ x y m₀ ((ns.reverse.take i).foldl g a₀) m) W ?_ ?_ ?_ ⟨Nat.zero_le _, by rw [hlen'] at hit; simpa using hit, hls⟩ F N' ⟨⟨t₀, by simpa using hy⟩, fun _ _ _ => rfl⟩ ?_ ?_
  · intro hm
    rcases List.mem_cons.mp hm with e | hm
    · exact hIx.2.1 e.symm
    · exact (N' _ hl).2.1 (List.mem_singleton.mp hm).symm
  · intro b hb
    rw [List.mem_singleton.mp hb]
    exact hIx.2.2
  · intro p hp hI
    exact absurd (hlt p hp) ((List.mem_singleton.mp hI) ▸ Nat.lt_irrefl _)
  · rintro i v m₁ h tk hin hP ⟨⟨ta, ha⟩, hm⟩ F₁ own N₁
    have hin' : i < ns.reverse.length := by rw [List.length_reverse]; exact hin
    have hx0 : ns[ns.length - 1 - i]? = some (ns[ns.length - 1 - i]'(by omega)) := List.getElem?_eq_getElem (by omega)
    obtain ⟨t, hx⟩ := hi.get _ _ hx0
    have hr : ns.reverse[i] = ns[ns.length - 1 - i]'(by omega) := List.getElem_reverse hin'
    have hv : v = .int ns.reverse[i] t := by
      have hP' : vs[ns.length - 1 - i]? = some v := by simpa using hP
      rw [hx] at hP'; rw [hr]; exact (Option.some.inj hP').symm
    subst hv
    have hs : (ns.reverse.take (i + 1)).foldl g a₀ = g ((ns.reverse.take i).foldl g a₀) ns.reverse[i] := by
      rw [List.take_add_one, List.getElem?_eq_getElem hin']; simp only [Option.toList, List.foldl_append, List.foldl_cons, List.foldl_nil]
    rw [hs]
    exact turn ns.reverse[i] t _ ta h tk own (List.mem_reverse.mp (List.getElem_mem hin')) (acc_fr ha hm F₁) N₁
  · rintro m₁ h tk ⟨⟨t, ha⟩, hm⟩ F₁ N₁
    have e : ns.reverse.take ns.length = ns.reverse := List.take_of_length_le (by simp)
    rw [e] at ha
    exact done m₁ t h tk (acc_frOut ha hm F₁) N₁
end
end Mine

-- part L2
theorem Mine.off_L2 : True := by
  w_top off
  trivial
namespace Mine
section
variable {prog : Program} {w : World} {A : Around} {E : Value → Shared → Prop} {s : Shared} {env : Env} {h₀ : Heap} {x : Str} {body : List Stmt} {Q : Flow → Shared → Prop}

/-- a loop over range(n) that keeps nothing but what stood ahead of it: the names it stores are forgotten -/
theorem lp_range {r : Addr} {b : Int} {t₀ u₀ v₀ : Tok} {n : Nat} {m₀ : Str → Option Value} {news : List (Addr × Obj)} (st : List Str)
    (hh : A.handled = none) (hr : IsRange s.heap r 0 b 1 t₀ u₀ v₀) (hsmall : Builtin.Range.small 0 b 1 = true) (hn : Builtin.Range.rangeSize 0 b 1 = (n : Int)) (F : Fr h₀ env.locals s.heap m₀) (N : News h₀ env.locals s.heap news)
    (turn : ∀ (k : Nat) (t : Tok) (u : Str → Option Value) h tk own, k < n → Fr h₀ env.locals h (fun z => if z = x then some (.int (k : Int) t) else if st.contains z then u z else m₀ z) → News h₀ env.locals h (news ++ own) →
      wpAny (model prog w) A (execs body env) (LPost h₀ env.locals (fun m' => ∀ z, z ≠ x → st.contains z = false → m' z = m₀ z) (news ++ own) { s with heap := h, toks := tk } Q) E { s with heap := h, toks := tk })
    (done : ∀ (u : Str → Option Value) h tk, Fr h₀ env.locals h (fun z => if z = x then u z else if st.contains z then u z else m₀ z) → News h₀ env.locals h news → Q .next { s with heap := h, toks := tk }) :
    wpAny (model prog w) A (pyIter (.ref r)) (fun it s₂ => LoopAtV prog w A h₀ env x body Q E it s₂) E s := by
  refine wpAny_pyIter_range hr hsmall ?_
  have W : Walks prog w A s.heap.objs.size [s.heap.objs.size] [s.heap.objs.size] n (fun i v => i < n ∧ ∃ t, v = .int (0 + i * 1) t)
      (fun i h => IsRangeIter h s.heap.objs.size (0 + (i : Nat) * 1) ((n : Int) - (i : Nat)) 1) := (Walks.range hh _ 0 1 n).bound
  have sw : ∀ {own : List (Addr × Obj)}, ∀ p ∈ news ++ own, p ∈ own ++ news := fun p hp => (List.mem_append.mp hp).elim (fun h => List.mem_append.mpr (.inr h)) fun h => List.mem_append.mpr (.inl h)
  have sw' : ∀ {own : List (Addr × Obj)}, ∀ p ∈ own ++ news, p ∈ news ++ own := fun p hp => (List.mem_append.mp hp).elim (fun h => List.mem_append.mpr (.inr h)) fun h => List.mem_append.mpr (.inl h)
  refine lp_walks (s := { s with heap := _ }) (news := news) (m₀ := m₀) (fun _ m => ∀ z, z ≠ x → st.contains z = false → m z = m₀ z) W ?_ ?_ ?_ (by show IsRangeIter _ _ _ _ _; rw [hn]; simpa using Heap.get?_push_size _ rfl) (F.push _) (fun p hp => ⟨Heap.get?_push_of_some _ (N p hp).1, (N p hp).2⟩) (fun _ _ _ => rfl) ?_ ?_
  · intro hm
    exact absurd F.ns.lt ((List.mem_singleton.mp hm) ▸ Nat.lt_irrefl _)
  · intro b hb
    rw [List.mem_singleton.mp hb]
    exact next_is_new F
  · intro p hp hI
    exact absurd (Heap.lt_size (N p hp).1) ((List.mem_singleton.mp hI) ▸ Nat.lt_irrefl _)
  · rintro i v m₁ h tk hin ⟨_, t, rfl⟩ hm F₁ own N₁
    have e1 : (0 : Int) + (i : Int) * 1 = (i : Int) := by omega
    rw [e1] at F₁
    have em : (fun y => if y = x then some (Value.int (i : Int) t) else m₁ y) = fun z => if z = x then some (Value.int (i : Int) t) else if st.contains z then m₁ z else m₀ z := by
      funext z
      by_cases h1 : z = x
      · simp [h1]
      · simp only [if_neg h1]
        cases h2 : st.contains z with
        | true => simp
        | false => simp only [Bool.false_eq_true, if_false]; exact hm z h1 h2
    rw [em] at F₁
    refine wpAny_mono (turn i t m₁ h tk own hin F₁ (fun p hp => N₁ p (sw p hp))) (fun f s₂ p => ?_) fun _ _ e => e
    have fin : LEnd h₀ env.locals (fun m' => ∀ z, z ≠ x → st.contains z = false → m' z = m₀ z) (news ++ own) { s with heap := h, toks := tk } s₂ → LEnd h₀ env.locals (fun m' => ∀ z, z ≠ x → st.contains z = false → m' z = m₀ z) (own ++ news) { s with heap := h, toks := tk } s₂ := by
      rintro ⟨h', tk, m', news', e, F', N', hn, hm⟩
      exact ⟨h', tk, m', news', e, F', N', fun p hp => hn p (sw' p hp), hm⟩
    cases f with
    | ret v => exact p
    | brk => exact p
    | next => exact fin p
    | cont => exact fin p
  · rintro m₁ h tk hm F₁ N₁
    refine done m₁ h tk ?_ N₁
    have em : (fun z => if z = x then m₁ z else if st.contains z then m₁ z else m₀ z) = m₁ := by
      funext z
      by_cases h1 : z = x
      · simp [h1]
      · simp only [if_neg h1]
        cases h2 : st.contains z with
        | true => simp
        | false => simp only [Bool.false_eq_true, if_false]; exact (hm z h1 h2).symm
    rw [em]; exact F₁
end
end Mine

-- part B1
theorem Mine.off_B1 : True := by
  w_top off
  trivial
namespace Mine
noncomputable abbrev lse : List Str := looseW hd.view_39 [Str.ofString "fnv_1a", Str.ofString "fnv_1a_32"]

/-- what a call of the def at f with vs comes to, from whatever frame of the text's own it is called -/
abbrev Ctr (k : Nat) (w : World) (mean : ExcName → Option Value) (mg mb : Str → Option Value) (f : Addr) (vs : List Value) (news : List (Addr × Obj))
    (ret : Heap → Addr → (Str → Option Value) → Shared → (Value → Shared → Prop) → Prop) : Prop :=
  ∀ (dp un : Nat) (gd : Option (List Code)) (cn : Str) (cs : Scope) (a : Addr) (ccd : Value) (cl : List (Str × Addr)) (outer : List Env) (A₀ : Around) (base h₀ : Heap) (L : Addr) (m : Str → Option Value) (s : Shared) (Q E : Value → Shared → Prop),
    Below A₀ base outer h₀ → Fr h₀ L s.heap m → (hd.heap_39 w.params).In h₀ → News h₀ L s.heap news → Top hd.view_39 lse mean mg mb h₀ → cs.kind = .function →
    dp + k < recursionLimit → un + 8 * k < cLine → ret h₀ L m s Q →
      wpAny (model PySem.Challenge.rw_aw0019_01.row.prog w) (ktrTop dp un gd cn cs L a ccd cl outer) (call (.ref f) vs) Q E s

@[irreducible] def pSize (wide : Bool) : Int := if wide then 18446744073709551616 else 4294967296
@[irreducible] def pBack (wide : Bool) : Int := if wide then 14886173955864302971 else 899433627
@[irreducible] def pSeed (b : Int) (wide : Bool) : Int := if wide then ((b - 14695981039346656037) * 17256631552825064415).fmod 18446744073709551616 else ((b - 2166136261) * 3186588639).fmod 4294967296
@[irreducible] def pSign (n : Int) (narrow : Bool) : Int := if narrow then n.fmod 256 else n.fmod 1112064 + (if n.fmod 1112064 ≥ 55296 then 2048 else 0)

theorem c_seed (w : World) (mean : ExcName → Option Value) (mg mb : Str → Option Value) (news : List (Addr × Obj)) (b : Int) (t : Tok) (wide : Bool) :
    Ctr 3 w mean mg mb 68 [.int b t, .bool wide] news (fun h₀ L m s Q => CbRet h₀ L m news s Q (fun t' => .int (pSeed b wide) t')) := by
  dsimp only [Ctr, CbRet]
  k_fill
  intros
  rename_i hret
  refine wpAny_call ?_
  (k_dflt (refine' code_def ?k1 ?k2 ?k3 ?k4 ?k5 ?kA ?kF ?kK ?k6 ?k7 ?k8 ?k9 ?kB ?_ ?c2 ?c3 ?c4 ?c5; (case kA => exact rfl); (case kF => exact rfl); (case kK => assumption); (case k1 => k_asm); (case k2 => k_asm); (case k3 => k_asm); (case k4 => k_asm); (case k5 => k_asm); (case k6 => k_is); (case k7 => k_is); (case k8 => ktr_room); (case k9 => first | exact BindsTo.of_eq rfl | exact binds_K (by k_in) rfl (by k_is) rfl rfl rfl); (case c5 => decide); (case kB => exact locs rfl); (case c2 => exact rfl); (case c3 => exact rfl); (case c4 => exact rfl); k_whole; intro g' L' h' FG' F' N' B' X' T'; (try dsimp only); (try k_lift B'); (try k_fold)))
  k_steps
  all_goals (refine cb_retI hret ?_ (by k_asm) (by k_asm))
  all_goals (unfold pSeed; simp_all)

theorem c_sign (w : World) (mean : ExcName → Option Value) (mg mb : Str → Option Value) (news : List (Addr × Obj)) (key : Int) (t : Tok) (nar : Bool) :
    Ctr 3 w mean mg mb 44 [.int key t, .bool nar] news (fun h₀ L m s Q => CbRet h₀ L m news s Q (fun t' => .int (pSign key nar) t')) := by
  dsimp only [Ctr, CbRet]
  k_fill
  intros
  rename_i hret
  refine wpAny_call ?_
  (k_dflt (refine' code_def ?k1 ?k2 ?k3 ?k4 ?k5 ?kA ?kF ?kK ?k6 ?k7 ?k8 ?k9 ?kB ?_ ?c2 ?c3 ?c4 ?c5; (case kA => exact rfl); (case kF => exact rfl); (case kK => assumption); (case k1 => k_asm); (case k2 => k_asm); (case k3 => k_asm); (case k4 => k_asm); (case k5 => k_asm); (case k6 => k_is); (case k7 => k_is); (case k8 => ktr_room); (case k9 => first | exact BindsTo.of_eq rfl | exact binds_K (by k_in) rfl (by k_is) rfl rfl rfl); (case c5 => decide); (case kB => exact locs rfl); (case c2 => exact rfl); (case c3 => exact rfl); (case c4 => exact rfl); k_whole; intro g' L' h' FG' F' N' B' X' T'; (try dsimp only); (try k_lift B'); (try k_fold)))
  k_steps
  all_goals (refine cb_retI hret ?_ (by k_asm) (by k_asm))
  all_goals (unfold pSign; first | (simp_all; done) | (simp_all; omega))
end Mine

-- part B2
theorem Mine.off_B2 : True := by
  w_top off
  trivial
namespace Mine
@[irreducible] def pBackStep (wide : Bool) (v t : Int) : Int := Builtin.bitXor ((v * pBack wide).fmod (pSize wide)) t
@[irreducible] def pBackF (ns : List Int) (v : Int) (wide : Bool) : Int := ns.reverse.foldl (pBackStep wide) v
theorem of_allLt {d : Addr} : ∀ {l : List (Addr × Obj)}, AllLt d l → ∀ p ∈ l, p.1 < d
  | [], _, _, hp => nomatch hp
  | _ :: _, h, p, hp => by
    rcases List.mem_cons.mp hp with rfl | hp
    · exact h.1
    · exact of_allLt h.2 p hp

theorem c_back (w : World) (mean : ExcName → Option Value) (mg mb : Str → Option Value) (news : List (Addr × Obj)) (l : Addr) (vs : List Value) (ns : List Int) (n : Nat) (hi : IntsAre vs ns) (v : Int) (t : Tok) (wide : Bool) :
    Ctr 3 w mean mg mb 61 [.ref l, .int v t, .bool wide] ((l, listOf vs.toArray n) :: news) (fun h₀ L m s Q => CbRet h₀ L m ((l, listOf vs.toArray n) :: news) s Q (fun t' => .int (pBackF ns v wide) t')) := by
  dsimp only [Ctr, CbRet]
  k_fill
  intros
  rename_i hret
  refine wpAny_call ?_
  (k_dflt (refine' code_def ?k1 ?k2 ?k3 ?k4 ?k5 ?kA ?kF ?kK ?k6 ?k7 ?k8 ?k9 ?kB ?_ ?c2 ?c3 ?c4 ?c5; (case kA => exact rfl); (case kF => exact rfl); (case kK => assumption); (case k1 => k_asm); (case k2 => k_asm); (case k3 => k_asm); (case k4 => k_asm); (case k5 => k_asm); (case k6 => k_is); (case k7 => k_is); (case k8 => ktr_room); (case k9 => first | exact BindsTo.of_eq rfl | exact binds_K (by k_in) rfl (by k_is) rfl rfl rfl); (case c5 => decide); (case kB => exact locs rfl); (case c2 => exact rfl); (case c3 => exact rfl); (case c4 => exact rfl); k_whole; intro g' L' h' FG' F' N' B' X' T'; (try dsimp only); (try k_lift B'); (try k_fold)))
  k_steps
  all_goals (
    rename Fr _ _ _ _ => lF'; rename News _ _ _ _ => lN'
    with_unfolding_all refine lp_rev (y := Str.ofString "value") (l := l) (nn := n) (pBackStep wide) (by rfl) (by k_mem) hi lF' lN' (of_allLt (by simp only [AllLt]; assumption)) (by rfl) (by decide +kernel) (fun n' t' a' ta' h' tk' own' hm' F' N' => ?_) (fun u' t' h' tk' F' N' => ?_)
    all_goals clear lF' lN'
    all_goals (try k_fold))
  all_goals k_steps
  all_goals (rename Fr _ _ _ _ => kF'; rename News _ _ _ _ => kN')
  all_goals first
    | (refine cb_retI hret ?_ kF' (cb_drop kN' fun p hp => List.Mem.tail _ hp); with_unfolding_all rfl)
    | exact LPost.acc kF' kN' (fun p hp => hp) (by with_unfolding_all rfl) (by subst_vars; unfold pBackStep pBack pSize; rfl) (by k_same2)
end Mine

-- part B3
theorem Mine.off_B3 : True := by
  w_top off
  trivial
namespace Mine
@[irreducible] def pMask (wide : Bool) : Int := if wide then 18446744073709551615 else 4294967295
@[irreducible] def pPrime (wide : Bool) : Int := if wide then 1099511628211 else 16777619
@[irreducible] def pOff (wide : Bool) : Int := if wide then 14695981039346656037 else 2166136261
@[irreducible] def pStep (wide : Bool) (h t : Int) : Int := Builtin.bitAnd (Builtin.bitXor h t * pPrime wide) (pMask wide)
@[irreducible] def pBegin (seed : Int) (wide : Bool) : Int := Builtin.bitAnd (pOff wide + 31 * seed) (pMask wide)
@[irreducible] def pHash (ts : List Int) (seed : Int) (wide : Bool) : Int := ts.foldl (pStep wide) (pBegin seed wide)
/-- which of the two hashes is walked: the loop's own rule reads it -/
structure PMode (wide : Bool) : Prop where
  one : True
abbrev PMode.step {wide : Bool} (_ : PMode wide) : Int → Int → Int := pStep wide
abbrev codes (x : Str) : List Int := x.cps.toList.map fun c => ((c : Nat) : Int)
local macro_rules | `(tactic| walk_at "call type:map") => `(tactic| (k_here; (with_reducible show wpAny _ _ (call (Value.type _) [Value.builtin _, Value.str _ _]) _ _ _); k_dflt (refine' mapK ?F ?N ?_; (case F => k_asm); (case N => k_asm); k_whole); intro M' T' I' h' F' N' l1 l2 l3; (try k_lt l1); (try k_sweep)))
local macro_rules | `(tactic| walk_at "call type:list") => `(tactic| (k_here; (with_reducible show wpAny _ _ (call (Value.type _) [Value.ref _]) _ _ _); k_dflt (refine' listMapK ?e ?F ?N ?a ?b ?c ?z ?_; (case e => exact rfl); (case F => k_asm); (case N => k_asm); (case a => first | assumption | exact of_allLt (by assumption) | exact of_allLt (by simp only [AllLt]; assumption)); (case b => assumption); (case c => assumption); (case z => assumption); k_whole); intro D' h' tk' vs' n' F' N' l1 hi'; (try k_lt l1); (try k_sweep)))

local macro_rules | `(tactic| walk_at "exec For Name Name cons nil") => `(tactic| (k_here; (rename PMode _ => mo'); (rename Fr _ _ _ _ => lF'); (with_unfolding_all refine' For_invVF lF' ?k1 ?k2 ?_; (case k1 => exact rfl); (case k2 => exact rfl); k_whole)))
local macro_rules | `(tactic| walk_at "pyIter ref") => `(tactic| ((with_reducible show wpAny _ _ (pyIter (Value.ref _)) (fun it s₂ => LoopAtV _ _ _ _ _ _ _ _ _ it s₂) _ _); (rename PMode _ => mo'); (rename Fr _ _ _ _ => lF'); (rename News _ _ _ _ => lN'); (rename IntsAre _ _ => lI'); (with_unfolding_all refine lp_list (y := Str.ofString "hval") (PMode.step mo') (by rfl) (by k_mem) lI' lF' lN' (by rfl) (by decide +kernel) (fun n' t' a' ta' h' tk' own' hm' F' N' => ?_) (fun u' t' h' tk' F' N' => ?_)); (all_goals clear lF' lN'); (all_goals (try k_fold))))
theorem c_fnv (w : World) (mean : ExcName → Option Value) (mg mb : Str → Option Value) (news : List (Addr × Obj)) (key : Str) (t : Tok) (seed : Int) (u : Tok) (hk : key.cps.size ≤ sizeLine) :
    Ctr 3 w mean mg mb 22 [.str key t, .int seed u] news (fun h₀ L m s Q => CbRet h₀ L m news s Q (fun t' => .int (pHash (codes key) seed true) t')) := by
  dsimp only [Ctr, CbRet]
  k_fill
  intros
  rename_i hret
  have mo : PMode true := ⟨trivial⟩
  refine wpAny_call ?_
  (k_dflt (refine' code_def ?k1 ?k2 ?k3 ?k4 ?k5 ?kA ?kF ?kK ?k6 ?k7 ?k8 ?k9 ?kB ?_ ?c2 ?c3 ?c4 ?c5; (case kA => exact rfl); (case kF => exact rfl); (case kK => assumption); (case k1 => k_asm); (case k2 => k_asm); (case k3 => k_asm); (case k4 => k_asm); (case k5 => k_asm); (case k6 => k_is); (case k7 => k_is); (case k8 => ktr_room); (case k9 => first | exact BindsTo.of_eq rfl | exact binds_K (by k_in) rfl (by k_is) rfl rfl rfl); (case c5 => decide); (case kB => exact locs rfl); (case c2 => exact rfl); (case c3 => exact rfl); (case c4 => exact rfl); k_whole; intro g' L' h' FG' F' N' B' X' T'; (try dsimp only); (try k_lift B'); (try k_fold)))
  k_steps
  all_goals (rename Fr _ _ _ _ => kF'; rename News _ _ _ _ => kN')
  all_goals first
    | (refine cb_retI hret ?_ kF' (cb_drop kN' fun p hp => List.Mem.tail _ hp); unfold pHash pBegin pOff pMask; first | rfl | simp)
    | exact LPost.acc kF' kN' (fun p hp => hp) (by with_unfolding_all rfl) (by unfold PMode.step pStep pPrime pMask; first | rfl | simp) (by k_same2)
theorem c_fnv_d (w : World) (mean : ExcName → Option Value) (mg mb : Str → Option Value) (news : List (Addr × Obj)) (key : Str) (t : Tok) (hk : key.cps.size ≤ sizeLine) :
    Ctr 3 w mean mg mb 22 [.str key t] news (fun h₀ L m s Q => CbRet h₀ L m news s Q (fun t' => .int (pHash (codes key) 0 true) t')) := by
  dsimp only [Ctr, CbRet]
  k_fill
  intros
  rename_i hret
  have mo : PMode true := ⟨trivial⟩
  refine wpAny_call ?_
  (k_dflt (refine' code_def ?k1 ?k2 ?k3 ?k4 ?k5 ?kA ?kF ?kK ?k6 ?k7 ?k8 ?k9 ?kB ?_ ?c2 ?c3 ?c4 ?c5; (case kA => exact rfl); (case kF => exact rfl); (case kK => assumption); (case k1 => k_asm); (case k2 => k_asm); (case k3 => k_asm); (case k4 => k_asm); (case k5 => k_asm); (case k6 => k_is); (case k7 => k_is); (case k8 => ktr_room); (case k9 => first | exact BindsTo.of_eq rfl | exact binds_K (by k_in) rfl (by k_is) rfl rfl rfl); (case c5 => decide); (case kB => exact locs rfl); (case c2 => exact rfl); (case c3 => exact rfl); (case c4 => exact rfl); k_whole; intro g' L' h' FG' F' N' B' X' T'; (try dsimp only); (try k_lift B'); (try k_fold)))
  k_steps
  all_goals (rename Fr _ _ _ _ => kF'; rename News _ _ _ _ => kN')
  all_goals first
    | (refine cb_retI hret ?_ kF' (cb_drop kN' fun p hp => List.Mem.tail _ hp); unfold pHash pBegin pOff pMask; first | rfl | simp)
    | exact LPost.acc kF' kN' (fun p hp => hp) (by with_unfolding_all rfl) (by unfold PMode.step pStep pPrime pMask; first | rfl | simp) (by k_same2)
theorem c_fnv32 (w : World) (mean : ExcName → Option Value) (mg mb : Str → Option Value) (news : List (Addr × Obj)) (key : Str) (t : Tok) (seed : Int) (u : Tok) (hk : key.cps.size ≤ sizeLine) :
    Ctr 3 w mean mg mb 30 [.str key t, .int seed u] news (fun h₀ L m s Q => CbRet h₀ L m news s Q (fun t' => .int (pHash (codes key) seed false) t')) := by
  dsimp only [Ctr, CbRet]
  k_fill
  intros
  rename_i hret
  have mo : PMode false := ⟨trivial⟩
  refine wpAny_call ?_
  (k_dflt (refine' code_def ?k1 ?k2 ?k3 ?k4 ?k5 ?kA ?kF ?kK ?k6 ?k7 ?k8 ?k9 ?kB ?_ ?c2 ?c3 ?c4 ?c5; (case kA => exact rfl); (case kF => exact rfl); (case kK => assumption); (case k1 => k_asm); (case k2 => k_asm); (case k3 => k_asm); (case k4 => k_asm); (case k5 => k_asm); (case k6 => k_is); (case k7 => k_is); (case k8 => ktr_room); (case k9 => first | exact BindsTo.of_eq rfl | exact binds_K (by k_in) rfl (by k_is) rfl rfl rfl); (case c5 => decide); (case kB => exact locs rfl); (case c2 => exact rfl); (case c3 => exact rfl); (case c4 => exact rfl); k_whole; intro g' L' h' FG' F' N' B' X' T'; (try dsimp only); (try k_lift B'); (try k_fold)))
  k_steps
  all_goals (rename Fr _ _ _ _ => kF'; rename News _ _ _ _ => kN')
  all_goals first
    | (refine cb_retI hret ?_ kF' (cb_drop kN' fun p hp => List.Mem.tail _ hp); unfold pHash pBegin pOff pMask; first | rfl | simp)
    | exact LPost.acc kF' kN' (fun p hp => hp) (by with_unfolding_all rfl) (by unfold PMode.step pStep pPrime pMask; first | rfl | simp) (by k_same2)
theorem c_fnv32_d (w : World) (mean : ExcName → Option Value) (mg mb : Str → Option Value) (news : List (Addr × Obj)) (key : Str) (t : Tok) (hk : key.cps.size ≤ sizeLine) :
    Ctr 3 w mean mg mb 30 [.str key t] news (fun h₀ L m s Q => CbRet h₀ L m news s Q (fun t' => .int (pHash (codes key) 0 false) t')) := by
  dsimp only [Ctr, CbRet]
  k_fill
  intros
  rename_i hret
  have mo : PMode false := ⟨trivial⟩
  refine wpAny_call ?_
  (k_dflt (refine' code_def ?k1 ?k2 ?k3 ?k4 ?k5 ?kA ?kF ?kK ?k6 ?k7 ?k8 ?k9 ?kB ?_ ?c2 ?c3 ?c4 ?c5; (case kA => exact rfl); (case kF => exact rfl); (case kK => assumption); (case k1 => k_asm); (case k2 => k_asm); (case k3 => k_asm); (case k4 => k_asm); (case k5 => k_asm); (case k6 => k_is); (case k7 => k_is); (case k8 => ktr_room); (case k9 => first | exact BindsTo.of_eq rfl | exact binds_K (by k_in) rfl (by k_is) rfl rfl rfl); (case c5 => decide); (case kB => exact locs rfl); (case c2 => exact rfl); (case c3 => exact rfl); (case c4 => exact rfl); k_whole; intro g' L' h' FG' F' N' B' X' T'; (try dsimp only); (try k_lift B'); (try k_fold)))
  k_steps
  all_goals (rename Fr _ _ _ _ => kF'; rename News _ _ _ _ => kN')
  all_goals first
    | (refine cb_retI hret ?_ kF' (cb_drop kN' fun p hp => List.Mem.tail _ hp); unfold pHash pBegin pOff pMask; first | rfl | simp)
    | exact LPost.acc kF' kN' (fun p hp => hp) (by with_unfolding_all rfl) (by unfold PMode.step pStep pPrime pMask; first | rfl | simp) (by k_same2)
end Mine

-- part B4
theorem Mine.off_B4 : True := by
  w_top off
  trivial
namespace Mine
section
local macro_rules | `(tactic| walk_at "exec For Name Name cons nil") => `(tactic| (k_here; (rename PMode _ => mo'); (rename Fr _ _ _ _ => lF'); (with_unfolding_all refine' For_invVF lF' ?k1 ?k2 ?_; (case k1 => exact rfl); (case k2 => exact rfl); k_whole)))
local macro_rules | `(tactic| walk_at "pyIter ref") => `(tactic| ((with_reducible show wpAny _ _ (pyIter (Value.ref _)) (fun it s₂ => LoopAtV _ _ _ _ _ _ _ _ _ it s₂) _ _); (rename PMode _ => mo'); (rename Fr _ _ _ _ => lF'); (rename News _ _ _ _ => lN'); (rename IntsAre _ _ => lI'); (with_unfolding_all refine lp_list (y := Str.ofString "hval") (PMode.step mo') (by rfl) (by k_mem) lI' lF' lN' (by rfl) (by decide +kernel) (fun n' t' a' ta' h' tk' own' hm' F' N' => ?_) (fun u' t' h' tk' F' N' => ?_)); (all_goals clear lF' lN'); (all_goals (try k_fold))))
local macro_rules | `(tactic| walk_at "call type:list") => `(tactic| (k_here; (with_reducible show wpAny _ _ (call (Value.type _) [Value.bytes _ _]) _ _ _); k_dflt (refine' listBytesK ?e ?F ?N ?z ?_; (case e => exact rfl); (case F => k_asm); (case N => k_asm); (case z => assumption); k_whole); intro D' h' tk' vs' n' F' N' l1 hi'; (try k_lt l1); (try k_sweep)))
theorem c_fnvB (w : World) (mean : ExcName → Option Value) (mg mb : Str → Option Value) (news : List (Addr × Obj)) (key : Array UInt8) (t : Tok) (seed : Int) (u : Tok) (hk : key.size ≤ sizeLine) :
    Ctr 3 w mean mg mb 22 [.bytes key t, .int seed u] news (fun h₀ L m s Q => CbRet h₀ L m news s Q (fun t' => .int (pHash (KBw.bInts key) seed true) t')) := by
  dsimp only [Ctr, CbRet]
  k_fill
  intros
  rename_i hret
  have mo : PMode true := ⟨trivial⟩
  refine wpAny_call ?_
  (k_dflt (refine' code_def ?k1 ?k2 ?k3 ?k4 ?k5 ?kA ?kF ?kK ?k6 ?k7 ?k8 ?k9 ?kB ?_ ?c2 ?c3 ?c4 ?c5; (case kA => exact rfl); (case kF => exact rfl); (case kK => assumption); (case k1 => k_asm); (case k2 => k_asm); (case k3 => k_asm); (case k4 => k_asm); (case k5 => k_asm); (case k6 => k_is); (case k7 => k_is); (case k8 => ktr_room); (case k9 => first | exact BindsTo.of_eq rfl | exact binds_K (by k_in) rfl (by k_is) rfl rfl rfl); (case c5 => decide); (case kB => exact locs rfl); (case c2 => exact rfl); (case c3 => exact rfl); (case c4 => exact rfl); k_whole; intro g' L' h' FG' F' N' B' X' T'; (try dsimp only); (try k_lift B'); (try k_fold)))
  k_steps
  all_goals (rename Fr _ _ _ _ => kF'; rename News _ _ _ _ => kN')
  all_goals first
    | (refine cb_retI hret ?_ kF' (cb_drop kN' fun p hp => List.Mem.tail _ hp); unfold pHash pBegin pOff pMask; first | rfl | simp)
    | exact LPost.acc kF' kN' (fun p hp => hp) (by with_unfolding_all rfl) (by unfold PMode.step pStep pPrime pMask; first | rfl | simp) (by k_same2)
theorem c_fnv32B (w : World) (mean : ExcName → Option Value) (mg mb : Str → Option Value) (news : List (Addr × Obj)) (key : Array UInt8) (t : Tok) (seed : Int) (u : Tok) (hk : key.size ≤ sizeLine) :
    Ctr 3 w mean mg mb 30 [.bytes key t, .int seed u] news (fun h₀ L m s Q => CbRet h₀ L m news s Q (fun t' => .int (pHash (KBw.bInts key) seed false) t')) := by
  dsimp only [Ctr, CbRet]
  k_fill
  intros
  rename_i hret
  have mo : PMode false := ⟨trivial⟩
  refine wpAny_call ?_
  (k_dflt (refine' code_def ?k1 ?k2 ?k3 ?k4 ?k5 ?kA ?kF ?kK ?k6 ?k7 ?k8 ?k9 ?kB ?_ ?c2 ?c3 ?c4 ?c5; (case kA => exact rfl); (case kF => exact rfl); (case kK => assumption); (case k1 => k_asm); (case k2 => k_asm); (case k3 => k_asm); (case k4 => k_asm); (case k5 => k_asm); (case k6 => k_is); (case k7 => k_is); (case k8 => ktr_room); (case k9 => first | exact BindsTo.of_eq rfl | exact binds_K (by k_in) rfl (by k_is) rfl rfl rfl); (case c5 => decide); (case kB => exact locs rfl); (case c2 => exact rfl); (case c3 => exact rfl); (case c4 => exact rfl); k_whole; intro g' L' h' FG' F' N' B' X' T'; (try dsimp only); (try k_lift B'); (try k_fold)))
  k_steps
  all_goals (rename Fr _ _ _ _ => kF'; rename News _ _ _ _ => kN')
  all_goals first
    | (refine cb_retI hret ?_ kF' (cb_drop kN' fun p hp => List.Mem.tail _ hp); unfold pHash pBegin pOff pMask; first | rfl | simp)
    | exact LPost.acc kF' kN' (fun p hp => hp) (by with_unfolding_all rfl) (by unfold PMode.step pStep pPrime pMask; first | rfl | simp) (by k_same2)
end
local macro_rules | `(tactic| walk_at "call ref") => `(tactic| (k_here; (with_reducible show wpAny _ _ (call (Value.ref _) [Value.str _ _, Value.int _ _]) _ _ _); k_dflt (refine' c_fnv _ _ _ _ _ _ _ _ _ ?kz _ _ _ _ _ _ _ _ _ _ _ _ _ _ _ _ _ ?kB ?kF ?kX ?kN ?kT ?kK ?kd ?ku ?_; (case kB => k_asm); (case kF => k_asm); (case kX => k_asm); (case kN => k_asm); (case kT => k_asm); (case kK => first | exact rfl | assumption); (case kd => ktr_room); (case ku => ktr_units); (case kz => first | assumption | exact pSigns_text _ _ | omega); k_whole); intro t9 h9 tk9 F9 N9; (try dsimp only); (try k_sweep); (try k_fold)))
local macro_rules | `(tactic| walk_at "call ref") => `(tactic| (k_here; (with_reducible show wpAny _ _ (call (Value.ref _) [Value.str _ _, Value.int _ _]) _ _ _); k_dflt (refine' c_fnv32 _ _ _ _ _ _ _ _ _ ?kz _ _ _ _ _ _ _ _ _ _ _ _ _ _ _ _ _ ?kB ?kF ?kX ?kN ?kT ?kK ?kd ?ku ?_; (case kB => k_asm); (case kF => k_asm); (case kX => k_asm); (case kN => k_asm); (case kT => k_asm); (case kK => first | exact rfl | assumption); (case kd => ktr_room); (case ku => ktr_units); (case kz => first | assumption | exact pSigns_text _ _ | omega); k_whole); intro t9 h9 tk9 F9 N9; (try dsimp only); (try k_sweep); (try k_fold)))
local macro_rules | `(tactic| walk_at "call ref") => `(tactic| (k_here; (with_reducible show wpAny _ _ (call (Value.ref _) [Value.str _ _]) _ _ _); k_dflt (refine' c_fnv_d _ _ _ _ _ _ _ ?kz _ _ _ _ _ _ _ _ _ _ _ _ _ _ _ _ _ ?kB ?kF ?kX ?kN ?kT ?kK ?kd ?ku ?_; (case kB => k_asm); (case kF => k_asm); (case kX => k_asm); (case kN => k_asm); (case kT => k_asm); (case kK => first | exact rfl | assumption); (case kd => ktr_room); (case ku => ktr_units); (case kz => first | assumption | exact pSigns_text _ _ | omega); k_whole); intro t9 h9 tk9 F9 N9; (try dsimp only); (try k_sweep); (try k_fold)))
local macro_rules | `(tactic| walk_at "call ref") => `(tactic| (k_here; (with_reducible show wpAny _ _ (call (Value.ref _) [Value.str _ _]) _ _ _); k_dflt (refine' c_fnv32_d _ _ _ _ _ _ _ ?kz _ _ _ _ _ _ _ _ _ _ _ _ _ _ _ _ _ ?kB ?kF ?kX ?kN ?kT ?kK ?kd ?ku ?_; (case kB => k_asm); (case kF => k_asm); (case kX => k_asm); (case kN => k_asm); (case kT => k_asm); (case kK => first | exact rfl | assumption); (case kd => ktr_room); (case ku => ktr_units); (case kz => first | assumption | exact pSigns_text _ _ | omega); k_whole); intro t9 h9 tk9 F9 N9; (try dsimp only); (try k_sweep); (try k_fold)))
local macro_rules | `(tactic| walk_at "call ref") => `(tactic| (k_here; (with_reducible show wpAny _ _ (call (Value.ref _) [Value.bytes _ _, Value.int _ _]) _ _ _); k_dflt (refine' c_fnvB _ _ _ _ _ _ _ _ _ ?kz _ _ _ _ _ _ _ _ _ _ _ _ _ _ _ _ _ ?kB ?kF ?kX ?kN ?kT ?kK ?kd ?ku ?_; (case kB => k_asm); (case kF => k_asm); (case kX => k_asm); (case kN => k_asm); (case kT => k_asm); (case kK => first | exact rfl | assumption); (case kd => ktr_room); (case ku => ktr_units); (case kz => first | assumption | exact pSigns_text _ _ | omega); k_whole); intro t9 h9 tk9 F9 N9; (try dsimp only); (try k_sweep); (try k_fold)))
local macro_rules | `(tactic| walk_at "call ref") => `(tactic| (k_here; (with_reducible show wpAny _ _ (call (Value.ref _) [Value.bytes _ _, Value.int _ _]) _ _ _); k_dflt (refine' c_fnv32B _ _ _ _ _ _ _ _ _ ?kz _ _ _ _ _ _ _ _ _ _ _ _ _ _ _ _ _ ?kB ?kF ?kX ?kN ?kT ?kK ?kd ?ku ?_; (case kB => k_asm); (case kF => k_asm); (case kX => k_asm); (case kN => k_asm); (case kT => k_asm); (case kK => first | exact rfl | assumption); (case kd => ktr_room); (case ku => ktr_units); (case kz => first | assumption | exact pSigns_text _ _ | omega); k_whole); intro t9 h9 tk9 F9 N9; (try dsimp only); (try k_sweep); (try k_fold)))
theorem c_hash (w : World) (mean : ExcName → Option Value) (mg mb : Str → Option Value) (news : List (Addr × Obj)) (key : Str) (t : Tok) (seed : Int) (u : Tok) (wide : Bool) (hk : key.cps.size ≤ sizeLine) :
    Ctr 6 w mean mg mb 37 [.str key t, .int seed u, .bool wide] news (fun h₀ L m s Q => CbRet h₀ L m news s Q (fun t' => .int (pHash (codes key) seed wide) t')) := by
  dsimp only [Ctr, CbRet]
  k_fill
  intros
  rename_i hret
  refine wpAny_call ?_
  (k_dflt (refine' code_def ?k1 ?k2 ?k3 ?k4 ?k5 ?kA ?kF ?kK ?k6 ?k7 ?k8 ?k9 ?kB ?_ ?c2 ?c3 ?c4 ?c5; (case kA => exact rfl); (case kF => exact rfl); (case kK => assumption); (case k1 => k_asm); (case k2 => k_asm); (case k3 => k_asm); (case k4 => k_asm); (case k5 => k_asm); (case k6 => k_is); (case k7 => k_is); (case k8 => ktr_room); (case k9 => first | exact BindsTo.of_eq rfl | exact binds_K (by k_in) rfl (by k_is) rfl rfl rfl); (case c5 => decide); (case kB => exact locs rfl); (case c2 => exact rfl); (case c3 => exact rfl); (case c4 => exact rfl); k_whole; intro g' L' h' FG' F' N' B' X' T'; (try dsimp only); (try k_lift B'); (try k_fold)))
  k_steps
  all_goals (rename Fr _ _ _ _ => kF'; rename News _ _ _ _ => kN')
  all_goals (refine cb_retI hret ?_ kF' kN'; subst_vars; with_unfolding_all rfl)
theorem c_hashB (w : World) (mean : ExcName → Option Value) (mg mb : Str → Option Value) (news : List (Addr × Obj)) (key : Array UInt8) (t : Tok) (seed : Int) (u : Tok) (wide : Bool) (hk : key.size ≤ sizeLine) :
    Ctr 6 w mean mg mb 37 [.bytes key t, .int seed u, .bool wide] news (fun h₀ L m s Q => CbRet h₀ L m news s Q (fun t' => .int (pHash (KBw.bInts key) seed wide) t')) := by
  dsimp only [Ctr, CbRet]
  k_fill
  intros
  rename_i hret
  refine wpAny_call ?_
  (k_dflt (refine' code_def ?k1 ?k2 ?k3 ?k4 ?k5 ?kA ?kF ?kK ?k6 ?k7 ?k8 ?k9 ?kB ?_ ?c2 ?c3 ?c4 ?c5; (case kA => exact rfl); (case kF => exact rfl); (case kK => assumption); (case k1 => k_asm); (case k2 => k_asm); (case k3 => k_asm); (case k4 => k_asm); (case k5 => k_asm); (case k6 => k_is); (case k7 => k_is); (case k8 => ktr_room); (case k9 => first | exact BindsTo.of_eq rfl | exact binds_K (by k_in) rfl (by k_is) rfl rfl rfl); (case c5 => decide); (case kB => exact locs rfl); (case c2 => exact rfl); (case c3 => exact rfl); (case c4 => exact rfl); k_whole; intro g' L' h' FG' F' N' B' X' T'; (try dsimp only); (try k_lift B'); (try k_fold)))
  k_steps
  all_goals (rename Fr _ _ _ _ => kF'; rename News _ _ _ _ => kN')
  all_goals (refine cb_retI hret ?_ kF' kN'; subst_vars; with_unfolding_all rfl)
end Mine

-- part B5
theorem Mine.off_B5 : True := by
  w_top off
  trivial
namespace Mine
/-- what chr takes -/
def SignsOk (ns : List Int) : Prop := ∀ n ∈ ns, 0 ≤ n ∧ n ≤ 1114111
theorem SignsOk.lo {ns : List Int} (h : SignsOk ns) {n : Int} (hn : n ∈ ns) : 0 ≤ n := (h n hn).1
theorem SignsOk.hi {ns : List Int} (h : SignsOk ns) {n : Int} (hn : n ∈ ns) : n ≤ 1114111 := (h n hn).2
@[irreducible] def pText (ns : List Int) : Str := ⟨(ns.map Int.toNat).toArray⟩

theorem pText_join (ns : List Int) : Txt.join (Str.ofString "") (ns.map fun a => (⟨#[a.toNat]⟩ : Str)) = pText ns := by
  have e : (ns.map fun a => (⟨#[a.toNat]⟩ : Str)) = signs (pText ns) := by
    unfold signs pText
    simp [List.map_map, Function.comp_def]
  have e2 : Str.ofString "" = (⟨#[]⟩ : Str) := by decide +kernel
  rw [e, e2]
  show Builtin.Str.glued _ _ = _
  rw [StrLaws.glued_eq_join, join_nil_signs]
local macro_rules | `(tactic| walk_at "call builtin:chr") => `(tactic| (k_here; (with_reducible show wpAny _ _ (call (Value.builtin _) [Value.int _ _]) _ _ _); (rename SignsOk _ => so'); refine chr_of_range (SignsOk.lo so' (by assumption)) (SignsOk.hi so' (by assumption)) ?_))

theorem c_text (w : World) (mean : ExcName → Option Value) (mg mb : Str → Option Value) (news : List (Addr × Obj)) (l : Addr) (vs : List Value) (ns : List Int) (n : Nat) (hi : IntsAre vs ns) (hb : SignsOk ns) (hl : ns.length ≤ 100) :
    Ctr 3 w mean mg mb 54 [.ref l] ((l, listOf vs.toArray n) :: news) (fun h₀ L m s Q => CbRet h₀ L m ((l, listOf vs.toArray n) :: news) s Q (fun t' => .str (pText ns) t')) := by
  dsimp only [Ctr, CbRet]
  k_fill
  intros
  rename_i hret
  refine wpAny_call ?_
  first | (k_dflt (refine' code_def ?k1 ?k2 ?k3 ?k4 ?k5 ?kA ?kF ?kK ?k6 ?k7 ?k8 ?k9 ?kB ?_ ?c2 ?c3 ?c4 ?c5; (case kA => exact rfl); (case kF => exact rfl); (case kK => assumption); (case k1 => k_asm); (case k2 => k_asm); (case k3 => k_asm); (case k4 => k_asm); (case k5 => k_asm); (case k6 => k_is); (case k7 => k_is); (case k8 => ktr_room); (case k9 => first | exact BindsTo.of_eq rfl | exact binds_K (by k_in) rfl (by k_is) rfl rfl rfl); (case c5 => decide); (case kB => exact locs rfl); (case c2 => exact rfl); (case c3 => exact rfl); (case c4 => exact rfl); k_whole; intro g' L' h' FG' F' N' B' X' T'; (try dsimp only); (try k_lift B'); (try k_fold))) | (k_dflt (refine' code_defC ?k1 ?k2 ?k3 ?k4 ?k5 ?kA ?kF ?kK ?k6 ?k7 ?k8 ?k9 ?kB ?kD ?_ ?c2 ?c3 ?c4; (case kA => exact rfl); (case kF => exact rfl); (case kK => assumption); (case k1 => k_asm); (case k2 => k_asm); (case k3 => k_asm); (case k4 => k_asm); (case k5 => k_asm); (case k6 => k_is); (case k7 => k_is); (case k8 => ktr_room); (case k9 => first | exact BindsTo.of_eq rfl | exact binds_K (by k_in) rfl (by k_is) rfl rfl rfl); (case kB => exact rfl); (case kD => decide +kernel); (case c2 => exact rfl); (case c3 => exact rfl); (case c4 => exact rfl); k_whole; intro g' L' h' tk' cells' FG' F' N' Y' B' X' T' l1; (try k_lt l1); k_cells Y'; (try simp only [List.cons_append, List.nil_append] at N'); (try dsimp only); (try k_lift B'); (try k_fold)))
  k_steps
  all_goals (rename Fr _ _ _ _ => kF'; rename News _ _ _ _ => kN')
  all_goals (refine cb_retS hret ?_ kF' (cb_drop kN' fun p hp => List.Mem.tail _ hp); exact pText_join ns)
end Mine

-- part B6
theorem Mine.off_B6 : True := by
  w_top off
  trivial
namespace Mine
theorem pow263 (k : Nat) : (263 : Int) ^ k ≠ 0 := Int.pow_ne_zero (by decide)
theorem pow263_small : ∀ {k : Nat}, k < 5 → ((263 : Int) ^ k).natAbs.log2 < 9000
  | 0, _ => by decide +kernel
  | 1, _ => by decide +kernel
  | 2, _ => by decide +kernel
  | 3, _ => by decide +kernel
  | 4, _ => by decide +kernel
  | _ + 5, h => absurd h (by omega)
local macro_rules | `(tactic| walk_at "binaryOp FloorDiv int int") => `(tactic| (k_here; (refine floordiv_int (pow263 _) ?_ (Or.inl (PyProof.noPylong_of_log2 (pow263_small (by omega)))))))
local macro_rules | `(tactic| walk_at "call ref") => `(tactic| (k_here; (with_reducible show wpAny _ _ (call (Value.ref _) [Value.int _ _, Value.bool _]) _ _ _); k_dflt (refine' c_sign _ _ _ _ _ _ _ _ _ _ _ _ _ _ _ _ _ _ _ _ _ _ _ _ _ ?kB ?kF ?kX ?kN ?kT ?kK ?kd ?ku ?_; (case kB => k_asm); (case kF => k_asm); (case kX => k_asm); (case kN => k_asm); (case kT => k_asm); (case kK => first | exact rfl | assumption); (case kd => ktr_room); (case ku => ktr_units); k_whole); intro t9 h9 tk9 F9 N9; (try dsimp only); (try k_sweep); (try k_fold)))
@[irreducible] def pSigns (n : Int) (narrow : Bool) : List Int := (rangeKs 0 (n.fmod 5 - 0).toNat).map fun k => pSign ((n.fdiv 5).fdiv (263 ^ k.toNat)) narrow

theorem c_signs (w : World) (mean : ExcName → Option Value) (mg mb : Str → Option Value) (news : List (Addr × Obj)) (key : Int) (t : Tok) (nar : Bool) :
    Ctr 6 w mean mg mb 49 [.int key t, .bool nar] news (fun h₀ L m s Q => ∀ (D : Addr) (vs : List Value) (h' : Heap) (tk' : Nat), Fr h₀ L h' m → News h₀ L h' ((D, listOf vs.toArray vs.length) :: news) → LCg.Off1 D news → IntsAre vs (pSigns key nar) →
      Q (.ref D) { s with heap := h', toks := tk' }) := by
  dsimp only [Ctr, CbRet]
  k_fill
  intros
  rename_i hret
  refine wpAny_call ?_
  first | (k_dflt (refine' code_def ?k1 ?k2 ?k3 ?k4 ?k5 ?kA ?kF ?kK ?k6 ?k7 ?k8 ?k9 ?kB ?_ ?c2 ?c3 ?c4 ?c5; (case kA => exact rfl); (case kF => exact rfl); (case kK => assumption); (case k1 => k_asm); (case k2 => k_asm); (case k3 => k_asm); (case k4 => k_asm); (case k5 => k_asm); (case k6 => k_is); (case k7 => k_is); (case k8 => ktr_room); (case k9 => first | exact BindsTo.of_eq rfl | exact binds_K (by k_in) rfl (by k_is) rfl rfl rfl); (case c5 => decide); (case kB => exact locs rfl); (case c2 => exact rfl); (case c3 => exact rfl); (case c4 => exact rfl); k_whole; intro g' L' h' FG' F' N' B' X' T'; (try dsimp only); (try k_lift B'); (try k_fold))) | (k_dflt (refine' code_defC ?k1 ?k2 ?k3 ?k4 ?k5 ?kA ?kF ?kK ?k6 ?k7 ?k8 ?k9 ?kB ?kD ?_ ?c2 ?c3 ?c4; (case kA => exact rfl); (case kF => exact rfl); (case kK => assumption); (case k1 => k_asm); (case k2 => k_asm); (case k3 => k_asm); (case k4 => k_asm); (case k5 => k_asm); (case k6 => k_is); (case k7 => k_is); (case k8 => ktr_room); (case k9 => first | exact BindsTo.of_eq rfl | exact binds_K (by k_in) rfl (by k_is) rfl rfl rfl); (case kB => exact rfl); (case kD => decide +kernel); (case c2 => exact rfl); (case c3 => exact rfl); (case c4 => exact rfl); k_whole; intro g' L' h' tk' cells' FG' F' N' Y' B' X' T' l1; (try k_lt l1); k_cells Y'; (try simp only [List.cons_append, List.nil_append] at N'); (try dsimp only); (try k_lift B'); (try k_fold)))
  k_steps
  all_goals (rename Fr _ _ _ _ => kF'; rename News _ _ _ _ => kN'; rename IntsAre _ _ => kI')
  all_goals (exact hret _ _ _ _ kF' (cb_drop kN' fun p hp => by
    rcases List.mem_cons.mp hp with rfl | hp
    · exact List.mem_cons_self ..
    · exact List.mem_cons_of_mem _ (List.mem_cons_of_mem _ (List.mem_cons_of_mem _ hp))) (by first | assumption | (rename _ ∧ _ => ho; exact ho.2.2) | simp_all) (by unfold pSigns; exact kI'))
end Mine

-- part MA
theorem Mine.off_MA : True := by
  w_top off
  trivial
namespace Mine
theorem nat_xor_add : ∀ (n a b : Nat), a ≤ n → (a ^^^ b) + 2 * (a &&& b) = a + b := by
  intro n
  induction n using Nat.strongRecOn with
  | _ n ih =>
    intro a b ha
    by_cases h0 : a = 0
    · subst h0; simp
    · have h1 := ih (n / 2) (by omega) (a / 2) (b / 2) (by omega)
      have x1 : (a ^^^ b) / 2 = a / 2 ^^^ b / 2 := Nat.xor_div_two
      have x2 : (a &&& b) / 2 = a / 2 &&& b / 2 := Nat.and_div_two
      have x3 := @Nat.and_mod_two_eq_one a b
      have x4 := @Nat.xor_mod_two_eq_one a b
      rw [← x1, ← x2] at h1
      have m1 : (a &&& b) % 2 = 0 ∨ (a &&& b) % 2 = 1 := by omega
      have m2 : (a ^^^ b) % 2 = 0 ∨ (a ^^^ b) % 2 = 1 := by omega
      omega
theorem xor_nat {x y : Int} (hx : 0 ≤ x) (hy : 0 ≤ y) : Builtin.bitXor x y = ((x.toNat ^^^ y.toNat : Nat) : Int) := by
  rw [bitXor_and, bitAnd_pp hx hy]
  have := nat_xor_add x.toNat x.toNat y.toNat (Nat.le_refl _)
  omega
theorem xor_lo {x y : Int} (hx : 0 ≤ x) (hy : 0 ≤ y) : 0 ≤ Builtin.bitXor x y := by rw [xor_nat hx hy]; omega
theorem xor_back {x y : Int} (hx : 0 ≤ x) (hy : 0 ≤ y) : Builtin.bitXor (Builtin.bitXor x y) y = x := by
  rw [xor_nat (xor_lo hx hy) hy, xor_nat hx hy]
  have : ((x.toNat ^^^ y.toNat : Nat) : Int).toNat = x.toNat ^^^ y.toNat := by omega
  rw [this, Nat.xor_assoc, Nat.xor_self, Nat.xor_zero]
  omega
theorem xor_comm {x y : Int} : Builtin.bitXor x y = Builtin.bitXor y x := by rw [bitXor_and, bitXor_and, bitAnd_comm]; omega
theorem xor_hi {x y : Int} (k : Nat) (hx : 0 ≤ x) (hy : 0 ≤ y) (hx' : x < 2 ^ k) (hy' : y < 2 ^ k) : Builtin.bitXor x y < 2 ^ k := by
  rw [xor_nat hx hy]
  have c := kbt_cast k
  have h1 : x.toNat < 2 ^ k := by omega
  have h2 : y.toNat < 2 ^ k := by omega
  have := Nat.xor_lt_two_pow h1 h2
  omega
theorem and_mask (x : Int) (wide : Bool) : Builtin.bitAnd x (pMask wide) = x % pSize wide := by
  unfold pMask pSize
  cases wide
  · exact kbt_mask x 32
  · exact kbt_mask x 64
abbrev Within (wide : Bool) (x : Int) : Prop := 0 ≤ x ∧ x < pSize wide
theorem pSize_pos (wide : Bool) : 0 < pSize wide := by unfold pSize; cases wide <;> decide
theorem within_mod (wide : Bool) (x : Int) : Within wide (x % pSize wide) := ⟨Int.emod_nonneg _ (by have := pSize_pos wide; omega), Int.emod_lt_of_pos _ (pSize_pos wide)⟩
theorem fmod_size (wide : Bool) (x : Int) : x.fmod (pSize wide) = x % pSize wide := Int.fmod_eq_emod_of_nonneg _ (by have := pSize_pos wide; omega)
theorem within_of_small {wide : Bool} {x : Int} (h0 : 0 ≤ x) (h1 : x ≤ 1114111) : Within wide x := ⟨h0, by unfold pSize; cases wide <;> simp <;> omega⟩
theorem xor_within {wide : Bool} {x y : Int} (hx : Within wide x) (hy : Within wide y) : Within wide (Builtin.bitXor x y) := by
  refine ⟨xor_lo hx.1 hy.1, ?_⟩
  have h1 := hx.2
  have h2 := hy.2
  revert h1 h2
  unfold pSize
  cases wide
  · exact xor_hi 32 hx.1 hy.1
  · exact xor_hi 64 hx.1 hy.1
theorem inv_mod {wide : Bool} (x : Int) : (x * pPrime wide % pSize wide * pBack wide) % pSize wide = x % pSize wide := by
  unfold pPrime pSize pBack
  cases wide <;> simp only [if_true, Bool.false_eq_true, if_false] <;> omega
theorem inv_mod' {wide : Bool} (x : Int) : (x * pBack wide % pSize wide * pPrime wide) % pSize wide = x % pSize wide := by
  unfold pPrime pSize pBack
  cases wide <;> simp only [if_true, Bool.false_eq_true, if_false] <;> omega
theorem within_self {wide : Bool} {x : Int} (h : Within wide x) : x % pSize wide = x := Int.emod_eq_of_lt h.1 h.2
theorem step_within (wide : Bool) (h t : Int) : Within wide (pStep wide h t) := by unfold pStep; rw [and_mask]; exact within_mod _ _
theorem back_within {wide : Bool} {v t : Int} (ht : Within wide t) : Within wide (pBackStep wide v t) := by unfold pBackStep; rw [fmod_size]; exact xor_within (within_mod _ _) ht
theorem step_back {wide : Bool} {v t : Int} (hv : Within wide v) (ht : Within wide t) : pStep wide (pBackStep wide v t) t = v := by
  unfold pStep pBackStep
  rw [and_mask, fmod_size, xor_back (within_mod _ _).1 ht.1, inv_mod', within_self hv]
theorem step_xor {wide : Bool} {a b t u : Int} (ha : Within wide a) (hb : Within wide b) (ht : Within wide t) (hu : Within wide u) (e : pStep wide a t = pStep wide b u) : Builtin.bitXor a t = Builtin.bitXor b u := by
  unfold pStep at e
  rw [and_mask, and_mask] at e
  have e2 := congrArg (fun z => (z * pBack wide) % pSize wide) e
  simp only [inv_mod] at e2
  rwa [within_self (xor_within ha ht), within_self (xor_within hb hu)] at e2
theorem step_inj {wide : Bool} {a b t : Int} (ha : Within wide a) (hb : Within wide b) (ht : Within wide t) (e : pStep wide a t = pStep wide b t) : a = b := by
  have h := step_xor ha hb ht ht e
  rw [← xor_back ha.1 ht.1, h, xor_back hb.1 ht.1]
theorem step_inj_r {wide : Bool} {a t u : Int} (ha : Within wide a) (ht : Within wide t) (hu : Within wide u) (e : pStep wide a t = pStep wide a u) : t = u := by
  have h := step_xor ha ha ht hu e
  rw [← xor_back ht.1 ha.1, xor_comm, xor_comm (x := t), h, xor_comm (x := a), xor_comm (x := a), xor_back hu.1 ha.1]
theorem begin_within (seed : Int) (wide : Bool) : Within wide (pBegin seed wide) := by unfold pBegin; rw [and_mask]; exact within_mod _ _
theorem fold_within (wide : Bool) : ∀ (ts : List Int) (h : Int), Within wide h → Within wide (ts.foldl (pStep wide) h)
  | [], _, hh => hh
  | t :: ts, h, _ => fold_within wide ts _ (step_within wide h t)
theorem fold_inj {wide : Bool} : ∀ (ts : List Int) (a b : Int), (∀ t ∈ ts, Within wide t) → Within wide a → Within wide b → ts.foldl (pStep wide) a = ts.foldl (pStep wide) b → a = b
  | [], _, _, _, _, _, e => e
  | t :: ts, a, b, hs, ha, hb, e => step_inj ha hb (hs t (List.mem_cons_self ..)) (fold_inj ts _ _ (fun u hu => hs u (List.mem_cons_of_mem _ hu)) (step_within ..) (step_within ..) e)
theorem backF_cons (t : Int) (ts : List Int) (v : Int) (wide : Bool) : pBackF (t :: ts) v wide = pBackStep wide (pBackF ts v wide) t := by
  unfold pBackF
  rw [List.reverse_cons, List.foldl_append]
  rfl
theorem backF_nil (v : Int) (wide : Bool) : pBackF [] v wide = v := by unfold pBackF; rfl
theorem backF_within {wide : Bool} {v : Int} (hv : Within wide v) : ∀ (ts : List Int), (∀ t ∈ ts, Within wide t) → Within wide (pBackF ts v wide)
  | [], _ => by rw [backF_nil]; exact hv
  | t :: ts, hs => by rw [backF_cons]; exact back_within (hs t (List.mem_cons_self ..))
theorem fold_back {wide : Bool} {v : Int} (hv : Within wide v) : ∀ (ts : List Int), (∀ t ∈ ts, Within wide t) → ts.foldl (pStep wide) (pBackF ts v wide) = v
  | [], _ => by rw [backF_nil]; rfl
  | t :: ts, hs => by
    have hs' : ∀ u ∈ ts, Within wide u := fun u hu => hs u (List.mem_cons_of_mem _ hu)
    rw [backF_cons, List.foldl_cons, step_back (backF_within hv ts hs') (hs t (List.mem_cons_self ..))]
    exact fold_back hv ts hs'
theorem begin_seed {wide : Bool} {b : Int} (hb : Within wide b) : pBegin (pSeed b wide) wide = b := by
  unfold pBegin
  rw [and_mask]
  obtain ⟨h0, h1⟩ := hb
  revert h0 h1
  unfold pSeed pSize pOff
  cases wide <;> simp only [if_true, Bool.false_eq_true, if_false, Int.fmod_eq_emod_of_nonneg _ (show (0 : Int) ≤ 4294967296 by decide), Int.fmod_eq_emod_of_nonneg _ (show (0 : Int) ≤ 18446744073709551616 by decide)] <;> omega
theorem begin_shift (s x : Int) (wide : Bool) : pBegin (s + pSize wide * x) wide = pBegin s wide := by
  unfold pBegin
  rw [and_mask, and_mask]
  unfold pSize pOff
  cases wide <;> simp only [if_true, Bool.false_eq_true, if_false] <;> omega
theorem begin_off (s d : Int) (wide : Bool) (h0 : 0 ≤ d) (h1 : d < pSize wide - 1) (e : pBegin (s + 1 + d) wide = pBegin s wide) : False := by
  unfold pBegin at e
  rw [and_mask, and_mask] at e
  revert h1 e
  unfold pSize pOff
  cases wide <;> simp only [if_true, Bool.false_eq_true, if_false] <;> omega
theorem codes_pText {ns : List Int} (h : ∀ n ∈ ns, 0 ≤ n) : codes (pText ns) = ns := by
  unfold pText
  simp only [codes, List.map_map]
  refine (List.map_congr_left (g := id) fun n hn => ?_).trans (List.map_id _)
  have := h n hn
  show ((n.toNat : Nat) : Int) = n
  omega
theorem codes_app (x y : Str) : codes (x ++ y) = codes x ++ codes y := by
  show List.map _ (x.cps ++ y.cps).toList = _
  simp [codes]
theorem within_of_ok {ns : List Int} (wide : Bool) (h : SignsOk ns) : ∀ t ∈ ns, Within wide t := fun t ht => within_of_small (h t ht).1 (h t ht).2
theorem hash_app (xs ys : List Int) (seed : Int) (wide : Bool) : pHash (xs ++ ys) seed wide = ys.foldl (pStep wide) (pHash xs seed wide) := by unfold pHash; rw [List.foldl_append]
theorem hash_within (ts : List Int) (seed : Int) (wide : Bool) : Within wide (pHash ts seed wide) := by unfold pHash; exact fold_within wide ts _ (begin_within seed wide)
theorem hash_seed {ts : List Int} {b : Int} {wide : Bool} (hb : Within wide b) : pHash ts (pSeed b wide) wide = ts.foldl (pStep wide) b := by unfold pHash; rw [begin_seed hb]
theorem hash_goal {ns : List Int} {value : Int} {wide : Bool} (hok : SignsOk ns) : pHash ns (pSeed (pBackF ns (value.fmod (pSize wide)) wide) wide) wide = value.fmod (pSize wide) := by
  rw [fmod_size, hash_seed (backF_within (within_mod ..) ns (within_of_ok wide hok)), fold_back (within_mod ..) ns (within_of_ok wide hok)]
theorem codes_ok {ns : List Int} (h : SignsOk ns) : codes (pText ns) = ns := codes_pText fun n hn => (h n hn).1
theorem end1 {ns : List Int} {value off s : Int} {wide : Bool} (h : ¬ (List.map (fun k' => pHash (codes (pText ns)) (s + pSize wide * off * k') wide) [0, 1, -1] = (List.replicate (Int.toNat 3) [value.fmod (pSize wide)]).flatten))
    (hs : s = pSeed (pBackF ns (value.fmod (pSize wide)) wide) wide) (hok : SignsOk ns) : False := by
  have e : ∀ k' : Int, pHash (codes (pText ns)) (s + pSize wide * off * k') wide = value.fmod (pSize wide) := by
    intro k'
    rw [codes_ok hok, Int.mul_assoc]
    have : pHash ns (s + pSize wide * (off * k')) wide = pHash ns s wide := by unfold pHash; rw [begin_shift]
    rw [this, hs, hash_goal hok]
  refine h ?_
  simp only [e]
  rfl
theorem end2 {ns : List Int} {value off s : Int} {wide : Bool} (h : pHash (codes (pText ns)) (s + 1 + off.fmod (pSize wide - 1)) wide = value.fmod (pSize wide))
    (hs : s = pSeed (pBackF ns (value.fmod (pSize wide)) wide) wide) (hok : SignsOk ns) : False := by
  have g := hash_goal (ns := ns) (value := value) (wide := wide) hok
  rw [← hs] at g
  rw [codes_ok hok, ← g] at h
  have p : 0 < pSize wide - 1 := by unfold pSize; cases wide <;> decide
  have f : off.fmod (pSize wide - 1) = off % (pSize wide - 1) := Int.fmod_eq_emod_of_nonneg _ (by omega)
  unfold pHash at h
  refine begin_off s (off.fmod (pSize wide - 1)) wide ?_ ?_ (fold_inj ns _ _ (within_of_ok wide hok) (begin_within ..) (begin_within ..) h)
  · rw [f]; exact Int.emod_nonneg _ (by omega)
  · rw [f]; exact Int.emod_lt_of_pos _ p
theorem end3 {ns nc : List Int} {value s : Int} {wide : Bool} (h : pHash (codes (pText ns ++ pText nc)) s wide ≠ pHash (codes (pText nc)) (pSeed (value.fmod (pSize wide)) wide) wide)
    (hs : s = pSeed (pBackF ns (value.fmod (pSize wide)) wide) wide) (hok : SignsOk ns) : False := by
  refine h ?_
  rw [codes_app, hash_app, codes_ok hok, hs, hash_goal hok, hash_seed (by rw [fmod_size]; exact within_mod _ _)]
theorem hash_lo (ts : List Int) (seed : Int) (wide : Bool) : 0 ≤ pHash ts seed wide := (hash_within ts seed wide).1
theorem hash_hi (ts : List Int) (seed : Int) (wide : Bool) : pHash ts seed wide < pSize wide := (hash_within ts seed wide).2
theorem codes_len (ss : List Int) : ((pText ss).length : Int) = (ss.length : Int) := by unfold pText Str.length; simp
theorem slice_to {x : Str} {k : Nat} (hk : k ≤ x.length) : codes (Txt.slice x none (some (k : Int))) = (codes x).take k := by
  have e := beq_iff_eq.mp (slice_closes_toL (x := x) (j := (k : Int)) (by omega) (by omega))
  rw [e]
  simp [codes, List.map_take]
theorem slice_from {x : Str} {i : Int} {k : Nat} (e : i = (k : Int)) (hk : k ≤ x.length) : codes (Txt.slice x (some i) none) = (codes x).drop k := by
  subst e
  rw [slice_from_eq (x := x) (i := (k : Int)) (b := (x.length : Int)) (by omega) (by omega) rfl]
  have l : (codes x).length = x.length := by simp [codes, Str.length]
  have t : ((x.length : Int) - (k : Int)).toNat = ((codes x).drop k).length := by rw [List.length_drop, l]; omega
  show List.map _ (List.toArray _).toList = _
  rw [List.toList_toArray, List.map_take, List.map_drop, Int.toNat_natCast, t, List.take_length]
theorem end4 {ss : List Int} {seed : Int} {wide : Bool} {k : Nat} (h : pHash (codes (Txt.slice (pText ss) (some (k : Int)) none)) (pSeed (pHash (codes (Txt.slice (pText ss) none (some (k : Int)))) seed wide) wide) wide ≠ pHash (codes (pText ss)) seed wide) (hk : k ≤ ss.length) : False := by
  have hk' : k ≤ (pText ss).length := by have := codes_len ss; omega
  refine h ?_
  rw [hash_seed (hash_within ..), slice_to hk', slice_from rfl hk', ← hash_app, List.take_append_drop]
theorem end5 {ss : List Int} {seed turn : Int} {wide : Bool} {k : Nat} (h : pHash (codes (Txt.slice (pText ss) none (some (k : Int)) ++ (⟨#[((ss.getD (k : Int).toNat 0 + 1 + turn).fmod 55296).toNat]⟩ : Str) ++ Txt.slice (pText ss) (some ((k : Int) + 1)) none)) seed wide = pHash (codes (pText ss)) seed wide)
    (hne : (ss.getD (k : Int).toNat 0 + 1 + turn).fmod 55296 ≠ ss.getD (k : Int).toNat 0) (hk : k < ss.length) (hok : SignsOk ss) : False := by
  have hl := codes_len ss
  rw [codes_app, codes_app, slice_to (by omega), slice_from (k := k + 1) (by omega) (by omega), codes_ok hok] at h
  rw [Int.toNat_natCast] at hne h
  have hm : ss.getD k 0 ∈ ss := by
    rw [List.getD_eq_getElem?_getD, List.getElem?_eq_getElem hk]
    exact List.getElem_mem hk
  have hg : ss = ss.take k ++ ([ss.getD k 0] ++ ss.drop (k + 1)) := by
    rw [List.getD_eq_getElem?_getD, List.getElem?_eq_getElem hk]
    show ss = ss.take k ++ (ss[k] :: ss.drop (k + 1))
    rw [← List.drop_eq_getElem_cons hk, List.take_append_drop]
  generalize ss.getD k 0 = d at h hne hm hg
  have f : (d + 1 + turn).fmod 55296 = (d + 1 + turn) % 55296 := Int.fmod_eq_emod_of_nonneg _ (by decide)
  rw [f] at h hne
  have c : codes (⟨#[((d + 1 + turn) % 55296).toNat]⟩ : Str) = [(d + 1 + turn) % 55296] := by
    show [((((d + 1 + turn) % 55296).toNat : Nat) : Int)] = _
    congr 1
    omega
  rw [c, List.append_assoc, hash_app] at h
  have h2 : pHash ss seed wide = ([d] ++ ss.drop (k + 1)).foldl (pStep wide) (pHash (ss.take k) seed wide) := by rw [← hash_app, ← hg]
  rw [h2, List.foldl_append, List.foldl_append] at h
  have h3 := fold_inj _ _ _ (fun t ht => within_of_ok wide hok t (List.mem_of_mem_drop ht)) (by exact step_within ..) (by exact step_within ..) h
  exact hne (step_inj_r (hash_within ..) (within_of_small (by omega) (by omega)) (within_of_ok wide hok d hm) h3)
theorem end6 {ss : List Int} {seed : Int} {wide : Bool} (h : KBa.In ss) : pHash (KBw.bInts (byteArr ss)) seed wide = pHash (codes (pText ss)) seed wide := by
  rw [KBa.ints_make h, codes_pText fun n hn => (h n hn).1]
end Mine

-- part B7c
theorem Mine.off_B7c : True := by
  w_top off
  trivial
namespace Mine
theorem pText_length (ns : List Int) : (pText ns).length = ns.length := by unfold pText Str.length; simp
theorem one_length (c : Nat) : (⟨#[c]⟩ : Str).length = 1 := rfl
theorem news_cons {h₀ h : Heap} {L : Addr} {news : List (Addr × Obj)} {p : Addr × Obj} (N : News h₀ L h news) (hp : p ∈ news) : News h₀ L h (p :: news) := fun q hq => by
  rcases List.mem_cons.mp hq with rfl | hq
  · exact N _ hp
  · exact N _ hq
theorem c_backM (w : World) (mean : ExcName → Option Value) (mg mb : Str → Option Value) (news : List (Addr × Obj)) (l : Addr) (vs : List Value) (ns : List Int) (n : Nat) (v : Int) (t : Tok) (wide : Bool) (hl : (l, listOf vs.toArray n) ∈ news) (hi : IntsAre vs ns) :
    Ctr 3 w mean mg mb 61 [.ref l, .int v t, .bool wide] news (fun h₀ L m s Q => CbRet h₀ L m news s Q (fun t' => .int (pBackF ns v wide) t')) :=
  fun dp un gd cn cs a ccd cl outer A₀ base h₀ L m s Q E B F X N T k d u r => c_back w mean mg mb news l vs ns n hi v t wide dp un gd cn cs a ccd cl outer A₀ base h₀ L m s Q E B F X (news_cons N hl) T k d u
    fun t h' tk' F' N' => r t h' tk' F' (cb_drop N' fun _ hp => List.mem_cons_of_mem _ hp)
theorem c_textM (w : World) (mean : ExcName → Option Value) (mg mb : Str → Option Value) (news : List (Addr × Obj)) (l : Addr) (vs : List Value) (ns : List Int) (n : Nat) (hl : (l, listOf vs.toArray n) ∈ news) (hi : IntsAre vs ns) (hb : SignsOk ns) (hz : ns.length ≤ 100) :
    Ctr 3 w mean mg mb 54 [.ref l] news (fun h₀ L m s Q => CbRet h₀ L m news s Q (fun t' => .str (pText ns) t')) :=
  fun dp un gd cn cs a ccd cl outer A₀ base h₀ L m s Q E B F X N T k d u r => c_text w mean mg mb news l vs ns n hi hb hz dp un gd cn cs a ccd cl outer A₀ base h₀ L m s Q E B F X (news_cons N hl) T k d u
    fun t h' tk' F' N' => r t h' tk' F' (cb_drop N' fun _ hp => List.mem_cons_of_mem _ hp)
/-- two facts that arithmetic is not to see -/
def Apart (P : Prop) : Prop := P
theorem Apart.mk {P : Prop} (h : P) : Apart P := h
theorem Apart.out {P : Prop} (h : Apart P) : P := h
def NeN (a b : Nat) : Prop := a ≠ b
theorem nen_eq (a b : Nat) : (a ≠ b) = NeN a b := rfl
theorem NeN.out {a b : Nat} (h : NeN a b) : a ≠ b := h
theorem NeN.symm {a b : Nat} (h : NeN b a) : a ≠ b := fun e => h e.symm
/-- a place where the walk stands still -/
def Hold (P : Prop) : Prop := P
theorem Hold.out {P : Prop} (h : Hold P) : P := h
theorem pSize_ne (wide : Bool) : pSize wide ≠ 0 := by unfold pSize; cases wide <;> decide
theorem pSize1_ne (wide : Bool) : pSize wide - 1 ≠ 0 := by unfold pSize; cases wide <;> decide
theorem pSize_bits (wide : Bool) : Builtin.Int.intBits (pSize wide) ≤ 2 ^ 20 := by unfold pSize; cases wide <;> decide +kernel
/-- a cut: what comes behind is not in sight while the tree is walked -/
theorem cut_int {M : Model} {A : Around} {tr : Sem Value} {n : Int} {Q : Value → Shared → Prop} {E : Value → Shared → Prop} {s : Shared}
    (h : ∀ Q' : Value → Shared → Prop, (∀ t tk', Q' (.int n t) { s with toks := tk' }) → wpAny M A tr Q' E s) (k : ∀ t tk', Q (.int n t) { s with toks := tk' }) : wpAny M A tr Q E s := h Q k
theorem cut_use {n n' : Int} {t : Tok} {tk' : Nat} {Q' : Value → Shared → Prop} {s : Shared} (h : ∀ t tk', Q' (.int n t) { s with toks := tk' }) (e : n' = n) : Q' (.int n' t) { s with toks := tk' } := e ▸ h t tk'
/-- asks the walk to stand still at the next conditional expression -/
structure IfMark : Prop where
  one : True
structure ForMark : Prop where
  one : True
theorem mul_three {a k : Int} (h : k ∈ [(0 : Int), 1, -1]) : IntMulOk a k := by
  refine IntMulOk.of_right ?_
  simp only [List.mem_cons, List.not_mem_nil, or_false] at h
  rcases h with rfl | rfl | rfl <;> decide +kernel
theorem fr_kst {h₀ h : Heap} {L : Addr} {m : Str → Option Value} {ps : List (Str × Value)} (F : Fr h₀ L h m) (hp : ∀ p ∈ ps, m p.1 = some p.2) : Fr h₀ L h (kstB m ps) := by
  have e : kstB m ps = m := funext fun z => kstB_eq hp fun _ => rfl
  rw [e]; exact F
theorem allObj_mono : ∀ {ws : List (Addr × String)} {k k' : List (Addr × Obj) → Prop}, (∀ its, k its → k' its) → AllObj ws k → AllObj ws k'
  | [], _, _, h, x => h _ x
  | _ :: _, _, _, h, x => fun o ho => allObj_mono (fun its hk => h _ hk) (x o ho)
/-- a loop over written values whose turns keep a word -/
theorem items_inv {prog : Program} {w : World} {A : Around} {E : Value → Shared → Prop} {s : Shared} {env : Env} {h₀ : Heap} {target : Expr} {body : List Stmt} {Q : Flow → Shared → Prop} {ws : List (Addr × String)} {keep : List (Addr × Obj)}
    (J : (Str → Option Value) → List (Addr × Obj) → Prop) (all : List Value)
    (turn : ∀ v ∈ all, ∀ m news h tk, J m news → Fr h₀ env.locals h m → AllObj ws (fun its => News h₀ env.locals h (its ++ news) →
      wpAny (model prog w) A (assign target env v) (fun _ s₂ => wpAny (model prog w) A (execs body env) (UnrPostW h₀ env.locals { s with heap := h, toks := tk } its (fun m' n' => SubL keep n' ∧ J m' n') Q) E s₂) E { s with heap := h, toks := tk }))
    (done : ∀ m news h tk, J m news → Fr h₀ env.locals h m → News h₀ env.locals h news → Q .next { s with heap := h, toks := tk }) :
    ∀ (xs : List Value), (∀ v ∈ xs, v ∈ all) → ∀ m news, J m news → ItemsRest prog w A E h₀ env target body Q s ws keep (xs.map Itm.val) m news
  | [], _, m, news, hJ => fun h tk F N => done m news h tk hJ F N
  | x :: xs, hs, m, news, hJ => ItemsRest.val fun h tk F => allObj_mono (fun its hk N => wpAny_mono (hk N) (fun _ s₂ h₂ => wpAny_mono h₂ (fun f s₃ p => by
      have fin : UnrEndW h₀ env.locals { s with heap := h, toks := tk } its (fun m' n' => SubL keep n' ∧ J m' n') s₃ →
          UnrEndW h₀ env.locals { s with heap := h, toks := tk } its (fun m' n' => SubL keep n' ∧ ItemsRest prog w A E h₀ env target body Q s ws keep (xs.map Itm.val) m' n') s₃ := by
        rintro ⟨h', tk', m', news', e, F', N', o, hk', r⟩
        exact ⟨h', tk', m', news', e, F', N', o, hk', items_inv J all turn done xs (fun v hv => hs v (List.mem_cons_of_mem _ hv)) m' news' r⟩
      cases f with
      | ret v => exact p
      | brk => exact p
      | next => exact fin p
      | cont => exact fin p) fun _ _ e => e) fun _ _ e => e) (turn x (hs x (List.mem_cons_self ..)) m news h tk hJ F)
theorem SignsOk.app {x y : List Int} (hx : SignsOk x) (hy : SignsOk y) : SignsOk (x ++ y) := fun n hn => (List.mem_append.mp hn).elim (hx n) (hy n)
/-- the word of the loop over k: the map stands, the two cells it stores hold anything -/
def JB (m₀ : Str → Option Value) (mk : Obj → Obj → List (Addr × Obj)) (m : Str → Option Value) (news : List (Addr × Obj)) : Prop := m = m₀ ∧ ∃ oT oK vT vK, (∀ p ∈ mk oT oK, p ∈ news) ∧ oT.data = Data.cell vT ∧ oK.data = Data.cell vK
theorem JB.mk' {m₀ : Str → Option Value} {mk : Obj → Obj → List (Addr × Obj)} {m : Str → Option Value} {news : List (Addr × Obj)} {oT oK : Obj} {vT vK : Option Value} (e : m = m₀) (h : ∀ p ∈ mk oT oK, p ∈ news) (a : oT.data = Data.cell vT) (b : oK.data = Data.cell vK) : JB m₀ mk m news := ⟨e, oT, oK, vT, vK, h, a, b⟩
theorem cons_sub {its l l' : List (Addr × Obj)} (h : ∀ p ∈ l, p ∈ l') : ∀ p ∈ its ++ l, p ∈ its ++ l' := fun p hp => by
  rcases List.mem_append.mp hp with hp | hp
  · exact List.mem_append.mpr (.inl hp)
  · exact List.mem_append.mpr (.inr (h p hp))
theorem bytes_in {ss : List Int} {M : Int} (hok : SignsOk ss) (hm : ∀ a ∈ ss ++ [0], a ≤ M) (h : ¬ 255 < M) : KBa.In ss := fun n hn => ⟨(hok n hn).1, by have := hm n (List.mem_append.mpr (.inl hn)); omega⟩
theorem q_true {Q : Flow → Shared → Prop} {p : Prop} [Decidable p] {s : Shared} (hp : p) (h : Q (.ret (.bool true)) s) : Q (.ret (.bool (decide p))) s := by rw [decide_eq_true hp]; exact h
theorem q_beq {Q : Flow → Shared → Prop} {x y : Int} {s : Shared} (hp : x = y) (h : Q (.ret (.bool true)) s) : Q (.ret (.bool (x == y))) s := by subst hp; rw [beq_self_eq_true]; exact h
theorem keep_one {x y : Str} {m₀ u : Str → Option Value} {v : Option Value} {w : Option Value} : ∀ z, z ≠ x → [y].contains z = false → (fun z => if z = y then v else if z = x then w else if [y].contains z then u z else m₀ z) z = m₀ z := by
  intro z h1 h2
  have h3 : z ≠ y := by intro e; subst e; simp at h2
  simp only [if_neg h1, if_neg h3, h2, Bool.false_eq_true, if_false]
/-- the statements and the names of the def at place i of the program's top -/
noncomputable def bodyAt (i : Nat) : List Stmt := match PySem.Challenge.pw_aw0019_01.main.body[i]? with
  | some (Stmt.FunctionDef _ _ b _ _ _ _ _ _ _) => b
  | _ => []
noncomputable def scopeH : Scope := match PySem.Challenge.pw_aw0019_01.main.body[12]? with
  | some (Stmt.FunctionDef _ _ _ _ _ _ s _ _ _) => s
  | _ => { kind := .function, names := [], isGenerator := false, isCoroutine := false }
theorem pSigns_len (n : Int) (nar : Bool) : (pSigns n nar).length < 5 := by
  unfold pSigns
  rw [List.length_map, rangeKs_length, Int.sub_zero, Int.fmod_eq_emod_of_nonneg _ (by decide)]
  omega
theorem pSigns_le (n : Int) (nar : Bool) : (pSigns n nar).length ≤ 100 := by have := pSigns_len n nar; omega
theorem pSign_ok (n : Int) (nar : Bool) : 0 ≤ pSign n nar ∧ pSign n nar ≤ 1114111 := by
  unfold pSign
  rw [Int.fmod_eq_emod_of_nonneg _ (by decide), Int.fmod_eq_emod_of_nonneg _ (by decide)]
  split
  · omega
  · split <;> omega
theorem pSigns_ok (n : Int) (nar : Bool) : SignsOk (pSigns n nar) := by
  intro x hx
  unfold pSigns at hx
  obtain ⟨k, _, rfl⟩ := List.mem_map.mp hx
  exact pSign_ok _ _
theorem pSigns_text (n : Int) (nar : Bool) : (pText (pSigns n nar)).cps.size ≤ sizeLine := by
  show Str.length _ ≤ _
  rw [pText_length, PySem.sizeLine_eq]
  have := pSigns_len n nar
  omega
theorem pre_bits {ns : List Int} (hL : (PyData.list (ns.map .int)).layable0 = true) (k : Nat) : Builtin.Int.intBits ((List.take 7 ns ++ [1112, 78, 12, -5, 9, 3, 7]).getD k 0) ≤ 2 ^ 20 := by
  have key : ∀ x ∈ List.take 7 ns ++ [1112, 78, 12, -5, 9, 3, 7], Builtin.Int.intBits x ≤ 2 ^ 20 := by
    intro x hx
    rcases List.mem_append.mp hx with h | h
    · exact PyData.bits_item_of_ints hL (List.mem_of_mem_take h)
    · simp only [List.mem_cons, List.not_mem_nil, or_false] at h
      rcases h with rfl | rfl | rfl | rfl | rfl | rfl | rfl <;> decide +kernel
  rw [List.getD_eq_getElem?_getD]
  rcases h : (List.take 7 ns ++ [1112, 78, 12, -5, 9, 3, 7])[k]? with _ | x
  · decide +kernel
  · exact key x (List.mem_of_getElem? h)
theorem turn_lo (x : Int) : 0 ≤ x.fmod 55296 := by rw [Int.fmod_eq_emod_of_nonneg _ (by decide)]; omega
theorem turn_hi (x : Int) : x.fmod 55296 < 55296 := by rw [Int.fmod_eq_emod_of_nonneg _ (by decide)]; omega
end Mine

-- part SA
theorem Mine.off_SA : True := by
  w_top off
  trivial
namespace Mine
local macro_rules | `(tactic| walk_at "call ref") => `(tactic| (k_here; (with_reducible show wpAny _ _ (call (Value.ref _) [Value.int _ _, Value.bool _]) _ _ _); k_dflt (refine' c_seed _ _ _ _ _ _ _ _ _ _ _ _ _ _ _ _ _ _ _ _ _ _ _ _ _ ?kB ?kF ?kX ?kN ?kT ?kK ?kd ?ku ?_; (case kB => k_asm); (case kF => k_asm); (case kX => k_asm); (case kN => k_asm); (case kT => k_asm); (case kK => first | exact rfl | assumption); (case kd => ktr_room); (case ku => ktr_units); k_whole); intro t9 h9 tk9 F9 N9; (try dsimp only); (try k_sweep); (try k_fold)))
local macro_rules | `(tactic| walk_at "call ref") => `(tactic| (k_here; (with_reducible show wpAny _ _ (call (Value.ref _) [Value.ref _, Value.int _ _, Value.bool _]) _ _ _); k_dflt (refine' c_backM _ _ _ _ _ _ _ _ _ _ _ _ ?kl ?ki _ _ _ _ _ _ _ _ _ _ _ _ _ _ _ _ _ ?kB ?kF ?kX ?kN ?kT ?kK ?kd ?ku ?_; (case kB => k_asm); (case kF => k_asm); (case kX => k_asm); (case kN => k_asm); (case kT => k_asm); (case kK => first | exact rfl | assumption); (case kd => ktr_room); (case ku => ktr_units); (case kl => k_mem); (case ki => assumption); k_whole); intro t9 h9 tk9 F9 N9; (try dsimp only); (try k_sweep); (try k_fold)))
local macro_rules | `(tactic| walk_at "call ref") => `(tactic| (k_here; (with_reducible show wpAny _ _ (call (Value.ref _) [Value.ref _]) _ _ _); k_dflt (refine' c_textM _ _ _ _ _ _ _ _ _ ?kl ?ki ?ks ?kz _ _ _ _ _ _ _ _ _ _ _ _ _ _ _ _ _ ?kB ?kF ?kX ?kN ?kT ?kK ?kd ?ku ?_; (case kB => k_asm); (case kF => k_asm); (case kX => k_asm); (case kN => k_asm); (case kT => k_asm); (case kK => first | exact rfl | assumption); (case kd => ktr_room); (case ku => ktr_units); (case kl => k_mem); (case ki => assumption); (case ks => first | assumption | exact pSigns_ok _ _); (case kz => first | omega | exact pSigns_le _ _); k_whole); intro t9 h9 tk9 F9 N9; (try dsimp only); (try k_sweep); (try k_fold)))
local macro_rules | `(tactic| walk_at "call ref") => `(tactic| (k_here; (with_reducible show wpAny _ _ (call (Value.ref _) [Value.str _ _, Value.int _ _, Value.bool _]) _ _ _); k_dflt (refine' c_hash _ _ _ _ _ _ _ _ _ _ ?kz _ _ _ _ _ _ _ _ _ _ _ _ _ _ _ _ _ ?kB ?kF ?kX ?kN ?kT ?kK ?kd ?ku ?_; (case kB => k_asm); (case kF => k_asm); (case kX => k_asm); (case kN => k_asm); (case kT => k_asm); (case kK => first | exact rfl | assumption); (case kd => ktr_room); (case ku => ktr_units); (case kz => first | assumption | (show Str.length _ ≤ _; simp only [pText_length, one_length, strLen_append, PySem.sizeLine_eq]; omega)); k_whole); intro t9 h9 tk9 F9 N9; (try dsimp only); (try k_sweep); (try k_fold)))
local macro_rules | `(tactic| walk_at "call ref") => `(tactic| (k_here; (with_reducible show wpAny _ _ (call (Value.ref _) [Value.bytes _ _, Value.int _ _, Value.bool _]) _ _ _); k_dflt (refine' c_hashB _ _ _ _ _ _ _ _ _ _ ?kz _ _ _ _ _ _ _ _ _ _ _ _ _ _ _ _ _ ?kB ?kF ?kX ?kN ?kT ?kK ?kd ?ku ?_; (case kB => k_asm); (case kF => k_asm); (case kX => k_asm); (case kN => k_asm); (case kT => k_asm); (case kK => first | exact rfl | assumption); (case kd => ktr_room); (case ku => ktr_units); (case kz => first | assumption | (show Str.length _ ≤ _; simp only [pText_length, one_length, strLen_append, PySem.sizeLine_eq]; omega)); k_whole); intro t9 h9 tk9 F9 N9; (try dsimp only); (try k_sweep); (try k_fold)))
local macro_rules | `(tactic| walk_at "binaryOp Mult int int") => `(tactic| (k_here; refine mul_int ?_ (by first | exact IntMulOk.of_bits (pSize_bits _) (by assumption) | exact mul_three (by assumption))))
local macro_rules | `(tactic| walk_at "binaryOp Add str str") => `(tactic| (k_here; refine PyProof.Rows.add_str ?_ (by simp only [pText_length, one_length, strLen_append, PySem.sizeLine_eq]; omega); intro _ _))
local macro_rules | `(tactic| walk_at "FinE") => `(tactic| ((unfold LCg.FinE); intro D' h' tk' F' N' o1'; (try simp only [LCg.Off1, and_true, nen_eq] at o1'); (repeat (obtain ⟨_, o1'⟩ := o1')); (try simp only [List.nil_append, List.cons_append] at N'); (try dsimp only)))
local macro_rules | `(tactic| walk_at "CompRest") => `(tactic| (with_unfolding_all (refine LCg.CompRest.succ ?_; intro v' I' oI' C' oC' D' m' h' tk' E' hv' hC' hx' F' N' off' ne'; clear ne'; (first | lcg_open hv' | (obtain ⟨t9', hv9'⟩ := hv'; subst hv9')); (try simp only [LCg.Off3, and_true] at off'); (replace off' := Apart.mk off'))))
local macro_rules | `(tactic| lcg_off) => `(tactic| ((try simp only [LCg.Off3, and_true]); exact Apart.out (by assumption)))
local macro_rules | `(tactic| k_ne) => `(tactic| (refine neN ?_; (try dsimp only); first | (refine NeN.out ?_; with_reducible assumption) | (refine NeN.symm ?_; with_reducible assumption) | omega))
local macro_rules | `(tactic| passes_own) => `(tactic| assumption)
local macro_rules | `(tactic| walk_at "ItemsRest") => `(tactic| (refine Hold.out ?_))
local macro_rules | `(tactic| walk_at "execs cons") => `(tactic| ((rename ForMark => mk'); clear mk'; (with_reducible show wpAny _ _ (execs (Stmt.For _ _ _ _ _ :: _) _) _ _ _); refine Hold.out ?_))
local macro_rules | `(tactic| walk_at "eval IfExp") => `(tactic| ((rename IfMark => mk'); clear mk'; refine Hold.out ?_))
local macro_rules | `(tactic| walk_at "binaryOp Mod int int") => `(tactic| (k_here; refine mod_int' ?_ ?_; first | exact pSize_ne _ | exact pSize1_ne _))
theorem segA (w : World) (mean : ExcName → Option Value) (mg mb : Str → Option Value) (R a b c : Addr) (va vb vc : List Value) (na nb nc : List Int) (ka kb kc kr : Nat)
    (hia : IntsAre va na) (hib : IntsAre vb nb) (hic : IntsAre vc nc) (hsa : SignsOk na) (hsb : SignsOk nb) (hsc : SignsOk nc) (hla : na.length < 5) (hlb : nb.length < 5) (hlc : nc.length < 5)
    (value seed off turn : Int) (t1 t2 t3 t4 : Tok) (hoff : Builtin.Int.intBits off ≤ 2 ^ 20) (ht0 : 0 ≤ turn) (ht1 : turn < 55296) (wide : Bool)
    (dp un : Nat) (gd : Option (List Code)) (cn : Str) (cs : Scope) (L a0 : Addr) (ccd : Value) (cl : List (Str × Addr)) (outer : List Env) (base g' : Heap) (L' : Addr)
    (B : Below (ktrTop dp un gd cn cs L a0 ccd cl outer) base (envX cn cs L a0 ccd cl :: outer) g') (X : (hd.heap_39 w.params).In g') (T : Top hd.view_39 lse mean mg mb g') (hdp : dp + 9 < recursionLimit) (hun : un + 8 * 9 < cLine)
    (hlt : @LT.lt Nat _ R L' ∧ @LT.lt Nat _ a L' ∧ @LT.lt Nat _ b L' ∧ @LT.lt Nat _ c L') (s : Shared) (Q : Flow → Shared → Prop) (E : Value → Shared → Prop) (hE : PassesOwn (model PySem.Challenge.rw_aw0019_01.row.prog w) ((ktrTop dp un gd cn cs L a0 ccd cl outer).deeper (envOfC (Str.ofString "_law_holds") scopeH L' 73 (.ref 72))) (envOfC (Str.ofString "_law_holds") scopeH L' 73 (.ref 72)) E)
    (u : Str → Option Value) (oT oK oE oG oO oS oW : Obj) (vK vT vE vG vS : Option Value) (dW : oW.data = Data.cell (some (.bool wide))) (dO : oO.data = Data.cell (some (.int off t3))) (dS : oS.data = Data.cell vS) (dG : oG.data = Data.cell vG) (dE : oE.data = Data.cell vE) (dK : oK.data = Data.cell vK) (dT : oT.data = Data.cell vT)
    (F : Fr g' L' s.heap (kstB u [((Str.ofString "turn"), .int turn t4), ((Str.ofString "seed"), .int seed t2), ((Str.ofString "value"), .int value t1), ((Str.ofString "rows"), .ref R)])) (N : News g' L' s.heap [((L' + 1 + 1 + 1 + 1 + 1 + 1 + 1 ), oT), ((L' + 1 + 1 + 1 + 1 + 1 + 1 ), oK), ((L' + 1 + 1 + 1 + 1 + 1 ), oE), ((L' + 1 + 1 + 1 + 1 ), oG), ((L' + 1 + 1 + 1 ), oS), ((L' + 1 + 1 ), oW), ((L' + 1 ), oO), (R, listOf [Value.ref a, Value.ref b, Value.ref c].toArray kr), (a, listOf va.toArray ka), (b, listOf vb.toArray kb), (c, listOf vc.toArray kc)])
    (K : ∀ (S : Addr) (ke : Nat) (u' : Str → Option Value) (oT1 oK1 oE1 oG1 oO1 oS1 oW1 : Obj) (vK1 vT1 : Option Value) (e1 e2 e3 ts tg tt tb : Tok) (h' : Heap) (tk' : Nat),
      Fr g' L' h' (kstB u' [((Str.ofString "behind"), .int (pHash (codes (pText nc)) (pSeed (value.fmod (pSize wide)) wide) wide) tb), ((Str.ofString "tail"), .str (pText nc) tt), ((Str.ofString "turn"), .int turn t4), ((Str.ofString "seed"), .int seed t2), ((Str.ofString "value"), .int value t1), ((Str.ofString "rows"), .ref R)]) → News g' L' h' [(S, listOf [Value.int (pSeed (pBackF na (value.fmod (pSize wide)) wide) wide) e1, Value.int (pSeed (pBackF nb (value.fmod (pSize wide)) wide) wide) e2, Value.int (pSeed (pBackF nc (value.fmod (pSize wide)) wide) wide) e3].toArray ke), ((L' + 1 + 1 + 1 + 1 + 1 + 1 + 1 ), oT1), ((L' + 1 + 1 + 1 + 1 + 1 + 1 ), oK1), ((L' + 1 + 1 + 1 + 1 + 1 ), oE1), ((L' + 1 + 1 + 1 + 1 ), oG1), ((L' + 1 + 1 + 1 ), oS1), ((L' + 1 + 1 ), oW1), ((L' + 1 ), oO1), (R, listOf [Value.ref a, Value.ref b, Value.ref c].toArray kr), (a, listOf va.toArray ka), (b, listOf vb.toArray kb), (c, listOf vc.toArray kc)] → oW1.data = Data.cell (some (.bool wide)) → oO1.data = Data.cell (some (.int off t3)) → oS1.data = Data.cell (some (.int (pSize wide) ts)) → oG1.data = Data.cell (some (.int (value.fmod (pSize wide)) tg)) → oE1.data = Data.cell (some (.ref S)) → oK1.data = Data.cell vK1 → oT1.data = Data.cell vT1 →  (NeN (L' + 1 + 1 + 1 + 1 + 1 + 1 + 1 ) S ∧ NeN (L' + 1 + 1 + 1 + 1 + 1 + 1 ) S ∧ NeN (L' + 1 + 1 + 1 + 1 + 1 ) S ∧ NeN (L' + 1 + 1 + 1 + 1 ) S ∧ NeN (L' + 1 + 1 + 1 ) S ∧ NeN (L' + 1 + 1 ) S ∧ NeN (L' + 1 ) S ∧ NeN R S ∧ NeN a S ∧ NeN b S ∧ NeN c S) →
      wpAny (model PySem.Challenge.rw_aw0019_01.row.prog w) ((ktrTop dp un gd cn cs L a0 ccd cl outer).deeper (envOfC (Str.ofString "_law_holds") scopeH L' 73 (.ref 72))) (execs (List.drop 5 (bodyAt 12)) (envOfC (Str.ofString "_law_holds") scopeH L' 73 (.ref 72))) Q E { s with heap := h', toks := tk' }) :
    wpAny (model PySem.Challenge.rw_aw0019_01.row.prog w) ((ktrTop dp un gd cn cs L a0 ccd cl outer).deeper (envOfC (Str.ofString "_law_holds") scopeH L' 73 (.ref 72))) (execs (bodyAt 12) (envOfC (Str.ofString "_law_holds") scopeH L' 73 (.ref 72))) Q E s := by
  revert X; k_fill; intro X
  conv => arg 3; arg 1; whnf
  conv in (occs := *) scopeH => all_goals whnf
  have mk : IfMark := ⟨trivial⟩
  have mf : ForMark := ⟨trivial⟩
  k_steps
  unfold Hold
  refine cut_int (n := pSize wide) (fun Q' hQ' => ?_) (fun tS tkS => ?_)
  · clear K
    cases wide
    all_goals k_steps
    all_goals exact cut_use hQ' (by unfold pSize; rfl)
  · k_steps
    unfold Hold
    (rename Fr _ _ _ _ => kF'); (rename News _ _ _ _ => kN')
    refine K _ _ _ _ _ _ _ _ _ _ _ _ _ _ _ _ _ _ _ _ _ (fr_kst kF' (by kst_all)) kN' (by assumption) (by assumption) (by assumption) (by assumption) (by assumption) (by assumption) (by assumption) ⟨by assumption, by assumption, by assumption, by assumption, by assumption, by assumption, by assumption, by assumption, by assumption, by assumption, by assumption⟩
end Mine

-- part SB
theorem Mine.off_SB : True := by
  w_top off
  trivial
namespace Mine
local macro_rules | `(tactic| walk_at "call ref") => `(tactic| (k_here; (with_reducible show wpAny _ _ (call (Value.ref _) [Value.int _ _, Value.bool _]) _ _ _); k_dflt (refine' c_seed _ _ _ _ _ _ _ _ _ _ _ _ _ _ _ _ _ _ _ _ _ _ _ _ _ ?kB ?kF ?kX ?kN ?kT ?kK ?kd ?ku ?_; (case kB => k_asm); (case kF => k_asm); (case kX => k_asm); (case kN => k_asm); (case kT => k_asm); (case kK => first | exact rfl | assumption); (case kd => ktr_room); (case ku => ktr_units); k_whole); intro t9 h9 tk9 F9 N9; (try dsimp only); (try k_sweep); (try k_fold)))
local macro_rules | `(tactic| walk_at "call ref") => `(tactic| (k_here; (with_reducible show wpAny _ _ (call (Value.ref _) [Value.ref _, Value.int _ _, Value.bool _]) _ _ _); k_dflt (refine' c_backM _ _ _ _ _ _ _ _ _ _ _ _ ?kl ?ki _ _ _ _ _ _ _ _ _ _ _ _ _ _ _ _ _ ?kB ?kF ?kX ?kN ?kT ?kK ?kd ?ku ?_; (case kB => k_asm); (case kF => k_asm); (case kX => k_asm); (case kN => k_asm); (case kT => k_asm); (case kK => first | exact rfl | assumption); (case kd => ktr_room); (case ku => ktr_units); (case kl => k_mem); (case ki => assumption); k_whole); intro t9 h9 tk9 F9 N9; (try dsimp only); (try k_sweep); (try k_fold)))
local macro_rules | `(tactic| walk_at "call ref") => `(tactic| (k_here; (with_reducible show wpAny _ _ (call (Value.ref _) [Value.ref _]) _ _ _); k_dflt (refine' c_textM _ _ _ _ _ _ _ _ _ ?kl ?ki ?ks ?kz _ _ _ _ _ _ _ _ _ _ _ _ _ _ _ _ _ ?kB ?kF ?kX ?kN ?kT ?kK ?kd ?ku ?_; (case kB => k_asm); (case kF => k_asm); (case kX => k_asm); (case kN => k_asm); (case kT => k_asm); (case kK => first | exact rfl | assumption); (case kd => ktr_room); (case ku => ktr_units); (case kl => k_mem); (case ki => assumption); (case ks => first | assumption | exact pSigns_ok _ _); (case kz => first | omega | exact pSigns_le _ _); k_whole); intro t9 h9 tk9 F9 N9; (try dsimp only); (try k_sweep); (try k_fold)))
local macro_rules | `(tactic| walk_at "call ref") => `(tactic| (k_here; (with_reducible show wpAny _ _ (call (Value.ref _) [Value.str _ _, Value.int _ _, Value.bool _]) _ _ _); k_dflt (refine' c_hash _ _ _ _ _ _ _ _ _ _ ?kz _ _ _ _ _ _ _ _ _ _ _ _ _ _ _ _ _ ?kB ?kF ?kX ?kN ?kT ?kK ?kd ?ku ?_; (case kB => k_asm); (case kF => k_asm); (case kX => k_asm); (case kN => k_asm); (case kT => k_asm); (case kK => first | exact rfl | assumption); (case kd => ktr_room); (case ku => ktr_units); (case kz => first | assumption | (show Str.length _ ≤ _; simp only [pText_length, one_length, strLen_append, PySem.sizeLine_eq]; omega)); k_whole); intro t9 h9 tk9 F9 N9; (try dsimp only); (try k_sweep); (try k_fold)))
local macro_rules | `(tactic| walk_at "call ref") => `(tactic| (k_here; (with_reducible show wpAny _ _ (call (Value.ref _) [Value.bytes _ _, Value.int _ _, Value.bool _]) _ _ _); k_dflt (refine' c_hashB _ _ _ _ _ _ _ _ _ _ ?kz _ _ _ _ _ _ _ _ _ _ _ _ _ _ _ _ _ ?kB ?kF ?kX ?kN ?kT ?kK ?kd ?ku ?_; (case kB => k_asm); (case kF => k_asm); (case kX => k_asm); (case kN => k_asm); (case kT => k_asm); (case kK => first | exact rfl | assumption); (case kd => ktr_room); (case ku => ktr_units); (case kz => first | assumption | (show Str.length _ ≤ _; simp only [pText_length, one_length, strLen_append, PySem.sizeLine_eq]; omega)); k_whole); intro t9 h9 tk9 F9 N9; (try dsimp only); (try k_sweep); (try k_fold)))
local macro_rules | `(tactic| walk_at "binaryOp Mult int int") => `(tactic| (k_here; refine mul_int ?_ (by first | exact IntMulOk.of_bits (pSize_bits _) (by assumption) | exact mul_three (by assumption))))
local macro_rules | `(tactic| walk_at "binaryOp Add str str") => `(tactic| (k_here; refine PyProof.Rows.add_str ?_ (by simp only [pText_length, one_length, strLen_append, PySem.sizeLine_eq]; omega); intro _ _))
local macro_rules | `(tactic| walk_at "FinE") => `(tactic| ((unfold LCg.FinE); intro D' h' tk' F' N' o1'; (try simp only [LCg.Off1, and_true, nen_eq] at o1'); (repeat (obtain ⟨_, o1'⟩ := o1')); (try simp only [List.nil_append, List.cons_append] at N'); (try dsimp only)))
local macro_rules | `(tactic| walk_at "CompRest") => `(tactic| (with_unfolding_all (refine LCg.CompRest.succ ?_; intro v' I' oI' C' oC' D' m' h' tk' E' hv' hC' hx' F' N' off' ne'; clear ne'; (first | lcg_open hv' | (obtain ⟨t9', hv9'⟩ := hv'; subst hv9')); (try simp only [LCg.Off3, and_true] at off'); (replace off' := Apart.mk off'))))
local macro_rules | `(tactic| lcg_off) => `(tactic| ((try simp only [LCg.Off3, and_true]); exact Apart.out (by assumption)))
local macro_rules | `(tactic| k_ne) => `(tactic| (refine neN ?_; (try dsimp only); first | (refine NeN.out ?_; with_reducible assumption) | (refine NeN.symm ?_; with_reducible assumption) | omega))
local macro_rules | `(tactic| passes_own) => `(tactic| assumption)
local macro_rules | `(tactic| walk_at "ItemsRest") => `(tactic| (refine Hold.out ?_))
local macro_rules | `(tactic| walk_at "execs cons") => `(tactic| ((rename ForMark => mk'); clear mk'; (with_reducible show wpAny _ _ (execs (Stmt.For _ _ _ _ _ :: _) _) _ _ _); refine Hold.out ?_))
local macro_rules | `(tactic| walk_at "eval IfExp") => `(tactic| ((rename IfMark => mk'); clear mk'; refine Hold.out ?_))
local macro_rules | `(tactic| walk_at "binaryOp Mod int int") => `(tactic| (k_here; refine mod_int' ?_ ?_; first | exact pSize_ne _ | exact pSize1_ne _))
theorem segB (w : World) (mean : ExcName → Option Value) (mg mb : Str → Option Value) (R a b c : Addr) (va vb vc : List Value) (na nb nc : List Int) (ka kb kc kr : Nat)
    (hia : IntsAre va na) (hib : IntsAre vb nb) (hic : IntsAre vc nc) (hsa : SignsOk na) (hsb : SignsOk nb) (hsc : SignsOk nc) (hla : na.length < 5) (hlb : nb.length < 5) (hlc : nc.length < 5)
    (value seed off turn : Int) (t1 t2 t3 t4 : Tok) (hoff : Builtin.Int.intBits off ≤ 2 ^ 20) (ht0 : 0 ≤ turn) (ht1 : turn < 55296) (wide : Bool)
    (dp un : Nat) (gd : Option (List Code)) (cn : Str) (cs : Scope) (L a0 : Addr) (ccd : Value) (cl : List (Str × Addr)) (outer : List Env) (base g' : Heap) (L' : Addr)
    (B : Below (ktrTop dp un gd cn cs L a0 ccd cl outer) base (envX cn cs L a0 ccd cl :: outer) g') (X : (hd.heap_39 w.params).In g') (T : Top hd.view_39 lse mean mg mb g') (hdp : dp + 9 < recursionLimit) (hun : un + 8 * 9 < cLine)
    (hlt : @LT.lt Nat _ R L' ∧ @LT.lt Nat _ a L' ∧ @LT.lt Nat _ b L' ∧ @LT.lt Nat _ c L') (s : Shared) (Q : Flow → Shared → Prop) (E : Value → Shared → Prop) (hE : PassesOwn (model PySem.Challenge.rw_aw0019_01.row.prog w) ((ktrTop dp un gd cn cs L a0 ccd cl outer).deeper (envOfC (Str.ofString "_law_holds") scopeH L' 73 (.ref 72))) (envOfC (Str.ofString "_law_holds") scopeH L' 73 (.ref 72)) E)
    (S : Addr) (ke : Nat) (u : Str → Option Value) (oT oK oE oG oO oS oW : Obj) (vK vT : Option Value) (e1 e2 e3 ts tg tt tb : Tok) (off1 : NeN (L' + 1 + 1 + 1 + 1 + 1 + 1 + 1 ) S ∧ NeN (L' + 1 + 1 + 1 + 1 + 1 + 1 ) S ∧ NeN (L' + 1 + 1 + 1 + 1 + 1 ) S ∧ NeN (L' + 1 + 1 + 1 + 1 ) S ∧ NeN (L' + 1 + 1 + 1 ) S ∧ NeN (L' + 1 + 1 ) S ∧ NeN (L' + 1 ) S ∧ NeN R S ∧ NeN a S ∧ NeN b S ∧ NeN c S) (dW : oW.data = Data.cell (some (.bool wide))) (dO : oO.data = Data.cell (some (.int off t3))) (dS : oS.data = Data.cell (some (.int (pSize wide) ts))) (dG : oG.data = Data.cell (some (.int (value.fmod (pSize wide)) tg))) (dE : oE.data = Data.cell (some (.ref S))) (dK : oK.data = Data.cell vK) (dT : oT.data = Data.cell vT)
    (F : Fr g' L' s.heap (kstB u [((Str.ofString "behind"), .int (pHash (codes (pText nc)) (pSeed (value.fmod (pSize wide)) wide) wide) tb), ((Str.ofString "tail"), .str (pText nc) tt), ((Str.ofString "turn"), .int turn t4), ((Str.ofString "seed"), .int seed t2), ((Str.ofString "value"), .int value t1), ((Str.ofString "rows"), .ref R)])) (N : News g' L' s.heap [(S, listOf [Value.int (pSeed (pBackF na (value.fmod (pSize wide)) wide) wide) e1, Value.int (pSeed (pBackF nb (value.fmod (pSize wide)) wide) wide) e2, Value.int (pSeed (pBackF nc (value.fmod (pSize wide)) wide) wide) e3].toArray ke), ((L' + 1 + 1 + 1 + 1 + 1 + 1 + 1 ), oT), ((L' + 1 + 1 + 1 + 1 + 1 + 1 ), oK), ((L' + 1 + 1 + 1 + 1 + 1 ), oE), ((L' + 1 + 1 + 1 + 1 ), oG), ((L' + 1 + 1 + 1 ), oS), ((L' + 1 + 1 ), oW), ((L' + 1 ), oO), (R, listOf [Value.ref a, Value.ref b, Value.ref c].toArray kr), (a, listOf va.toArray ka), (b, listOf vb.toArray kb), (c, listOf vc.toArray kc)])
    (K : ∀ (u' : Str → Option Value) (oT1 oK1 oE1 oG1 oO1 oS1 oW1 : Obj) (vK1 vT1 : Option Value) (h' : Heap) (tk' : Nat),
      Fr g' L' h' (kstB u' [((Str.ofString "behind"), .int (pHash (codes (pText nc)) (pSeed (value.fmod (pSize wide)) wide) wide) tb), ((Str.ofString "tail"), .str (pText nc) tt), ((Str.ofString "turn"), .int turn t4), ((Str.ofString "seed"), .int seed t2), ((Str.ofString "value"), .int value t1), ((Str.ofString "rows"), .ref R)]) → News g' L' h' [(S, listOf [Value.int (pSeed (pBackF na (value.fmod (pSize wide)) wide) wide) e1, Value.int (pSeed (pBackF nb (value.fmod (pSize wide)) wide) wide) e2, Value.int (pSeed (pBackF nc (value.fmod (pSize wide)) wide) wide) e3].toArray ke), ((L' + 1 + 1 + 1 + 1 + 1 + 1 + 1 ), oT1), ((L' + 1 + 1 + 1 + 1 + 1 + 1 ), oK1), ((L' + 1 + 1 + 1 + 1 + 1 ), oE1), ((L' + 1 + 1 + 1 + 1 ), oG1), ((L' + 1 + 1 + 1 ), oS1), ((L' + 1 + 1 ), oW1), ((L' + 1 ), oO1), (R, listOf [Value.ref a, Value.ref b, Value.ref c].toArray kr), (a, listOf va.toArray ka), (b, listOf vb.toArray kb), (c, listOf vc.toArray kc)] → oW1.data = Data.cell (some (.bool wide)) → oO1.data = Data.cell (some (.int off t3)) → oS1.data = Data.cell (some (.int (pSize wide) ts)) → oG1.data = Data.cell (some (.int (value.fmod (pSize wide)) tg)) → oE1.data = Data.cell (some (.ref S)) → oK1.data = Data.cell vK1 → oT1.data = Data.cell vT1 → 
      wpAny (model PySem.Challenge.rw_aw0019_01.row.prog w) ((ktrTop dp un gd cn cs L a0 ccd cl outer).deeper (envOfC (Str.ofString "_law_holds") scopeH L' 73 (.ref 72))) (execs (List.drop 6 (bodyAt 12)) (envOfC (Str.ofString "_law_holds") scopeH L' 73 (.ref 72))) Q E { s with heap := h', toks := tk' }) :
    wpAny (model PySem.Challenge.rw_aw0019_01.row.prog w) ((ktrTop dp un gd cn cs L a0 ccd cl outer).deeper (envOfC (Str.ofString "_law_holds") scopeH L' 73 (.ref 72))) (execs (List.drop 5 (bodyAt 12)) (envOfC (Str.ofString "_law_holds") scopeH L' 73 (.ref 72))) Q E s := by
  revert X; k_fill; intro X
  obtain ⟨_, _, _, _, _, _, _, _, _, _, _⟩ := off1
  conv => arg 3; arg 1; whnf
  conv in (occs := *) scopeH => all_goals whnf
  k_steps
  unfold Hold
  with_unfolding_all refine items_inv (JB _ (fun x y => [_, _, (_, x), (_, y), _, _, _, _, _, _, _, _, _])) [Value.int 0 _, Value.int 1 _, Value.int 2 _] ?_ ?_ [Value.int 0 _, Value.int 1 _, Value.int 2 _] (fun _ h => h) _ _ (JB.mk' rfl (fun _ h => h) dT dK)
  · intro v hv m news h tk hJ F1
    obtain ⟨rfl, oT', oK', vT', vK', hsub, dT', dK'⟩ := hJ
    ktu_objs
    (rename News _ _ _ _ => kN')
    have kN2 := cb_drop kN' (cons_sub (its := [_]) hsub)
    clear kN' hsub dT dK K
    simp only [List.cons_append, List.nil_append] at kN2
    simp only [List.mem_cons, List.not_mem_nil, or_false] at hv
    rcases hv with rfl | rfl | rfl
    all_goals k_steps
    all_goals first
      | exact (end1 (by assumption) (by with_unfolding_all rfl) (by assumption)).elim
      | exact (end2 (by assumption) (by with_unfolding_all rfl) (by assumption)).elim
      | exact (end3 (by assumption) (by with_unfolding_all rfl) (by assumption)).elim
      | exact JB.mk' rfl (by (with_unfolding_all k_allIn)) (by assumption) (by assumption)
  · intro m news h tk hJ F1 N1
    obtain ⟨rfl, oT', oK', vT', vK', hsub, dT', dK'⟩ := hJ
    have N2 := cb_drop (cb_drop N1 hsub) (fun p hp => List.mem_cons_of_mem _ hp)
    exact K u _ _ _ _ _ _ _ _ _ h tk F1 N2 dW dO dS dG dE dK' dT'
end Mine

-- part SC
theorem Mine.off_SC : True := by
  w_top off
  trivial
namespace Mine
local macro_rules | `(tactic| walk_at "call ref") => `(tactic| (k_here; (with_reducible show wpAny _ _ (call (Value.ref _) [Value.int _ _, Value.bool _]) _ _ _); k_dflt (refine' c_seed _ _ _ _ _ _ _ _ _ _ _ _ _ _ _ _ _ _ _ _ _ _ _ _ _ ?kB ?kF ?kX ?kN ?kT ?kK ?kd ?ku ?_; (case kB => k_asm); (case kF => k_asm); (case kX => k_asm); (case kN => k_asm); (case kT => k_asm); (case kK => first | exact rfl | assumption); (case kd => ktr_room); (case ku => ktr_units); k_whole); intro t9 h9 tk9 F9 N9; (try dsimp only); (try k_sweep); (try k_fold)))
local macro_rules | `(tactic| walk_at "call ref") => `(tactic| (k_here; (with_reducible show wpAny _ _ (call (Value.ref _) [Value.ref _, Value.int _ _, Value.bool _]) _ _ _); k_dflt (refine' c_backM _ _ _ _ _ _ _ _ _ _ _ _ ?kl ?ki _ _ _ _ _ _ _ _ _ _ _ _ _ _ _ _ _ ?kB ?kF ?kX ?kN ?kT ?kK ?kd ?ku ?_; (case kB => k_asm); (case kF => k_asm); (case kX => k_asm); (case kN => k_asm); (case kT => k_asm); (case kK => first | exact rfl | assumption); (case kd => ktr_room); (case ku => ktr_units); (case kl => k_mem); (case ki => assumption); k_whole); intro t9 h9 tk9 F9 N9; (try dsimp only); (try k_sweep); (try k_fold)))
local macro_rules | `(tactic| walk_at "call ref") => `(tactic| (k_here; (with_reducible show wpAny _ _ (call (Value.ref _) [Value.ref _]) _ _ _); k_dflt (refine' c_textM _ _ _ _ _ _ _ _ _ ?kl ?ki ?ks ?kz _ _ _ _ _ _ _ _ _ _ _ _ _ _ _ _ _ ?kB ?kF ?kX ?kN ?kT ?kK ?kd ?ku ?_; (case kB => k_asm); (case kF => k_asm); (case kX => k_asm); (case kN => k_asm); (case kT => k_asm); (case kK => first | exact rfl | assumption); (case kd => ktr_room); (case ku => ktr_units); (case kl => k_mem); (case ki => assumption); (case ks => first | assumption | exact pSigns_ok _ _); (case kz => first | omega | exact pSigns_le _ _); k_whole); intro t9 h9 tk9 F9 N9; (try dsimp only); (try k_sweep); (try k_fold)))
local macro_rules | `(tactic| walk_at "call ref") => `(tactic| (k_here; (with_reducible show wpAny _ _ (call (Value.ref _) [Value.str _ _, Value.int _ _, Value.bool _]) _ _ _); k_dflt (refine' c_hash _ _ _ _ _ _ _ _ _ _ ?kz _ _ _ _ _ _ _ _ _ _ _ _ _ _ _ _ _ ?kB ?kF ?kX ?kN ?kT ?kK ?kd ?ku ?_; (case kB => k_asm); (case kF => k_asm); (case kX => k_asm); (case kN => k_asm); (case kT => k_asm); (case kK => first | exact rfl | assumption); (case kd => ktr_room); (case ku => ktr_units); (case kz => first | assumption | (show Str.length _ ≤ _; simp only [pText_length, one_length, strLen_append, PySem.sizeLine_eq]; omega)); k_whole); intro t9 h9 tk9 F9 N9; (try dsimp only); (try k_sweep); (try k_fold)))
local macro_rules | `(tactic| walk_at "call ref") => `(tactic| (k_here; (with_reducible show wpAny _ _ (call (Value.ref _) [Value.bytes _ _, Value.int _ _, Value.bool _]) _ _ _); k_dflt (refine' c_hashB _ _ _ _ _ _ _ _ _ _ ?kz _ _ _ _ _ _ _ _ _ _ _ _ _ _ _ _ _ ?kB ?kF ?kX ?kN ?kT ?kK ?kd ?ku ?_; (case kB => k_asm); (case kF => k_asm); (case kX => k_asm); (case kN => k_asm); (case kT => k_asm); (case kK => first | exact rfl | assumption); (case kd => ktr_room); (case ku => ktr_units); (case kz => first | assumption | (show Str.length _ ≤ _; simp only [pText_length, one_length, strLen_append, PySem.sizeLine_eq]; omega)); k_whole); intro t9 h9 tk9 F9 N9; (try dsimp only); (try k_sweep); (try k_fold)))
local macro_rules | `(tactic| walk_at "binaryOp Mult int int") => `(tactic| (k_here; refine mul_int ?_ (by first | exact IntMulOk.of_bits (pSize_bits _) (by assumption) | exact mul_three (by assumption))))
local macro_rules | `(tactic| walk_at "binaryOp Add str str") => `(tactic| (k_here; refine PyProof.Rows.add_str ?_ (by simp only [pText_length, one_length, strLen_append, PySem.sizeLine_eq]; omega); intro _ _))
local macro_rules | `(tactic| walk_at "FinE") => `(tactic| ((unfold LCg.FinE); intro D' h' tk' F' N' o1'; (try simp only [LCg.Off1, and_true, nen_eq] at o1'); (repeat (obtain ⟨_, o1'⟩ := o1')); (try simp only [List.nil_append, List.cons_append] at N'); (try dsimp only)))
local macro_rules | `(tactic| walk_at "CompRest") => `(tactic| (with_unfolding_all (refine LCg.CompRest.succ ?_; intro v' I' oI' C' oC' D' m' h' tk' E' hv' hC' hx' F' N' off' ne'; clear ne'; (first | lcg_open hv' | (obtain ⟨t9', hv9'⟩ := hv'; subst hv9')); (try simp only [LCg.Off3, and_true] at off'); (replace off' := Apart.mk off'))))
local macro_rules | `(tactic| lcg_off) => `(tactic| ((try simp only [LCg.Off3, and_true]); exact Apart.out (by assumption)))
local macro_rules | `(tactic| k_ne) => `(tactic| (refine neN ?_; (try dsimp only); first | (refine NeN.out ?_; with_reducible assumption) | (refine NeN.symm ?_; with_reducible assumption) | omega))
local macro_rules | `(tactic| passes_own) => `(tactic| assumption)
local macro_rules | `(tactic| walk_at "ItemsRest") => `(tactic| (refine Hold.out ?_))
local macro_rules | `(tactic| walk_at "execs cons") => `(tactic| ((rename ForMark => mk'); clear mk'; (with_reducible show wpAny _ _ (execs (Stmt.For _ _ _ _ _ :: _) _) _ _ _); refine Hold.out ?_))
local macro_rules | `(tactic| walk_at "eval IfExp") => `(tactic| ((rename IfMark => mk'); clear mk'; refine Hold.out ?_))
local macro_rules | `(tactic| walk_at "binaryOp Mod int int") => `(tactic| (k_here; refine mod_int' ?_ ?_; first | exact pSize_ne _ | exact pSize1_ne _))
theorem segC (w : World) (mean : ExcName → Option Value) (mg mb : Str → Option Value) (R a b c : Addr) (va vb vc : List Value) (na nb nc : List Int) (ka kb kc kr : Nat)
    (hia : IntsAre va na) (hib : IntsAre vb nb) (hic : IntsAre vc nc) (hsa : SignsOk na) (hsb : SignsOk nb) (hsc : SignsOk nc) (hla : na.length < 5) (hlb : nb.length < 5) (hlc : nc.length < 5)
    (value seed off turn : Int) (t1 t2 t3 t4 : Tok) (hoff : Builtin.Int.intBits off ≤ 2 ^ 20) (ht0 : 0 ≤ turn) (ht1 : turn < 55296) (wide : Bool)
    (dp un : Nat) (gd : Option (List Code)) (cn : Str) (cs : Scope) (L a0 : Addr) (ccd : Value) (cl : List (Str × Addr)) (outer : List Env) (base g' : Heap) (L' : Addr)
    (B : Below (ktrTop dp un gd cn cs L a0 ccd cl outer) base (envX cn cs L a0 ccd cl :: outer) g') (X : (hd.heap_39 w.params).In g') (T : Top hd.view_39 lse mean mg mb g') (hdp : dp + 9 < recursionLimit) (hun : un + 8 * 9 < cLine)
    (hlt : @LT.lt Nat _ R L' ∧ @LT.lt Nat _ a L' ∧ @LT.lt Nat _ b L' ∧ @LT.lt Nat _ c L') (s : Shared) (Q : Flow → Shared → Prop) (E : Value → Shared → Prop) (hE : PassesOwn (model PySem.Challenge.rw_aw0019_01.row.prog w) ((ktrTop dp un gd cn cs L a0 ccd cl outer).deeper (envOfC (Str.ofString "_law_holds") scopeH L' 73 (.ref 72))) (envOfC (Str.ofString "_law_holds") scopeH L' 73 (.ref 72)) E)
    (S : Addr) (ke : Nat) (u : Str → Option Value) (oT oK oE oG oO oS oW : Obj) (vK vT : Option Value) (e1 e2 e3 ts tg tt tb : Tok) (off1 : NeN (L' + 1 + 1 + 1 + 1 + 1 + 1 + 1 ) S ∧ NeN (L' + 1 + 1 + 1 + 1 + 1 + 1 ) S ∧ NeN (L' + 1 + 1 + 1 + 1 + 1 ) S ∧ NeN (L' + 1 + 1 + 1 + 1 ) S ∧ NeN (L' + 1 + 1 + 1 ) S ∧ NeN (L' + 1 + 1 ) S ∧ NeN (L' + 1 ) S ∧ NeN R S ∧ NeN a S ∧ NeN b S ∧ NeN c S) (dW : oW.data = Data.cell (some (.bool wide))) (dO : oO.data = Data.cell (some (.int off t3))) (dS : oS.data = Data.cell (some (.int (pSize wide) ts))) (dG : oG.data = Data.cell (some (.int (value.fmod (pSize wide)) tg))) (dE : oE.data = Data.cell (some (.ref S))) (dK : oK.data = Data.cell vK) (dT : oT.data = Data.cell vT)
    (F : Fr g' L' s.heap (kstB u [((Str.ofString "behind"), .int (pHash (codes (pText nc)) (pSeed (value.fmod (pSize wide)) wide) wide) tb), ((Str.ofString "tail"), .str (pText nc) tt), ((Str.ofString "turn"), .int turn t4), ((Str.ofString "seed"), .int seed t2), ((Str.ofString "value"), .int value t1), ((Str.ofString "rows"), .ref R)])) (N : News g' L' s.heap [(S, listOf [Value.int (pSeed (pBackF na (value.fmod (pSize wide)) wide) wide) e1, Value.int (pSeed (pBackF nb (value.fmod (pSize wide)) wide) wide) e2, Value.int (pSeed (pBackF nc (value.fmod (pSize wide)) wide) wide) e3].toArray ke), ((L' + 1 + 1 + 1 + 1 + 1 + 1 + 1 ), oT), ((L' + 1 + 1 + 1 + 1 + 1 + 1 ), oK), ((L' + 1 + 1 + 1 + 1 + 1 ), oE), ((L' + 1 + 1 + 1 + 1 ), oG), ((L' + 1 + 1 + 1 ), oS), ((L' + 1 + 1 ), oW), ((L' + 1 ), oO), (R, listOf [Value.ref a, Value.ref b, Value.ref c].toArray kr), (a, listOf va.toArray ka), (b, listOf vb.toArray kb), (c, listOf vc.toArray kc)])
    (K : ∀ (G : Addr) (vg : List Value) (kg : Nat) (u' : Str → Option Value) (oT1 oW1 : Obj) (tw tx : Tok) (h' : Heap) (tk' : Nat),
      Fr g' L' h' (kstB u' [((Str.ofString "whole"), .int (pHash (codes (pText (na ++ nb ++ nc))) seed wide) tw), ((Str.ofString "signs"), .ref G), ((Str.ofString "turn"), .int turn t4), ((Str.ofString "seed"), .int seed t2)]) → News g' L' h' [(G, listOf vg.toArray kg), ((L' + 1 + 1 + 1 + 1 + 1 + 1 + 1 ), oT1), ((L' + 1 + 1 ), oW1), (R, listOf [Value.ref a, Value.ref b, Value.ref c].toArray kr), (a, listOf va.toArray ka), (b, listOf vb.toArray kb), (c, listOf vc.toArray kc)] → IntsAre vg (na ++ nb ++ nc) → oW1.data = Data.cell (some (.bool wide)) → oT1.data = Data.cell (some (.str (pText (na ++ nb ++ nc)) tx)) → 
      wpAny (model PySem.Challenge.rw_aw0019_01.row.prog w) ((ktrTop dp un gd cn cs L a0 ccd cl outer).deeper (envOfC (Str.ofString "_law_holds") scopeH L' 73 (.ref 72))) (execs (List.drop 10 (bodyAt 12)) (envOfC (Str.ofString "_law_holds") scopeH L' 73 (.ref 72))) Q E { s with heap := h', toks := tk' }) :
    wpAny (model PySem.Challenge.rw_aw0019_01.row.prog w) ((ktrTop dp un gd cn cs L a0 ccd cl outer).deeper (envOfC (Str.ofString "_law_holds") scopeH L' 73 (.ref 72))) (execs (List.drop 6 (bodyAt 12)) (envOfC (Str.ofString "_law_holds") scopeH L' 73 (.ref 72))) Q E s := by
  revert X; k_fill; intro X
  obtain ⟨_, _, _, _, _, _, _, _, _, _, _⟩ := off1
  have mf : ForMark := ⟨trivial⟩
  have hss : SignsOk (na ++ nb ++ nc) := (hsa.app hsb).app hsc
  have hls : (na ++ nb ++ nc).length < 13 := by simp only [List.length_append]; omega
  conv => arg 3; arg 1; whnf
  conv in (occs := *) scopeH => all_goals whnf
  k_steps
  · unfold Hold
    (rename Fr _ _ _ _ => kF'); (rename News _ _ _ _ => kN')
    exact K _ _ _ _ _ _ _ _ _ _ (fr_kst kF' (by kst_all)) (cb_drop kN' (by (with_unfolding_all k_allIn))) (by assumption) (by assumption) (by assumption)
  all_goals first
    | exact absurd (hash_lo _ _ _) (by assumption)
    | exact absurd (hash_hi _ _ _) (by assumption)
end Mine

-- part SD
theorem Mine.off_SD : True := by
  w_top off
  trivial
namespace Mine
local macro_rules | `(tactic| walk_at "call ref") => `(tactic| (k_here; (with_reducible show wpAny _ _ (call (Value.ref _) [Value.int _ _, Value.bool _]) _ _ _); k_dflt (refine' c_seed _ _ _ _ _ _ _ _ _ _ _ _ _ _ _ _ _ _ _ _ _ _ _ _ _ ?kB ?kF ?kX ?kN ?kT ?kK ?kd ?ku ?_; (case kB => k_asm); (case kF => k_asm); (case kX => k_asm); (case kN => k_asm); (case kT => k_asm); (case kK => first | exact rfl | assumption); (case kd => ktr_room); (case ku => ktr_units); k_whole); intro t9 h9 tk9 F9 N9; (try dsimp only); (try k_sweep); (try k_fold)))
local macro_rules | `(tactic| walk_at "call ref") => `(tactic| (k_here; (with_reducible show wpAny _ _ (call (Value.ref _) [Value.ref _, Value.int _ _, Value.bool _]) _ _ _); k_dflt (refine' c_backM _ _ _ _ _ _ _ _ _ _ _ _ ?kl ?ki _ _ _ _ _ _ _ _ _ _ _ _ _ _ _ _ _ ?kB ?kF ?kX ?kN ?kT ?kK ?kd ?ku ?_; (case kB => k_asm); (case kF => k_asm); (case kX => k_asm); (case kN => k_asm); (case kT => k_asm); (case kK => first | exact rfl | assumption); (case kd => ktr_room); (case ku => ktr_units); (case kl => k_mem); (case ki => assumption); k_whole); intro t9 h9 tk9 F9 N9; (try dsimp only); (try k_sweep); (try k_fold)))
local macro_rules | `(tactic| walk_at "call ref") => `(tactic| (k_here; (with_reducible show wpAny _ _ (call (Value.ref _) [Value.ref _]) _ _ _); k_dflt (refine' c_textM _ _ _ _ _ _ _ _ _ ?kl ?ki ?ks ?kz _ _ _ _ _ _ _ _ _ _ _ _ _ _ _ _ _ ?kB ?kF ?kX ?kN ?kT ?kK ?kd ?ku ?_; (case kB => k_asm); (case kF => k_asm); (case kX => k_asm); (case kN => k_asm); (case kT => k_asm); (case kK => first | exact rfl | assumption); (case kd => ktr_room); (case ku => ktr_units); (case kl => k_mem); (case ki => assumption); (case ks => first | assumption | exact pSigns_ok _ _); (case kz => first | omega | exact pSigns_le _ _); k_whole); intro t9 h9 tk9 F9 N9; (try dsimp only); (try k_sweep); (try k_fold)))
local macro_rules | `(tactic| walk_at "call ref") => `(tactic| (k_here; (with_reducible show wpAny _ _ (call (Value.ref _) [Value.str _ _, Value.int _ _, Value.bool _]) _ _ _); k_dflt (refine' c_hash _ _ _ _ _ _ _ _ _ _ ?kz _ _ _ _ _ _ _ _ _ _ _ _ _ _ _ _ _ ?kB ?kF ?kX ?kN ?kT ?kK ?kd ?ku ?_; (case kB => k_asm); (case kF => k_asm); (case kX => k_asm); (case kN => k_asm); (case kT => k_asm); (case kK => first | exact rfl | assumption); (case kd => ktr_room); (case ku => ktr_units); (case kz => first | assumption | (show Str.length _ ≤ _; simp only [pText_length, one_length, strLen_append, PySem.sizeLine_eq]; omega)); k_whole); intro t9 h9 tk9 F9 N9; (try dsimp only); (try k_sweep); (try k_fold)))
local macro_rules | `(tactic| walk_at "call ref") => `(tactic| (k_here; (with_reducible show wpAny _ _ (call (Value.ref _) [Value.bytes _ _, Value.int _ _, Value.bool _]) _ _ _); k_dflt (refine' c_hashB _ _ _ _ _ _ _ _ _ _ ?kz _ _ _ _ _ _ _ _ _ _ _ _ _ _ _ _ _ ?kB ?kF ?kX ?kN ?kT ?kK ?kd ?ku ?_; (case kB => k_asm); (case kF => k_asm); (case kX => k_asm); (case kN => k_asm); (case kT => k_asm); (case kK => first | exact rfl | assumption); (case kd => ktr_room); (case ku => ktr_units); (case kz => first | assumption | (show Str.length _ ≤ _; simp only [pText_length, one_length, strLen_append, PySem.sizeLine_eq]; omega)); k_whole); intro t9 h9 tk9 F9 N9; (try dsimp only); (try k_sweep); (try k_fold)))
local macro_rules | `(tactic| walk_at "binaryOp Mult int int") => `(tactic| (k_here; refine mul_int ?_ (by first | exact IntMulOk.of_bits (pSize_bits _) (by assumption) | exact mul_three (by assumption))))
local macro_rules | `(tactic| walk_at "binaryOp Add str str") => `(tactic| (k_here; refine PyProof.Rows.add_str ?_ (by simp only [pText_length, one_length, strLen_append, PySem.sizeLine_eq]; omega); intro _ _))
local macro_rules | `(tactic| walk_at "FinE") => `(tactic| ((unfold LCg.FinE); intro D' h' tk' F' N' o1'; (try simp only [LCg.Off1, and_true, nen_eq] at o1'); (repeat (obtain ⟨_, o1'⟩ := o1')); (try simp only [List.nil_append, List.cons_append] at N'); (try dsimp only)))
local macro_rules | `(tactic| walk_at "CompRest") => `(tactic| (with_unfolding_all (refine LCg.CompRest.succ ?_; intro v' I' oI' C' oC' D' m' h' tk' E' hv' hC' hx' F' N' off' ne'; clear ne'; (first | lcg_open hv' | (obtain ⟨t9', hv9'⟩ := hv'; subst hv9')); (try simp only [LCg.Off3, and_true] at off'); (replace off' := Apart.mk off'))))
local macro_rules | `(tactic| lcg_off) => `(tactic| ((try simp only [LCg.Off3, and_true]); exact Apart.out (by assumption)))
local macro_rules | `(tactic| k_ne) => `(tactic| (refine neN ?_; (try dsimp only); first | (refine NeN.out ?_; with_reducible assumption) | (refine NeN.symm ?_; with_reducible assumption) | omega))
local macro_rules | `(tactic| passes_own) => `(tactic| assumption)
local macro_rules | `(tactic| walk_at "ItemsRest") => `(tactic| (refine Hold.out ?_))
local macro_rules | `(tactic| walk_at "execs cons") => `(tactic| ((rename ForMark => mk'); clear mk'; (with_reducible show wpAny _ _ (execs (Stmt.For _ _ _ _ _ :: _) _) _ _ _); refine Hold.out ?_))
local macro_rules | `(tactic| walk_at "eval IfExp") => `(tactic| ((rename IfMark => mk'); clear mk'; refine Hold.out ?_))
local macro_rules | `(tactic| walk_at "binaryOp Mod int int") => `(tactic| (k_here; refine mod_int' ?_ ?_; first | exact pSize_ne _ | exact pSize1_ne _))
theorem segD (w : World) (mean : ExcName → Option Value) (mg mb : Str → Option Value) (ss : List Int) (hss : SignsOk ss) (hls : ss.length < 13)
    (seed turn : Int) (t2 t4 tw tx : Tok) (ht0 : 0 ≤ turn) (ht1 : turn < 55296) (wide : Bool)
    (dp un : Nat) (gd : Option (List Code)) (cn : Str) (cs : Scope) (L a0 : Addr) (ccd : Value) (cl : List (Str × Addr)) (outer : List Env) (base g' : Heap) (L' : Addr)
    (B : Below (ktrTop dp un gd cn cs L a0 ccd cl outer) base (envX cn cs L a0 ccd cl :: outer) g') (X : (hd.heap_39 w.params).In g') (T : Top hd.view_39 lse mean mg mb g') (hdp : dp + 9 < recursionLimit) (hun : un + 8 * 9 < cLine)
    (R a b c : Addr) (va vb vc : List Value) (ka kb kc kr : Nat) (G : Addr) (vg : List Value) (kg : Nat) (u : Str → Option Value) (oT oW : Obj) (hig : IntsAre vg ss)
    (s : Shared) (Q : Flow → Shared → Prop) (E : Value → Shared → Prop) (hE : PassesOwn (model PySem.Challenge.rw_aw0019_01.row.prog w) ((ktrTop dp un gd cn cs L a0 ccd cl outer).deeper (envOfC (Str.ofString "_law_holds") scopeH L' 73 (.ref 72))) (envOfC (Str.ofString "_law_holds") scopeH L' 73 (.ref 72)) E)
    (dW : oW.data = Data.cell (some (.bool wide))) (dT : oT.data = Data.cell (some (.str (pText ss) tx)))
    (F : Fr g' L' s.heap (kstB u [((Str.ofString "whole"), .int (pHash (codes (pText ss)) seed wide) tw), ((Str.ofString "signs"), .ref G), ((Str.ofString "turn"), .int turn t4), ((Str.ofString "seed"), .int seed t2)])) (N : News g' L' s.heap [(G, listOf vg.toArray kg), ((L' + 1 + 1 + 1 + 1 + 1 + 1 + 1 ), oT), ((L' + 1 + 1 ), oW), (R, listOf [Value.ref a, Value.ref b, Value.ref c].toArray kr), (a, listOf va.toArray ka), (b, listOf vb.toArray kb), (c, listOf vc.toArray kc)])
    (K : ∀ (u' : Str → Option Value) (h' : Heap) (tk' : Nat), Fr g' L' h' (kstB u' [((Str.ofString "whole"), .int (pHash (codes (pText ss)) seed wide) tw), ((Str.ofString "signs"), .ref G), ((Str.ofString "turn"), .int turn t4), ((Str.ofString "seed"), .int seed t2)]) → News g' L' h' [(G, listOf vg.toArray kg), ((L' + 1 + 1 + 1 + 1 + 1 + 1 + 1 ), oT), ((L' + 1 + 1 ), oW), (R, listOf [Value.ref a, Value.ref b, Value.ref c].toArray kr), (a, listOf va.toArray ka), (b, listOf vb.toArray kb), (c, listOf vc.toArray kc)] →
      wpAny (model PySem.Challenge.rw_aw0019_01.row.prog w) ((ktrTop dp un gd cn cs L a0 ccd cl outer).deeper (envOfC (Str.ofString "_law_holds") scopeH L' 73 (.ref 72))) (execs (List.drop 11 (bodyAt 12)) (envOfC (Str.ofString "_law_holds") scopeH L' 73 (.ref 72))) Q E { s with heap := h', toks := tk' }) :
    wpAny (model PySem.Challenge.rw_aw0019_01.row.prog w) ((ktrTop dp un gd cn cs L a0 ccd cl outer).deeper (envOfC (Str.ofString "_law_holds") scopeH L' 73 (.ref 72))) (execs (List.drop 10 (bodyAt 12)) (envOfC (Str.ofString "_law_holds") scopeH L' 73 (.ref 72))) Q E s := by
  revert X; k_fill; intro X
  have hpl : (pText ss).length = ss.length := pText_length ss
  conv => arg 3; arg 1; whnf
  conv in (occs := *) scopeH => all_goals whnf
  k_steps
  (rename Fr _ _ _ _ => kF'); (rename News _ _ _ _ => kN'); (rename IsRange _ _ _ _ _ _ _ _ => kR')
  with_unfolding_all refine lp_range [Str.ofString "ahead"] (by rfl) kR' (small_one (by omega) (by omega) (by omega) (by omega)) (rangeSize_nat _ _) kF' kN' (fun k t u2 h tk own hk F1 N1 => ?_) (fun u2 h tk F1 N1 => ?_)
  · clear kF' kN' K
    simp only [List.cons_append, List.nil_append] at N1
    k_fold
    k_steps
    all_goals (rename Fr _ _ _ _ => kF9; rename News _ _ _ _ => kN9)
    all_goals first
      | exact (end4 (by assumption) (by omega)).elim
      | exact LPost.next kF9 kN9 (fun p hp => by simpa only [List.cons_append, List.nil_append] using hp) keep_one
  · exact K _ h tk (fr_kst F1 (by kst_all)) N1

end Mine

-- part SE
theorem Mine.off_SE : True := by
  w_top off
  trivial
namespace Mine
local macro_rules | `(tactic| walk_at "call ref") => `(tactic| (k_here; (with_reducible show wpAny _ _ (call (Value.ref _) [Value.int _ _, Value.bool _]) _ _ _); k_dflt (refine' c_seed _ _ _ _ _ _ _ _ _ _ _ _ _ _ _ _ _ _ _ _ _ _ _ _ _ ?kB ?kF ?kX ?kN ?kT ?kK ?kd ?ku ?_; (case kB => k_asm); (case kF => k_asm); (case kX => k_asm); (case kN => k_asm); (case kT => k_asm); (case kK => first | exact rfl | assumption); (case kd => ktr_room); (case ku => ktr_units); k_whole); intro t9 h9 tk9 F9 N9; (try dsimp only); (try k_sweep); (try k_fold)))
local macro_rules | `(tactic| walk_at "call ref") => `(tactic| (k_here; (with_reducible show wpAny _ _ (call (Value.ref _) [Value.ref _, Value.int _ _, Value.bool _]) _ _ _); k_dflt (refine' c_backM _ _ _ _ _ _ _ _ _ _ _ _ ?kl ?ki _ _ _ _ _ _ _ _ _ _ _ _ _ _ _ _ _ ?kB ?kF ?kX ?kN ?kT ?kK ?kd ?ku ?_; (case kB => k_asm); (case kF => k_asm); (case kX => k_asm); (case kN => k_asm); (case kT => k_asm); (case kK => first | exact rfl | assumption); (case kd => ktr_room); (case ku => ktr_units); (case kl => k_mem); (case ki => assumption); k_whole); intro t9 h9 tk9 F9 N9; (try dsimp only); (try k_sweep); (try k_fold)))
local macro_rules | `(tactic| walk_at "call ref") => `(tactic| (k_here; (with_reducible show wpAny _ _ (call (Value.ref _) [Value.ref _]) _ _ _); k_dflt (refine' c_textM _ _ _ _ _ _ _ _ _ ?kl ?ki ?ks ?kz _ _ _ _ _ _ _ _ _ _ _ _ _ _ _ _ _ ?kB ?kF ?kX ?kN ?kT ?kK ?kd ?ku ?_; (case kB => k_asm); (case kF => k_asm); (case kX => k_asm); (case kN => k_asm); (case kT => k_asm); (case kK => first | exact rfl | assumption); (case kd => ktr_room); (case ku => ktr_units); (case kl => k_mem); (case ki => assumption); (case ks => first | assumption | exact pSigns_ok _ _); (case kz => first | omega | exact pSigns_le _ _); k_whole); intro t9 h9 tk9 F9 N9; (try dsimp only); (try k_sweep); (try k_fold)))
local macro_rules | `(tactic| walk_at "call ref") => `(tactic| (k_here; (with_reducible show wpAny _ _ (call (Value.ref _) [Value.str _ _, Value.int _ _, Value.bool _]) _ _ _); k_dflt (refine' c_hash _ _ _ _ _ _ _ _ _ _ ?kz _ _ _ _ _ _ _ _ _ _ _ _ _ _ _ _ _ ?kB ?kF ?kX ?kN ?kT ?kK ?kd ?ku ?_; (case kB => k_asm); (case kF => k_asm); (case kX => k_asm); (case kN => k_asm); (case kT => k_asm); (case kK => first | exact rfl | assumption); (case kd => ktr_room); (case ku => ktr_units); (case kz => first | assumption | (show Str.length _ ≤ _; simp only [pText_length, one_length, strLen_append, PySem.sizeLine_eq]; omega)); k_whole); intro t9 h9 tk9 F9 N9; (try dsimp only); (try k_sweep); (try k_fold)))
local macro_rules | `(tactic| walk_at "call ref") => `(tactic| (k_here; (with_reducible show wpAny _ _ (call (Value.ref _) [Value.bytes _ _, Value.int _ _, Value.bool _]) _ _ _); k_dflt (refine' c_hashB _ _ _ _ _ _ _ _ _ _ ?kz _ _ _ _ _ _ _ _ _ _ _ _ _ _ _ _ _ ?kB ?kF ?kX ?kN ?kT ?kK ?kd ?ku ?_; (case kB => k_asm); (case kF => k_asm); (case kX => k_asm); (case kN => k_asm); (case kT => k_asm); (case kK => first | exact rfl | assumption); (case kd => ktr_room); (case ku => ktr_units); (case kz => first | assumption | (show Str.length _ ≤ _; simp only [pText_length, one_length, strLen_append, PySem.sizeLine_eq]; omega)); k_whole); intro t9 h9 tk9 F9 N9; (try dsimp only); (try k_sweep); (try k_fold)))
local macro_rules | `(tactic| walk_at "binaryOp Mult int int") => `(tactic| (k_here; refine mul_int ?_ (by first | exact IntMulOk.of_bits (pSize_bits _) (by assumption) | exact mul_three (by assumption))))
local macro_rules | `(tactic| walk_at "binaryOp Add str str") => `(tactic| (k_here; refine PyProof.Rows.add_str ?_ (by simp only [pText_length, one_length, strLen_append, PySem.sizeLine_eq]; omega); intro _ _))
local macro_rules | `(tactic| walk_at "FinE") => `(tactic| ((unfold LCg.FinE); intro D' h' tk' F' N' o1'; (try simp only [LCg.Off1, and_true, nen_eq] at o1'); (repeat (obtain ⟨_, o1'⟩ := o1')); (try simp only [List.nil_append, List.cons_append] at N'); (try dsimp only)))
local macro_rules | `(tactic| walk_at "CompRest") => `(tactic| (with_unfolding_all (refine LCg.CompRest.succ ?_; intro v' I' oI' C' oC' D' m' h' tk' E' hv' hC' hx' F' N' off' ne'; clear ne'; (first | lcg_open hv' | (obtain ⟨t9', hv9'⟩ := hv'; subst hv9')); (try simp only [LCg.Off3, and_true] at off'); (replace off' := Apart.mk off'))))
local macro_rules | `(tactic| lcg_off) => `(tactic| ((try simp only [LCg.Off3, and_true]); exact Apart.out (by assumption)))
local macro_rules | `(tactic| k_ne) => `(tactic| (refine neN ?_; (try dsimp only); first | (refine NeN.out ?_; with_reducible assumption) | (refine NeN.symm ?_; with_reducible assumption) | omega))
local macro_rules | `(tactic| passes_own) => `(tactic| assumption)
local macro_rules | `(tactic| walk_at "ItemsRest") => `(tactic| (refine Hold.out ?_))
local macro_rules | `(tactic| walk_at "execs cons") => `(tactic| ((rename ForMark => mk'); clear mk'; (with_reducible show wpAny _ _ (execs (Stmt.For _ _ _ _ _ :: _) _) _ _ _); refine Hold.out ?_))
local macro_rules | `(tactic| walk_at "eval IfExp") => `(tactic| ((rename IfMark => mk'); clear mk'; refine Hold.out ?_))
local macro_rules | `(tactic| walk_at "binaryOp Mod int int") => `(tactic| (k_here; refine mod_int' ?_ ?_; first | exact pSize_ne _ | exact pSize1_ne _))
theorem segE (w : World) (mean : ExcName → Option Value) (mg mb : Str → Option Value) (ss : List Int) (hss : SignsOk ss) (hls : ss.length < 13)
    (seed turn : Int) (t2 t4 tw tx : Tok) (ht0 : 0 ≤ turn) (ht1 : turn < 55296) (wide : Bool)
    (dp un : Nat) (gd : Option (List Code)) (cn : Str) (cs : Scope) (L a0 : Addr) (ccd : Value) (cl : List (Str × Addr)) (outer : List Env) (base g' : Heap) (L' : Addr)
    (B : Below (ktrTop dp un gd cn cs L a0 ccd cl outer) base (envX cn cs L a0 ccd cl :: outer) g') (X : (hd.heap_39 w.params).In g') (T : Top hd.view_39 lse mean mg mb g') (hdp : dp + 9 < recursionLimit) (hun : un + 8 * 9 < cLine)
    (R a b c : Addr) (va vb vc : List Value) (ka kb kc kr : Nat) (G : Addr) (vg : List Value) (kg : Nat) (u : Str → Option Value) (oT oW : Obj) (hig : IntsAre vg ss)
    (s : Shared) (Q : Flow → Shared → Prop) (E : Value → Shared → Prop) (hE : PassesOwn (model PySem.Challenge.rw_aw0019_01.row.prog w) ((ktrTop dp un gd cn cs L a0 ccd cl outer).deeper (envOfC (Str.ofString "_law_holds") scopeH L' 73 (.ref 72))) (envOfC (Str.ofString "_law_holds") scopeH L' 73 (.ref 72)) E)
    (dW : oW.data = Data.cell (some (.bool wide))) (dT : oT.data = Data.cell (some (.str (pText ss) tx)))
    (F : Fr g' L' s.heap (kstB u [((Str.ofString "whole"), .int (pHash (codes (pText ss)) seed wide) tw), ((Str.ofString "signs"), .ref G), ((Str.ofString "turn"), .int turn t4), ((Str.ofString "seed"), .int seed t2)])) (N : News g' L' s.heap [(G, listOf vg.toArray kg), ((L' + 1 + 1 + 1 + 1 + 1 + 1 + 1 ), oT), ((L' + 1 + 1 ), oW), (R, listOf [Value.ref a, Value.ref b, Value.ref c].toArray kr), (a, listOf va.toArray ka), (b, listOf vb.toArray kb), (c, listOf vc.toArray kc)])
    (K : ∀ (u' : Str → Option Value) (h' : Heap) (tk' : Nat), Fr g' L' h' (kstB u' [((Str.ofString "whole"), .int (pHash (codes (pText ss)) seed wide) tw), ((Str.ofString "signs"), .ref G), ((Str.ofString "turn"), .int turn t4), ((Str.ofString "seed"), .int seed t2)]) → News g' L' h' [(G, listOf vg.toArray kg), ((L' + 1 + 1 + 1 + 1 + 1 + 1 + 1 ), oT), ((L' + 1 + 1 ), oW), (R, listOf [Value.ref a, Value.ref b, Value.ref c].toArray kr), (a, listOf va.toArray ka), (b, listOf vb.toArray kb), (c, listOf vc.toArray kc)] →
      wpAny (model PySem.Challenge.rw_aw0019_01.row.prog w) ((ktrTop dp un gd cn cs L a0 ccd cl outer).deeper (envOfC (Str.ofString "_law_holds") scopeH L' 73 (.ref 72))) (execs (List.drop 12 (bodyAt 12)) (envOfC (Str.ofString "_law_holds") scopeH L' 73 (.ref 72))) Q E { s with heap := h', toks := tk' }) :
    wpAny (model PySem.Challenge.rw_aw0019_01.row.prog w) ((ktrTop dp un gd cn cs L a0 ccd cl outer).deeper (envOfC (Str.ofString "_law_holds") scopeH L' 73 (.ref 72))) (execs (List.drop 11 (bodyAt 12)) (envOfC (Str.ofString "_law_holds") scopeH L' 73 (.ref 72))) Q E s := by
  revert X; k_fill; intro X
  have hpl : (pText ss).length = ss.length := pText_length ss
  conv => arg 3; arg 1; whnf
  conv in (occs := *) scopeH => all_goals whnf
  k_steps
  (rename Fr _ _ _ _ => kF'); (rename News _ _ _ _ => kN'); (rename IsRange _ _ _ _ _ _ _ _ => kR')
  with_unfolding_all refine lp_range [Str.ofString "other"] (by rfl) kR' (small_one (by omega) (by omega) (by omega) (by omega)) (rangeSize_nat _ _) kF' kN' (fun k t u2 h tk own hk F1 N1 => ?_) (fun u2 h tk F1 N1 => ?_)
  · clear kF' kN' K
    simp only [List.cons_append, List.nil_append] at N1
    k_fold
    k_steps
    all_goals (rename Fr _ _ _ _ => kF9; rename News _ _ _ _ => kN9)
    all_goals first
      | exact (end5 (by assumption) (by assumption) (by omega) hss).elim
      | exact LPost.next kF9 kN9 (fun p hp => by simpa only [List.cons_append, List.nil_append] using hp) keep_one
  · exact K _ h tk (fr_kst F1 (by kst_all)) N1

end Mine

-- part SF
theorem Mine.off_SF : True := by
  w_top off
  trivial
namespace Mine
local macro_rules | `(tactic| walk_at "call ref") => `(tactic| (k_here; (with_reducible show wpAny _ _ (call (Value.ref _) [Value.int _ _, Value.bool _]) _ _ _); k_dflt (refine' c_seed _ _ _ _ _ _ _ _ _ _ _ _ _ _ _ _ _ _ _ _ _ _ _ _ _ ?kB ?kF ?kX ?kN ?kT ?kK ?kd ?ku ?_; (case kB => k_asm); (case kF => k_asm); (case kX => k_asm); (case kN => k_asm); (case kT => k_asm); (case kK => first | exact rfl | assumption); (case kd => ktr_room); (case ku => ktr_units); k_whole); intro t9 h9 tk9 F9 N9; (try dsimp only); (try k_sweep); (try k_fold)))
local macro_rules | `(tactic| walk_at "call ref") => `(tactic| (k_here; (with_reducible show wpAny _ _ (call (Value.ref _) [Value.ref _, Value.int _ _, Value.bool _]) _ _ _); k_dflt (refine' c_backM _ _ _ _ _ _ _ _ _ _ _ _ ?kl ?ki _ _ _ _ _ _ _ _ _ _ _ _ _ _ _ _ _ ?kB ?kF ?kX ?kN ?kT ?kK ?kd ?ku ?_; (case kB => k_asm); (case kF => k_asm); (case kX => k_asm); (case kN => k_asm); (case kT => k_asm); (case kK => first | exact rfl | assumption); (case kd => ktr_room); (case ku => ktr_units); (case kl => k_mem); (case ki => assumption); k_whole); intro t9 h9 tk9 F9 N9; (try dsimp only); (try k_sweep); (try k_fold)))
local macro_rules | `(tactic| walk_at "call ref") => `(tactic| (k_here; (with_reducible show wpAny _ _ (call (Value.ref _) [Value.ref _]) _ _ _); k_dflt (refine' c_textM _ _ _ _ _ _ _ _ _ ?kl ?ki ?ks ?kz _ _ _ _ _ _ _ _ _ _ _ _ _ _ _ _ _ ?kB ?kF ?kX ?kN ?kT ?kK ?kd ?ku ?_; (case kB => k_asm); (case kF => k_asm); (case kX => k_asm); (case kN => k_asm); (case kT => k_asm); (case kK => first | exact rfl | assumption); (case kd => ktr_room); (case ku => ktr_units); (case kl => k_mem); (case ki => assumption); (case ks => first | assumption | exact pSigns_ok _ _); (case kz => first | omega | exact pSigns_le _ _); k_whole); intro t9 h9 tk9 F9 N9; (try dsimp only); (try k_sweep); (try k_fold)))
local macro_rules | `(tactic| walk_at "call ref") => `(tactic| (k_here; (with_reducible show wpAny _ _ (call (Value.ref _) [Value.str _ _, Value.int _ _, Value.bool _]) _ _ _); k_dflt (refine' c_hash _ _ _ _ _ _ _ _ _ _ ?kz _ _ _ _ _ _ _ _ _ _ _ _ _ _ _ _ _ ?kB ?kF ?kX ?kN ?kT ?kK ?kd ?ku ?_; (case kB => k_asm); (case kF => k_asm); (case kX => k_asm); (case kN => k_asm); (case kT => k_asm); (case kK => first | exact rfl | assumption); (case kd => ktr_room); (case ku => ktr_units); (case kz => first | assumption | (show Str.length _ ≤ _; simp only [pText_length, one_length, strLen_append, PySem.sizeLine_eq]; omega)); k_whole); intro t9 h9 tk9 F9 N9; (try dsimp only); (try k_sweep); (try k_fold)))
local macro_rules | `(tactic| walk_at "call ref") => `(tactic| (k_here; (with_reducible show wpAny _ _ (call (Value.ref _) [Value.bytes _ _, Value.int _ _, Value.bool _]) _ _ _); k_dflt (refine' c_hashB _ _ _ _ _ _ _ _ _ _ ?kz _ _ _ _ _ _ _ _ _ _ _ _ _ _ _ _ _ ?kB ?kF ?kX ?kN ?kT ?kK ?kd ?ku ?_; (case kB => k_asm); (case kF => k_asm); (case kX => k_asm); (case kN => k_asm); (case kT => k_asm); (case kK => first | exact rfl | assumption); (case kd => ktr_room); (case ku => ktr_units); (case kz => first | assumption | (show Str.length _ ≤ _; simp only [pText_length, one_length, strLen_append, PySem.sizeLine_eq]; omega)); k_whole); intro t9 h9 tk9 F9 N9; (try dsimp only); (try k_sweep); (try k_fold)))
local macro_rules | `(tactic| walk_at "binaryOp Mult int int") => `(tactic| (k_here; refine mul_int ?_ (by first | exact IntMulOk.of_bits (pSize_bits _) (by assumption) | exact mul_three (by assumption))))
local macro_rules | `(tactic| walk_at "binaryOp Add str str") => `(tactic| (k_here; refine PyProof.Rows.add_str ?_ (by simp only [pText_length, one_length, strLen_append, PySem.sizeLine_eq]; omega); intro _ _))
local macro_rules | `(tactic| walk_at "FinE") => `(tactic| ((unfold LCg.FinE); intro D' h' tk' F' N' o1'; (try simp only [LCg.Off1, and_true, nen_eq] at o1'); (repeat (obtain ⟨_, o1'⟩ := o1')); (try simp only [List.nil_append, List.cons_append] at N'); (try dsimp only)))
local macro_rules | `(tactic| walk_at "CompRest") => `(tactic| (with_unfolding_all (refine LCg.CompRest.succ ?_; intro v' I' oI' C' oC' D' m' h' tk' E' hv' hC' hx' F' N' off' ne'; clear ne'; (first | lcg_open hv' | (obtain ⟨t9', hv9'⟩ := hv'; subst hv9')); (try simp only [LCg.Off3, and_true] at off'); (replace off' := Apart.mk off'))))
local macro_rules | `(tactic| lcg_off) => `(tactic| ((try simp only [LCg.Off3, and_true]); exact Apart.out (by assumption)))
local macro_rules | `(tactic| k_ne) => `(tactic| (refine neN ?_; (try dsimp only); first | (refine NeN.out ?_; with_reducible assumption) | (refine NeN.symm ?_; with_reducible assumption) | omega))
local macro_rules | `(tactic| passes_own) => `(tactic| assumption)
local macro_rules | `(tactic| walk_at "ItemsRest") => `(tactic| (refine Hold.out ?_))
local macro_rules | `(tactic| walk_at "execs cons") => `(tactic| ((rename ForMark => mk'); clear mk'; (with_reducible show wpAny _ _ (execs (Stmt.For _ _ _ _ _ :: _) _) _ _ _); refine Hold.out ?_))
local macro_rules | `(tactic| walk_at "eval IfExp") => `(tactic| ((rename IfMark => mk'); clear mk'; refine Hold.out ?_))
local macro_rules | `(tactic| walk_at "binaryOp Mod int int") => `(tactic| (k_here; refine mod_int' ?_ ?_; first | exact pSize_ne _ | exact pSize1_ne _))
theorem segF (w : World) (mean : ExcName → Option Value) (mg mb : Str → Option Value) (ss : List Int) (hss : SignsOk ss) (hls : ss.length < 13)
    (seed turn : Int) (t2 t4 tw tx : Tok) (ht0 : 0 ≤ turn) (ht1 : turn < 55296) (wide : Bool)
    (dp un : Nat) (gd : Option (List Code)) (cn : Str) (cs : Scope) (L a0 : Addr) (ccd : Value) (cl : List (Str × Addr)) (outer : List Env) (base g' : Heap) (L' : Addr)
    (B : Below (ktrTop dp un gd cn cs L a0 ccd cl outer) base (envX cn cs L a0 ccd cl :: outer) g') (X : (hd.heap_39 w.params).In g') (T : Top hd.view_39 lse mean mg mb g') (hdp : dp + 9 < recursionLimit) (hun : un + 8 * 9 < cLine)
    (R a b c : Addr) (va vb vc : List Value) (ka kb kc kr : Nat) (G : Addr) (vg : List Value) (kg : Nat) (u : Str → Option Value) (oT oW : Obj) (hig : IntsAre vg ss)
    (s : Shared) (Q : Flow → Shared → Prop) (E : Value → Shared → Prop) (hE : PassesOwn (model PySem.Challenge.rw_aw0019_01.row.prog w) ((ktrTop dp un gd cn cs L a0 ccd cl outer).deeper (envOfC (Str.ofString "_law_holds") scopeH L' 73 (.ref 72))) (envOfC (Str.ofString "_law_holds") scopeH L' 73 (.ref 72)) E)
    (dW : oW.data = Data.cell (some (.bool wide))) (dT : oT.data = Data.cell (some (.str (pText ss) tx)))
    (F : Fr g' L' s.heap (kstB u [((Str.ofString "whole"), .int (pHash (codes (pText ss)) seed wide) tw), ((Str.ofString "signs"), .ref G), ((Str.ofString "turn"), .int turn t4), ((Str.ofString "seed"), .int seed t2)])) (N : News g' L' s.heap [(G, listOf vg.toArray kg), ((L' + 1 + 1 + 1 + 1 + 1 + 1 + 1 ), oT), ((L' + 1 + 1 ), oW), (R, listOf [Value.ref a, Value.ref b, Value.ref c].toArray kr), (a, listOf va.toArray ka), (b, listOf vb.toArray kb), (c, listOf vc.toArray kc)])
    (K : ∀ (h' : Heap) (tk' : Nat), Fr g' L' h' (kstB u [((Str.ofString "whole"), .int (pHash (codes (pText ss)) seed wide) tw), ((Str.ofString "signs"), .ref G), ((Str.ofString "turn"), .int turn t4), ((Str.ofString "seed"), .int seed t2)]) → News g' L' h' [(G, listOf vg.toArray kg), ((L' + 1 + 1 + 1 + 1 + 1 + 1 + 1 ), oT), ((L' + 1 + 1 ), oW), (R, listOf [Value.ref a, Value.ref b, Value.ref c].toArray kr), (a, listOf va.toArray ka), (b, listOf vb.toArray kb), (c, listOf vc.toArray kc)] → Q (.ret (.bool true)) { s with heap := h', toks := tk' }) :
    wpAny (model PySem.Challenge.rw_aw0019_01.row.prog w) ((ktrTop dp un gd cn cs L a0 ccd cl outer).deeper (envOfC (Str.ofString "_law_holds") scopeH L' 73 (.ref 72))) (execs (List.drop 12 (bodyAt 12)) (envOfC (Str.ofString "_law_holds") scopeH L' 73 (.ref 72))) Q E s := by
  revert X; k_fill; intro X
  have hpl : (pText ss).length = ss.length := pText_length ss
  conv => arg 3; arg 1; whnf
  conv in (occs := *) scopeH => all_goals whnf
  have hbs : (byteArr ss).size ≤ sizeLine := by rw [byteArr_size, PySem.sizeLine_eq]; omega
  k_steps
  · (rename Fr _ _ _ _ => kF9); (rename News _ _ _ _ => kN9)
    exact q_true (by assumption) (K _ _ kF9 (cb_drop kN9 (by (with_unfolding_all k_allIn))))
  · (rename Fr _ _ _ _ => kF9); (rename News _ _ _ _ => kN9)
    refine KBa.make_K kF9 kN9 (by rfl) (News.isList kN9 (by k_mem)) hig (bytes_in hss (by assumption) (by assumption)) (by omega) ?_
    intro h5 t5 k5 F5 N5 hIn5
    k_steps
    (rename Fr _ _ _ _ => kF8); (rename News _ _ _ _ => kN8)
    exact q_beq (end6 hIn5) (K _ _ kF8 (cb_drop kN8 (by (with_unfolding_all k_allIn))))

end Mine

-- part SH
theorem Mine.off_SH : True := by
  w_top off
  trivial
namespace Mine
theorem c_holds (w : World) (mean : ExcName → Option Value) (mg mb : Str → Option Value) (R a b c : Addr) (va vb vc : List Value) (na nb nc : List Int) (ka kb kc kr : Nat)
    (hia : IntsAre va na) (hib : IntsAre vb nb) (hic : IntsAre vc nc) (hsa : SignsOk na) (hsb : SignsOk nb) (hsc : SignsOk nc) (hla : na.length < 5) (hlb : nb.length < 5) (hlc : nc.length < 5)
    (value seed off turn : Int) (t1 t2 t3 t4 : Tok) (hoff : Builtin.Int.intBits off ≤ 2 ^ 20) (ht0 : 0 ≤ turn) (ht1 : turn < 55296) (wide : Bool) :
    Ctr 9 w mean mg mb 73 [.ref R, .int value t1, .int seed t2, .int off t3, .int turn t4, .bool wide]
      [(R, listOf [Value.ref a, Value.ref b, Value.ref c].toArray kr), (a, listOf va.toArray ka), (b, listOf vb.toArray kb), (c, listOf vc.toArray kc)]
      (fun h₀ L m s Q => CbRet h₀ L m [(R, listOf [Value.ref a, Value.ref b, Value.ref c].toArray kr), (a, listOf va.toArray ka), (b, listOf vb.toArray kb), (c, listOf vc.toArray kc)] s Q (fun _ => .bool true)) := by
  dsimp only [Ctr, CbRet]
  k_fill
  intros
  rename_i hret
  refine wpAny_call ?_
  (k_dflt (refine' code_defC ?k1 ?k2 ?k3 ?k4 ?k5 ?kA ?kF ?kK ?k6 ?k7 ?k8 ?k9 ?kB ?kD ?_ ?c2 ?c3 ?c4; (case kA => exact rfl); (case kF => exact rfl); (case kK => assumption); (case k1 => k_asm); (case k2 => k_asm); (case k3 => k_asm); (case k4 => k_asm); (case k5 => k_asm); (case k6 => k_is); (case k7 => k_is); (case k8 => ktr_room); (case k9 => first | exact BindsTo.of_eq rfl | exact binds_K (by k_in) rfl (by k_is) rfl rfl rfl); (case kB => exact rfl); (case kD => decide +kernel); (case c2 => exact rfl); (case c3 => exact rfl); (case c4 => exact rfl); k_whole; intro g' L' h' tk' cells' FG' F' N' Y' B' X' T' l1; (try k_lt l1); k_cells Y'; (try simp only [List.cons_append, List.nil_append] at N'); (try dsimp only); (try k_lift B'); (try k_fold)))
  (rename Fr _ _ _ _ => kF'); (rename News _ _ _ _ => kN')
  have hss : SignsOk (na ++ nb ++ nc) := (hsa.app hsb).app hsc
  have hls : (na ++ nb ++ nc).length < 13 := by simp only [List.length_append]; omega
  refine segA w _ _ _ R a b c va vb vc na nb nc ka kb kc kr hia hib hic hsa hsb hsc hla hlb hlc value seed off turn t1 t2 t3 t4 hoff ht0 ht1 wide _ _ _ _ _ _ _ _ _ _ _ _ _ (by assumption) (by assumption) (by assumption) (by assumption) (by assumption) (by assumption) _ _ _ ?hE _ _ _ _ _ _ _ _ _ _ _ _ _ (by assumption) (by assumption) (by assumption) (by assumption) (by assumption) (by assumption) (by assumption) (fr_kst kF' (by kst_all)) kN' ?_
  case hE => first | passes_own | with_unfolding_all passes_own
  intro S ke u1 oT1 oK1 oE1 oG1 oO1 oS1 oW1 vK1 vT1 e1 e2 e3 ts tg tt tb h1 tk1 F1 N1 dW1 dO1 dS1 dG1 dE1 dK1 dT1 off1
  refine segB w _ _ _ R a b c va vb vc na nb nc ka kb kc kr hia hib hic hsa hsb hsc hla hlb hlc value seed off turn t1 t2 t3 t4 hoff ht0 ht1 wide _ _ _ _ _ _ _ _ _ _ _ _ _ (by assumption) (by assumption) (by assumption) (by assumption) (by assumption) (by assumption) _ _ _ ?hE S ke u1 oT1 oK1 oE1 oG1 oO1 oS1 oW1 vK1 vT1 e1 e2 e3 ts tg tt tb off1 dW1 dO1 dS1 dG1 dE1 dK1 dT1 F1 N1 ?_
  case hE => first | passes_own | with_unfolding_all passes_own
  intro u2 oT2 oK2 oE2 oG2 oO2 oS2 oW2 vK2 vT2 h2 tk2 F2 N2 dW2 dO2 dS2 dG2 dE2 dK2 dT2
  refine segC w _ _ _ R a b c va vb vc na nb nc ka kb kc kr hia hib hic hsa hsb hsc hla hlb hlc value seed off turn t1 t2 t3 t4 hoff ht0 ht1 wide _ _ _ _ _ _ _ _ _ _ _ _ _ (by assumption) (by assumption) (by assumption) (by assumption) (by assumption) (by assumption) _ _ _ ?hE S ke u2 oT2 oK2 oE2 oG2 oO2 oS2 oW2 vK2 vT2 e1 e2 e3 ts tg tt tb off1 dW2 dO2 dS2 dG2 dE2 dK2 dT2 F2 N2 ?_
  case hE => first | passes_own | with_unfolding_all passes_own
  intro G vg kg u3 oT3 oW3 tw tx h3 tk3 F3 N3 hig dW3 dT3
  refine segD w _ _ _ _ hss hls seed turn t2 t4 tw tx ht0 ht1 wide _ _ _ _ _ _ _ _ _ _ _ _ _ (by assumption) (by assumption) (by assumption) (by assumption) (by assumption) R a b c va vb vc ka kb kc kr G vg kg u3 oT3 oW3 hig _ _ _ ?hE dW3 dT3 F3 N3 ?_
  case hE => first | passes_own | with_unfolding_all passes_own
  intro u4 h4 tk4 F4 N4
  refine segE w _ _ _ _ hss hls seed turn t2 t4 tw tx ht0 ht1 wide _ _ _ _ _ _ _ _ _ _ _ _ _ (by assumption) (by assumption) (by assumption) (by assumption) (by assumption) R a b c va vb vc ka kb kc kr G vg kg u4 oT3 oW3 hig _ _ _ ?hE dW3 dT3 F4 N4 ?_
  case hE => first | passes_own | with_unfolding_all passes_own
  intro u5 h5 tk5 F5 N5
  refine segF w _ _ _ _ hss hls seed turn t2 t4 tw tx ht0 ht1 wide _ _ _ _ _ _ _ _ _ _ _ _ _ (by assumption) (by assumption) (by assumption) (by assumption) (by assumption) R a b c va vb vc ka kb kc kr G vg kg u5 oT3 oW3 hig _ _ _ ?hE dW3 dT3 F5 N5 ?_
  case hE => first | passes_own | with_unfolding_all passes_own
  intro h6 tk6 F6 N6
  clear F1 N1 F2 N2 F3 N3 F4 N4 F5 N5
  k_steps
  (rename Fr _ _ _ _ => kF9); (rename News _ _ _ _ => kN9)
  exact hret 0 _ _ kF9 (cb_drop kN9 (by (with_unfolding_all k_allIn)))
end Mine

-- part SK
theorem Mine.off_SK : True := by
  w_top off
  trivial
namespace Mine
theorem c_holdsM (w : World) (mean : ExcName → Option Value) (mg mb : Str → Option Value) (news : List (Addr × Obj)) (R a b c : Addr) (va vb vc : List Value) (na nb nc : List Int) (ka kb kc kr : Nat) (value seed off turn : Int) (t1 t2 t3 t4 : Tok) (wide : Bool)
    (hm1 : (R, listOf [Value.ref a, Value.ref b, Value.ref c].toArray kr) ∈ news) (hm2 : (a, listOf va.toArray ka) ∈ news) (hm3 : (b, listOf vb.toArray kb) ∈ news) (hm4 : (c, listOf vc.toArray kc) ∈ news)
    (hia : IntsAre va na) (hib : IntsAre vb nb) (hic : IntsAre vc nc) (hsa : SignsOk na) (hsb : SignsOk nb) (hsc : SignsOk nc) (hla : na.length < 5) (hlb : nb.length < 5) (hlc : nc.length < 5)
    (hoff : Builtin.Int.intBits off ≤ 2 ^ 20) (ht0 : 0 ≤ turn) (ht1 : turn < 55296) :
    Ctr 9 w mean mg mb 73 [.ref R, .int value t1, .int seed t2, .int off t3, .int turn t4, .bool wide] news
      (fun h₀ L m s Q => CbRet h₀ L m [(R, listOf [Value.ref a, Value.ref b, Value.ref c].toArray kr), (a, listOf va.toArray ka), (b, listOf vb.toArray kb), (c, listOf vc.toArray kc)] s Q (fun _ => .bool true)) :=
  fun dp un gd cn cs x ccd cl outer A₀ base h₀ L m s Q E B F X N T k d u r => c_holds w mean mg mb R a b c va vb vc na nb nc ka kb kc kr hia hib hic hsa hsb hsc hla hlb hlc value seed off turn t1 t2 t3 t4 hoff ht0 ht1 wide dp un gd cn cs x ccd cl outer A₀ base h₀ L m s Q E B F X
    (cb_drop N (fun p hp => by
      simp only [List.mem_cons, List.not_mem_nil, or_false] at hp
      rcases hp with rfl | rfl | rfl | rfl <;> assumption)) T k d u r
end Mine

-- part SL
theorem Mine.off_SL : True := by
  w_top off
  trivial
namespace Mine
local macro_rules | `(tactic| walk_at "call ref") => `(tactic| (k_here; (with_reducible show wpAny _ _ (call (Value.ref _) [Value.int _ _, Value.bool _]) _ _ _); k_dflt (refine' c_seed _ _ _ _ _ _ _ _ _ _ _ _ _ _ _ _ _ _ _ _ _ _ _ _ _ ?kB ?kF ?kX ?kN ?kT ?kK ?kd ?ku ?_; (case kB => k_asm); (case kF => k_asm); (case kX => k_asm); (case kN => k_asm); (case kT => k_asm); (case kK => first | exact rfl | assumption); (case kd => ktr_room); (case ku => ktr_units); k_whole); intro t9 h9 tk9 F9 N9; (try dsimp only); (try k_sweep); (try k_fold)))
local macro_rules | `(tactic| walk_at "call ref") => `(tactic| (k_here; (with_reducible show wpAny _ _ (call (Value.ref _) [Value.ref _, Value.int _ _, Value.bool _]) _ _ _); k_dflt (refine' c_backM _ _ _ _ _ _ _ _ _ _ _ _ ?kl ?ki _ _ _ _ _ _ _ _ _ _ _ _ _ _ _ _ _ ?kB ?kF ?kX ?kN ?kT ?kK ?kd ?ku ?_; (case kB => k_asm); (case kF => k_asm); (case kX => k_asm); (case kN => k_asm); (case kT => k_asm); (case kK => first | exact rfl | assumption); (case kd => ktr_room); (case ku => ktr_units); (case kl => k_mem); (case ki => assumption); k_whole); intro t9 h9 tk9 F9 N9; (try dsimp only); (try k_sweep); (try k_fold)))
local macro_rules | `(tactic| walk_at "call ref") => `(tactic| (k_here; (with_reducible show wpAny _ _ (call (Value.ref _) [Value.ref _]) _ _ _); k_dflt (refine' c_textM _ _ _ _ _ _ _ _ _ ?kl ?ki ?ks ?kz _ _ _ _ _ _ _ _ _ _ _ _ _ _ _ _ _ ?kB ?kF ?kX ?kN ?kT ?kK ?kd ?ku ?_; (case kB => k_asm); (case kF => k_asm); (case kX => k_asm); (case kN => k_asm); (case kT => k_asm); (case kK => first | exact rfl | assumption); (case kd => ktr_room); (case ku => ktr_units); (case kl => k_mem); (case ki => assumption); (case ks => first | assumption | exact pSigns_ok _ _); (case kz => first | omega | exact pSigns_le _ _); k_whole); intro t9 h9 tk9 F9 N9; (try dsimp only); (try k_sweep); (try k_fold)))
local macro_rules | `(tactic| walk_at "call ref") => `(tactic| (k_here; (with_reducible show wpAny _ _ (call (Value.ref _) [Value.str _ _, Value.int _ _, Value.bool _]) _ _ _); k_dflt (refine' c_hash _ _ _ _ _ _ _ _ _ _ ?kz _ _ _ _ _ _ _ _ _ _ _ _ _ _ _ _ _ ?kB ?kF ?kX ?kN ?kT ?kK ?kd ?ku ?_; (case kB => k_asm); (case kF => k_asm); (case kX => k_asm); (case kN => k_asm); (case kT => k_asm); (case kK => first | exact rfl | assumption); (case kd => ktr_room); (case ku => ktr_units); (case kz => first | assumption | (show Str.length _ ≤ _; simp only [pText_length, one_length, strLen_append, PySem.sizeLine_eq]; omega)); k_whole); intro t9 h9 tk9 F9 N9; (try dsimp only); (try k_sweep); (try k_fold)))
local macro_rules | `(tactic| walk_at "call ref") => `(tactic| (k_here; (with_reducible show wpAny _ _ (call (Value.ref _) [Value.bytes _ _, Value.int _ _, Value.bool _]) _ _ _); k_dflt (refine' c_hashB _ _ _ _ _ _ _ _ _ _ ?kz _ _ _ _ _ _ _ _ _ _ _ _ _ _ _ _ _ ?kB ?kF ?kX ?kN ?kT ?kK ?kd ?ku ?_; (case kB => k_asm); (case kF => k_asm); (case kX => k_asm); (case kN => k_asm); (case kT => k_asm); (case kK => first | exact rfl | assumption); (case kd => ktr_room); (case ku => ktr_units); (case kz => first | assumption | (show Str.length _ ≤ _; simp only [pText_length, one_length, strLen_append, PySem.sizeLine_eq]; omega)); k_whole); intro t9 h9 tk9 F9 N9; (try dsimp only); (try k_sweep); (try k_fold)))
local macro_rules | `(tactic| walk_at "binaryOp Mult int int") => `(tactic| (k_here; refine mul_int ?_ (by first | exact IntMulOk.of_bits (pSize_bits _) (by assumption) | exact mul_three (by assumption))))
local macro_rules | `(tactic| walk_at "binaryOp Add str str") => `(tactic| (k_here; refine PyProof.Rows.add_str ?_ (by simp only [pText_length, one_length, strLen_append, PySem.sizeLine_eq]; omega); intro _ _))
local macro_rules | `(tactic| walk_at "FinE") => `(tactic| ((unfold LCg.FinE); intro D' h' tk' F' N' o1'; (try simp only [LCg.Off1, and_true, nen_eq] at o1'); (repeat (obtain ⟨_, o1'⟩ := o1')); (try simp only [List.nil_append, List.cons_append] at N'); (try dsimp only)))
local macro_rules | `(tactic| walk_at "CompRest") => `(tactic| (with_unfolding_all (refine LCg.CompRest.succ ?_; intro v' I' oI' C' oC' D' m' h' tk' E' hv' hC' hx' F' N' off' ne'; clear ne'; (first | lcg_open hv' | (obtain ⟨t9', hv9'⟩ := hv'; subst hv9')); (try simp only [LCg.Off3, and_true] at off'); (replace off' := Apart.mk off'))))
local macro_rules | `(tactic| lcg_off) => `(tactic| ((try simp only [LCg.Off3, and_true]); exact Apart.out (by assumption)))
local macro_rules | `(tactic| k_ne) => `(tactic| (refine neN ?_; (try dsimp only); first | (refine NeN.out ?_; with_reducible assumption) | (refine NeN.symm ?_; with_reducible assumption) | omega))
local macro_rules | `(tactic| passes_own) => `(tactic| assumption)
local macro_rules | `(tactic| walk_at "ItemsRest") => `(tactic| (refine Hold.out ?_))
local macro_rules | `(tactic| walk_at "execs cons") => `(tactic| ((rename ForMark => mk'); clear mk'; (with_reducible show wpAny _ _ (execs (Stmt.For _ _ _ _ _ :: _) _) _ _ _); refine Hold.out ?_))
local macro_rules | `(tactic| walk_at "eval IfExp") => `(tactic| ((rename IfMark => mk'); clear mk'; refine Hold.out ?_))
local macro_rules | `(tactic| walk_at "binaryOp Mod int int") => `(tactic| (k_here; refine mod_int' ?_ ?_; first | exact pSize_ne _ | exact pSize1_ne _))
local macro_rules | `(tactic| walk_at "call ref") => `(tactic| (k_here; (with_reducible show wpAny _ _ (call (Value.ref _) [Value.str _ _, Value.int _ _]) _ _ _); k_dflt (refine' c_fnv _ _ _ _ _ _ _ _ _ ?kz _ _ _ _ _ _ _ _ _ _ _ _ _ _ _ _ _ ?kB ?kF ?kX ?kN ?kT ?kK ?kd ?ku ?_; (case kB => k_asm); (case kF => k_asm); (case kX => k_asm); (case kN => k_asm); (case kT => k_asm); (case kK => first | exact rfl | assumption); (case kd => ktr_room); (case ku => ktr_units); (case kz => first | assumption | exact pSigns_text _ _ | omega); k_whole); intro t9 h9 tk9 F9 N9; (try dsimp only); (try k_sweep); (try k_fold)))
local macro_rules | `(tactic| walk_at "call ref") => `(tactic| (k_here; (with_reducible show wpAny _ _ (call (Value.ref _) [Value.str _ _, Value.int _ _]) _ _ _); k_dflt (refine' c_fnv32 _ _ _ _ _ _ _ _ _ ?kz _ _ _ _ _ _ _ _ _ _ _ _ _ _ _ _ _ ?kB ?kF ?kX ?kN ?kT ?kK ?kd ?ku ?_; (case kB => k_asm); (case kF => k_asm); (case kX => k_asm); (case kN => k_asm); (case kT => k_asm); (case kK => first | exact rfl | assumption); (case kd => ktr_room); (case ku => ktr_units); (case kz => first | assumption | exact pSigns_text _ _ | omega); k_whole); intro t9 h9 tk9 F9 N9; (try dsimp only); (try k_sweep); (try k_fold)))
local macro_rules | `(tactic| walk_at "call ref") => `(tactic| (k_here; (with_reducible show wpAny _ _ (call (Value.ref _) [Value.str _ _]) _ _ _); k_dflt (refine' c_fnv_d _ _ _ _ _ _ _ ?kz _ _ _ _ _ _ _ _ _ _ _ _ _ _ _ _ _ ?kB ?kF ?kX ?kN ?kT ?kK ?kd ?ku ?_; (case kB => k_asm); (case kF => k_asm); (case kX => k_asm); (case kN => k_asm); (case kT => k_asm); (case kK => first | exact rfl | assumption); (case kd => ktr_room); (case ku => ktr_units); (case kz => first | assumption | exact pSigns_text _ _ | omega); k_whole); intro t9 h9 tk9 F9 N9; (try dsimp only); (try k_sweep); (try k_fold)))
local macro_rules | `(tactic| walk_at "call ref") => `(tactic| (k_here; (with_reducible show wpAny _ _ (call (Value.ref _) [Value.str _ _]) _ _ _); k_dflt (refine' c_fnv32_d _ _ _ _ _ _ _ ?kz _ _ _ _ _ _ _ _ _ _ _ _ _ _ _ _ _ ?kB ?kF ?kX ?kN ?kT ?kK ?kd ?ku ?_; (case kB => k_asm); (case kF => k_asm); (case kX => k_asm); (case kN => k_asm); (case kT => k_asm); (case kK => first | exact rfl | assumption); (case kd => ktr_room); (case ku => ktr_units); (case kz => first | assumption | exact pSigns_text _ _ | omega); k_whole); intro t9 h9 tk9 F9 N9; (try dsimp only); (try k_sweep); (try k_fold)))
local macro_rules | `(tactic| walk_at "call ref") => `(tactic| (k_here; (with_reducible show wpAny _ _ (call (Value.ref _) [Value.bytes _ _, Value.int _ _]) _ _ _); k_dflt (refine' c_fnvB _ _ _ _ _ _ _ _ _ ?kz _ _ _ _ _ _ _ _ _ _ _ _ _ _ _ _ _ ?kB ?kF ?kX ?kN ?kT ?kK ?kd ?ku ?_; (case kB => k_asm); (case kF => k_asm); (case kX => k_asm); (case kN => k_asm); (case kT => k_asm); (case kK => first | exact rfl | assumption); (case kd => ktr_room); (case ku => ktr_units); (case kz => first | assumption | exact pSigns_text _ _ | omega); k_whole); intro t9 h9 tk9 F9 N9; (try dsimp only); (try k_sweep); (try k_fold)))
local macro_rules | `(tactic| walk_at "call ref") => `(tactic| (k_here; (with_reducible show wpAny _ _ (call (Value.ref _) [Value.bytes _ _, Value.int _ _]) _ _ _); k_dflt (refine' c_fnv32B _ _ _ _ _ _ _ _ _ ?kz _ _ _ _ _ _ _ _ _ _ _ _ _ _ _ _ _ ?kB ?kF ?kX ?kN ?kT ?kK ?kd ?ku ?_; (case kB => k_asm); (case kF => k_asm); (case kX => k_asm); (case kN => k_asm); (case kT => k_asm); (case kK => first | exact rfl | assumption); (case kd => ktr_room); (case ku => ktr_units); (case kz => first | assumption | exact pSigns_text _ _ | omega); k_whole); intro t9 h9 tk9 F9 N9; (try dsimp only); (try k_sweep); (try k_fold)))
local macro_rules | `(tactic| walk_at "call ref") => `(tactic| (k_here; (with_reducible show wpAny _ _ (call (Value.ref _) [Value.int _ _, Value.bool _]) _ _ _); k_dflt (refine' c_signs _ _ _ _ _ _ _ _ _ _ _ _ _ _ _ _ _ _ _ _ _ _ _ _ _ ?kB ?kF ?kX ?kN ?kT ?kK ?kd ?ku ?_; (case kB => k_asm); (case kF => k_asm); (case kX => k_asm); (case kN => k_asm); (case kT => k_asm); (case kK => first | exact rfl | assumption); (case kd => ktr_room); (case ku => ktr_units); k_whole); intro D9 vs9 h9 tk9 F9 N9 o9 i9; (try dsimp only); (try simp only [LCg.Off1, and_true, nen_eq] at o9); (repeat (obtain ⟨_, o9⟩ := o9)); (try k_sweep); (try k_fold)))
local macro_rules | `(tactic| walk_at "call ref") => `(tactic| (k_here; (with_reducible show wpAny _ _ (call (Value.ref _) [Value.ref _, Value.int _ _, Value.int _ _, Value.int _ _, Value.int _ _, Value.bool _]) _ _ _); k_dflt (refine' c_holdsM _ _ _ _ _ _ _ _ _ _ _ _ _ _ _ _ _ _ _ _ _ _ _ _ _ _ _ _ ?m1 ?m2 ?m3 ?m4 ?i1 ?i2 ?i3 ?s1 ?s2 ?s3 ?l1 ?l2 ?l3 ?oo ?t0 ?t1 _ _ _ _ _ _ _ _ _ _ _ _ _ _ _ _ _ ?kB ?kF ?kX ?kN ?kT ?kK ?kd ?ku ?_; (case kB => k_asm); (case kF => k_asm); (case kX => k_asm); (case kN => k_asm); (case kT => k_asm); (case kK => first | exact rfl | assumption); (case kd => ktr_room); (case ku => ktr_units); (case m1 => k_mem); (case m2 => k_mem); (case m3 => k_mem); (case m4 => k_mem); (case i1 => assumption); (case i2 => assumption); (case i3 => assumption); (case s1 => exact pSigns_ok _ _); (case s2 => exact pSigns_ok _ _); (case s3 => exact pSigns_ok _ _); (case l1 => exact pSigns_len _ _); (case l2 => exact pSigns_len _ _); (case l3 => exact pSigns_len _ _); (case oo => exact pre_bits (by assumption) _); (case t0 => exact turn_lo _); (case t1 => exact turn_hi _); k_whole); intro t9 h9 tk9 F9 N9; (try dsimp only); (try k_sweep); (try k_fold)))
local macro_rules | `(tactic| walk_at "CompSrc") => `(tactic| (k_here; k_dflt (refine LCg.CompSrc.ledger (by rfl) (by k_asm) (by k_asm) (by k_mem) (by first | size_fits | exact Nat.le_of_ble_eq_true rfl) ?_; intro g'; lcg_lit)))
theorem law_holds : PySem.Challenge.rw_aw0019_01.Holds := hd (by
  k_go0
  all_goals try k_fold
  k_steps)

end Mine

theorem PySem.Challenge.cw_aw0019_01_holds : PySem.Challenge.rw_aw0019_01.Holds := by
  exact Mine.law_holds
