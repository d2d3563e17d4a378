import PyProof.Rows.All
import Wide.All
import OpenK.AllK
import Wide.FinOn
import Lean
import PySem.Challenge.RW_nq0006_01
open PySem PySem.W PyProof.Rows PySem.Calls
set_option Elab.async false
set_option maxRecDepth 100000
set_option maxHeartbeats 8000000
namespace Mine
open_top hd for PySem.Challenge.rw_nq0006_01

noncomputable abbrev PR : Program := PySem.Challenge.rw_nq0006_01.row.prog
noncomputable abbrev VW := hd.view_39
noncomputable abbrev LO : List Str := looseW hd.view_39 [Str.ofString "_initial_missing", Str.ofString "reduce", Str.ofString "capwords"]

structure Here (n : Nat) (w : World) (mean : ExcName → Option Value) (mg mb : Str → Option Value) (A : Around) (base : Heap) (outer : List Env) (h : Heap) : Prop where
  below : Below A base outer h
  inB : (hd.heap_39 w.params).In base
  topB : Top VW LO mean mg mb base
  dicts : KtsDicts (outer.filterMap (·.frame)) h
  handled : A.handled = none
  dep : A.depth + n < 1000
  uni : A.units + 60 * n < 9000

section
variable {n : Nat} {w : World} {mean : ExcName → Option Value} {mg mb : Str → Option Value} {A : Around} {base h h' : Heap} {outer : List Env}
theorem Here.inH (H : Here n w mean mg mb A base outer h) : (hd.heap_39 w.params).In h := H.inB.keeps H.below.stays
theorem Here.topH (H : Here n w mean mg mb A base outer h) : Top VW LO mean mg mb h := H.topB.keeps H.below.stays
theorem Here.less {k : Nat} (H : Here n w mean mg mb A base outer h) (hk : k ≤ n) : Here k w mean mg mb A base outer h :=
  ⟨H.below, H.inB, H.topB, H.dicts, H.handled, by have := H.dep; omega, by have := H.uni; omega⟩
theorem Here.push {L : Addr} {m : Str → Option Value} {env : Env} (H : Here (n + 1) w mean mg mb A base outer h) (F : Fr h L h' m) (hf : env.frame = some L) (hk : env.scope.kind = .function) :
    Here n w mean mg mb (A.deeper env) base (env :: outer) h' := by
  refine ⟨pushX H.below F hf hk, H.inB, H.topB, ?_, H.handled, ?_, ?_⟩
  · intro b hb
    rw [List.filterMap_cons, hf] at hb
    rcases List.mem_cons.mp hb with rfl | hb
    · obtain ⟨o, es, ep, ho, hd, _⟩ := F.ns
      exact ⟨o, es, ep, ho, hd⟩
    · obtain ⟨o, es, ep, ho, hd⟩ := H.dicts b hb
      exact ⟨o, es, ep, F.keep _ _ ho, hd⟩
  · show A.depth + 1 + n < 1000
    have := H.dep; omega
  · show A.units + 3 + 60 * n < 9000
    have := H.uni; omega
theorem Here.keeps (H : Here n w mean mg mb A base outer h) (k : h.StaysIn h') : Here n w mean mg mb A base outer h' :=
  ⟨⟨H.below.stack, fun b o e => k b o (H.below.stays b o e), H.below.frames.of_keeps fun b o e _ => ⟨o, k b o e, rfl⟩⟩, H.inB, H.topB, fun b hb => let ⟨o, es, ep, ho, hd⟩ := H.dicts b hb; ⟨o, es, ep, k _ _ ho, hd⟩, H.handled, H.dep, H.uni⟩
end
theorem enter {n : Nat} {w : World} {mean : ExcName → Option Value} {mg mb : Str → Option Value} {A : Around} {base : Heap} {outer : List Env} {s : Shared} {Q E : Value → Shared → Prop}
    {name qual : Str} {params : Arguments} {body : List Stmt} {scope : Scope} {dV kV doc pm cdv ct oc : Value} {an od : Option Addr} {osl : Array (Option Value)} {f : Addr} {vals : List Value} {binds : List (Str × Value)}
    (H : Here (n + 1) w mean mg mb A base outer s.heap)
    (ho : (hd.heap_39 w.params).lookup f = some ⟨oc, od, .func (fnOf name qual params body scope dV kV doc pm an cdv ct), osl⟩) (hcd : codeIn (hd.heap_39 w.params) cdv qual = true)
    (hbind : BindsTo s (fnOf name qual params body scope dV kV doc pm an cdv ct) ⟨vals, []⟩ binds) (hloc : ∀ y ∈ binds, scope.names.lookup y.1 = some .local)
    (hcell : ∀ x ∈ scope.names, x.2 ≠ .cell) (hco : scope.isCoroutine = false) (hgen : scope.isGenerator = false) (hk : scope.kind = .function)
    (h : ∀ L h₁ tk, Fr s.heap L h₁ (fun y => binds.reverse.lookup y) →
      wpAny (model PR w) (A.deeper (envOf qual scope L f cdv)) (execs body (envOf qual scope L f cdv))
        (fun fl s' => Q (match fl with | .ret v => v | _ => .none) s')
        (fun e s' => wpAny (model PR w) (A.deeper (envOf qual scope L f cdv)) (leaving (envOf qual scope L f cdv) e) (fun _ s'' => E e s'') (fun e' s'' => E e' s'') s')
        { s with heap := h₁, toks := tk }) :
    wpAny (model PR w) A (call (.ref f) vals) Q E s := by
  have X := H.inH
  refine wpAny_call (codeAny_call_def (fd := fnOf name qual params body scope dV kV doc pm an cdv ct) (body := body) (binds := binds) (by show A.depth < 1000; have := H.dep; omega) (X _ _ ho) rfl H.topH.nolimit (codeRec_of X hcd) rfl hbind hcell hloc (fun h₁ hns hk₁ => ?_) hco hgen hk)
  exact h _ _ _ ⟨hns, hk₁, Nat.le_refl _⟩
open PySem.Builtin PySem.Builtin.Str
theorem fill_0 : PySem.Challenge.rw_nq0006_01 = PySem.Challenge.rw_nq0006_01 ∧ hd.heap_39 = hd.heap_39 := by k_fill; exact ⟨rfl, rfl⟩
variable {n : Nat} {w : World} {mean : ExcName → Option Value} {mg mb : Str → Option Value} {A : Around} {base : Heap} {outer : List Env} {s : Shared} {Q E : Value → Shared → Prop}

namespace MapF
theorem entry_next : entryFor table "map.__next__" = some Builtin.«map.__next__» := by first | exact entryFor_of_fast (by kernel_rfl) | exact entryFor_of_tree (by kernel_rfl)
theorem entry_new : entryFor table "map.__new__" = some Builtin.«map.__new__» := by first | exact entryFor_of_fast (by kernel_rfl) | exact entryFor_of_tree (by kernel_rfl)
theorem entry_iter : entryFor table "map.__iter__" = some Builtin.«dict_keyiterator.__iter__» :=
  entryFor_alias (id' := "dict_keyiterator.__iter__") (by kernel_rfl) (by first | rfl | decide +kernel | (unfold String.splitOn; simp +decide [String.splitOnAux])) (by decide +kernel) (by kernel_rfl)
theorem mro_map : mroOf (.type "map") = pure [.type "map", .type "object"] := by rw [mroOf_type]; kernel_rfl
theorem lookup_new : typeLookup (.type "map") "__new__" = pure (some (.builtin "map.__new__")) := by rw [typeLookup_type, builtinLookup_eq_fast]; kernel_rfl
theorem slot_init : Slot "map" "__init__" "object.__init__" :=
  .of (owner := "object") (n := "__init__") (by rw [typeLookup_type, builtinLookup_eq_fast]; kernel_rfl) (by decide +kernel) (by decide +kernel) (by decide +kernel)
    (by first | exact .inl (by decide +kernel) | exact .inr (by decide +kernel)) (by rw [isSubtype_type]; kernel_rfl)
theorem slot_next : Slot "map" "__next__" "map.__next__" :=
  .of (owner := "map") (n := "__next__") (by rw [typeLookup_type, builtinLookup_eq_fast]; kernel_rfl) (by decide +kernel) (by decide +kernel) (by decide +kernel)
    (by first | exact .inl (by decide +kernel) | exact .inr (by decide +kernel)) (by rw [isSubtype_type]; kernel_rfl)
theorem slot_iter : Slot "map" "__iter__" "map.__iter__" :=
  .of (owner := "map") (n := "__iter__") (by rw [typeLookup_type, builtinLookup_eq_fast]; kernel_rfl) (by decide +kernel) (by decide +kernel) (by decide +kernel)
    (by first | exact .inl (by decide +kernel) | exact .inr (by decide +kernel)) (by rw [isSubtype_type]; kernel_rfl)
theorem args_next (a : Value) : argsOk "map.__next__" ⟨[a], []⟩ := by unfold argsOk; kernel_rfl
theorem args_iter (a : Value) : argsOk "map.__iter__" ⟨[a], []⟩ := by unfold argsOk; kernel_rfl
theorem called_map : TypeCalled "map" "map.__new__" "object.__init__" :=
  ⟨by decide +kernel, by decide +kernel, ⟨_, _, mro_map⟩, madeBy_type mro_map lookup_new (by decide +kernel), by decide +kernel, by rw [isSubtype_type]; kernel_rfl, slot_init⟩
theorem typeCall_2 (a b : Value) : checkTypeCall "map" ⟨[a, b], []⟩ = pure () := by kernel_rfl
theorem newCall_2 (a b : Value) : checkBuiltinCall "map.__new__" ⟨[.type "map", a, b], []⟩ = pure () := by kernel_rfl
theorem no_len : typeLookup (.type "map") "__len__" = pure none := by rw [typeLookup_type, builtinLookup_eq_fast]; kernel_rfl
theorem no_hint : typeLookup (.type "map") "__length_hint__" = pure none := by rw [typeLookup_type, builtinLookup_eq_fast]; kernel_rfl
theorem sub_map : isSubtype (.type "map") (.type "map") = pure true := by rw [isSubtype_type]; kernel_rfl
end MapF

abbrev capB : Value := .builtin "str.capitalize"
abbrev IsMap (h : Heap) (z TI : Addr) : Prop := h.get? z = some { cls := .type "map", dict := none, data := .fields #[.ref TI, capB], slots := #[] }
abbrev IsOne (h : Heap) (TI it : Addr) : Prop := h.get? TI = some { cls := .type "tuple", data := .seq #[.ref it] }
abbrev mapH1 (h : Heap) (l : Addr) : Heap := h.push { cls := .type "list_iterator", data := .fields #[.ref l, .int 0 0] }
abbrev mapH2 (h : Heap) (l : Addr) : Heap := (mapH1 h l).push { cls := .type "tuple", data := .seq #[.ref h.objs.size] }
abbrev mapH3 (h : Heap) (l : Addr) : Heap := (mapH2 h l).push { cls := .type "map", data := .fields #[.ref (mapH1 h l).objs.size, capB] }

theorem meets_map_new (l : Addr) (xs : Array Value) :
    Meets (Builtin.«map.__new__» ⟨[.type "map", capB, .ref l], []⟩) (fun _ R s => s.heap.IsList l xs ∧ R (.ok (.ret (.ref (mapH2 s.heap l).objs.size))) { s with heap := mapH3 s.heap l }) :=
  .of_wp fun prog w A R s h => by
    obtain ⟨hp, g, d, tk, os⟩ := s; obtain ⟨hl, h⟩ := h
    have hsub := MapF.sub_map
    have hL : Heap.IsList (Shared.heap ⟨hp, g, d, tk, os⟩) l xs := hl
    wp_walk using wpAny_pyIter_list hL
    exact ⟨_, rfl, h⟩

section
variable {prog : Program}
theorem call_map {l : Addr} {xs : Array Value} (hl : s.heap.IsList l xs)
    (h : ∀ h', IsMap h' (s.heap.objs.size + 2) (s.heap.objs.size + 1) → IsOne h' (s.heap.objs.size + 1) s.heap.objs.size → h'.IsListIter s.heap.objs.size l 0 → h'.objs.size = s.heap.objs.size + 3 →
      s.heap.StaysIn h' → Q (.ref (s.heap.objs.size + 2)) { s with heap := h' }) :
    wpAny (model prog w) A (call (.type "map") [capB, .ref l]) Q E s := by
  refine callType_new MapF.called_map (by decide) (MapF.typeCall_2 _ _) (MapF.newCall_2 _ _) (fun obj => F.args_object_init_3 obj _ _) MapF.entry_new (meets_map_new l xs) ⟨hl, ?_⟩
  have z1 : (mapH1 s.heap l).objs.size = s.heap.objs.size + 1 := Heap.size_push ..
  have z2 : (mapH2 s.heap l).objs.size = s.heap.objs.size + 2 := by rw [Heap.size_push, z1]
  have z3 : (mapH3 s.heap l).objs.size = s.heap.objs.size + 3 := by rw [Heap.size_push, z2]
  have g3 : (mapH3 s.heap l).get? (mapH2 s.heap l).objs.size = some _ := Heap.get?_push_size _ rfl
  have g2 : (mapH3 s.heap l).get? (mapH1 s.heap l).objs.size = some _ := Heap.get?_push_of_some _ (Heap.get?_push_size _ rfl)
  have g1 : (mapH3 s.heap l).get? s.heap.objs.size = some _ := Heap.get?_push_of_some _ (Heap.get?_push_of_some _ (Heap.get?_push_size _ rfl))
  show _ ∧ _
  rw [z1, z2] at g3
  rw [z1] at g2
  rw [z2]
  exact ⟨⟨_, g3, rfl⟩, h _ g3 g2 ⟨_, g1, rfl, rfl⟩ z3 fun c o x => Heap.get?_push_of_some _ (Heap.get?_push_of_some _ (Heap.get?_push_of_some _ x))⟩

theorem map_next_item {z TI it l : Addr} {i : Nat} {xs : Array Value} {y : Str} {u : Tok} (hz : IsMap s.heap z TI) (hT : IsOne s.heap TI it) (hi : s.heap.IsListIter it l i) (hl : s.heap.IsList l xs)
    (hx : xs[i]? = some (.str y u)) (hy : y.length ≤ 5592405) (hzi : z ≠ it)
    (hQ : ∀ h' t' k, h'.IsListIter it l (i + 1) → Heap.SameBut it s.heap h' → Q (.str (Txt.capitalize y) t') { s with heap := h', toks := k }) :
    wpAny (model prog w) A (Builtin.«map.__next__» ⟨[.ref z], []⟩) (fun fin s' => ∃ v, fin = .done (.ret v) ∧ Q v s') E s := by
  show wpAny _ _ (field (.ref z) 0 >>= _) _ _ _
  refine wpAny_bind (wpAny_field hz rfl (x := .ref TI) rfl ?_)
  refine wpAny_bind (wpAny_seqItems hT rfl ?_)
  simp only [List.forIn_toArray, List.forIn_cons, List.forIn_nil]
  refine wpAny_bind (wpAny_bind (wpAny_bind (wpAny_holding (wpAny_nextOf_list_item hi hl hx fun h₁ hi₁ hs₁ => ?_))))
  refine wpAny_pure (wpAny_pure ?_)
  have hz₁ : IsMap h₁ z TI := hs₁.extBut _ _ hzi hz
  show wpAny _ _ (field (.ref z) 1 >>= _) _ _ _
  refine wpAny_bind (wpAny_field hz₁ rfl (x := capB) rfl ?_)
  refine wpAny_bind (wpAny_holding ?_)
  show wpAny _ _ (call (.builtin "str.capitalize") [.str y u]) _ _ _
  refine SCL.capitalize hy fun t' k _ => ?_
  refine wpAny_bind (wpAny_letGo (wpAny_pure ⟨_, rfl, hQ _ _ _ hi₁ hs₁⟩))

theorem map_next_end {z TI it l : Addr} {i : Nat} {xs : Array Value} {Q : Fin → Shared → Prop} (hh : A.handled = none) (hz : IsMap s.heap z TI) (hT : IsOne s.heap TI it) (hi : s.heap.IsListIter it l i) (hl : s.heap.IsList l xs)
    (hx : xs[i]? = none)
    (hE : ∀ h' e, Heap.ExtBut it s.heap h' → (∃ o, h'.get? e = some o ∧ o.cls = .type "StopIteration") → E (.ref e) { s with heap := h' }) :
    wpAny (model prog w) A (Builtin.«map.__next__» ⟨[.ref z], []⟩) Q E s := by
  show wpAny _ _ (field (.ref z) 0 >>= _) _ _ _
  refine wpAny_bind (wpAny_field hz rfl (x := .ref TI) rfl ?_)
  refine wpAny_bind (wpAny_seqItems hT rfl ?_)
  simp only [List.forIn_toArray, List.forIn_cons, List.forIn_nil]
  refine wpAny_bind (wpAny_bind (wpAny_bind (wpAny_holding (wpAny_nextOf_list_end hh hi hl hx hE))))

theorem mapWalks (hh : A.handled = none) (z TI it l : Addr) (hzi : z ≠ it) (hTi : TI ≠ it) (hli : l ≠ it) (ys : List (Str × Tok)) (hy : ∀ p ∈ ys, p.1.length ≤ 5592405) :
    Walks prog w A z [z, TI, it, l] [it] ys.length (fun i v => ∃ t', v = .str (Txt.capitalize (ys.getD i default).1) t')
      (fun i h => IsMap h z TI ∧ IsOne h TI it ∧ h.IsListIter it l i ∧ h.IsList l (strValues ys).toArray) where
  sub := fun b hb => by simp at hb ⊢; simp [hb]
  frame := fun i h h' hst hk => ⟨hk z (by simp) _ hst.1, hk TI (by simp) _ hst.2.1, hst.2.2.1.at fun o e => hk it (by simp) o e, hst.2.2.2.at fun o e => hk l (by simp) o e⟩
  item := fun i s Q E hi hst hQ => by
    obtain ⟨hz, hT, hI, hL⟩ := hst
    have hty : s.TypeIs (.ref z) "map" := ⟨_, hz, rfl⟩
    have hx : (strValues ys).toArray[i]? = some (.str (ys.getD i default).1 (ys.getD i default).2) := by
      simp [strValues, hi]
    unfold pyNext
    refine wpAny_bind (wpAny_attempt (wpAny_callSpecial?_slot (name := Str.ofString "__next__") hty MapF.slot_next
      (wpAny_call_entry MapF.slot_next hty MapF.entry_next (map_next_item hz hT hI hL hx (hy _ (by simp [List.getD_eq_getElem?_getD, hi])) hzi fun h' t' k hI' hs' => wpAny_pure ?_) (MapF.args_next _))))
    exact hQ _ h' k ⟨t', rfl⟩ ⟨hs'.extBut _ _ hzi hz, hs'.extBut _ _ hTi hT, hI', hL.extBut hs'.extBut hli⟩ fun b o hb e => hs'.extBut b o (fun h => hb (by simp [h])) e
  done := fun s Q E hst hQ => by
    obtain ⟨hz, hT, hI, hL⟩ := hst
    have hty : s.TypeIs (.ref z) "map" := ⟨_, hz, rfl⟩
    unfold pyNext
    refine wpAny_bind (wpAny_attempt (wpAny_callSpecial?_slot (name := Str.ofString "__next__") hty MapF.slot_next
      (wpAny_call_entry MapF.slot_next hty MapF.entry_next (map_next_end hh hz hT hI hL (by simp [strValues]) fun h' e hk he => ?_) (MapF.args_next _))))
    obtain ⟨o, ho, hc⟩ := he
    refine wpAny_bind (wpAny_isInstance (T := "StopIteration") (b := true) ⟨o, ho, hc⟩ isSubtype_stop ?_)
    exact wpAny_pure (hQ _ _ fun b o hb e => hk b o (fun h => hb (by simp [h])) e)
  self := fun i s Q E hst hQ => by
    have hty : s.TypeIs (.ref z) "map" := ⟨_, hst.1, rfl⟩
    refine wpAny_pyIter_slot hty MapF.slot_iter (wpAny_call_entry MapF.slot_iter hty MapF.entry_iter ?_ (MapF.args_iter _))
    show wpAny _ _ (ret (.ref z)) _ _ s
    exact wpAny_pure ⟨_, rfl, "map", _, hty, MapF.slot_next.lookup, hQ⟩
end


section
variable {prog : Program} {I : Addr} {fp wr : List Addr} {G : Array GenState → Array GenState → Prop} {P : Nat → Value → Prop} {St : Nat → Shared → Prop}
theorem collect_map {Q : List Value → Shared → Prop} (W : WalksS prog w A.in1 I fp wr G n P St) (hT : ∀ i s, St i s → s.TypeIs (.ref I) "map") (hst : St 0 s) (hfp : ∀ b ∈ fp, b < s.heap.objs.size) (hI : I ∈ fp)
    (hQ : ∀ s' acc, Moved wr G s s' → ItemsOf P acc n → Q acc.toList s') (hn : n ≤ sizeLine) : wpAny (model prog w) A (collect (.ref I)) Q E s := by
  have hSf : s.heap.objs.size ∉ fp := fun hm => Nat.lt_irrefl _ (hfp _ hm)
  have hSI : s.heap.objs.size ≠ I := fun e => hSf (e ▸ hI)
  unfold collect
  refine wpAny_bind (wpAny_runValue (codeAny_builtin F.entry_proto_collect ?_))
  rw [Around.under_plainId F.plain_proto_collect _]
  show wpAny _ A.in1 (newList [] >>= fun l => again (.builtin "list.__iadd__" ⟨[l, .ref I], []⟩)) _ _ s
  refine wpAny_bind (wpAny_newObj_type ?_)
  refine wpAny_pure ⟨plainId_quiet F.plain_list_iadd _, codeAny_builtin F.entry_list_iadd ?_⟩
  rw [Around.under_plainId F.plain_list_iadd _]
  have hst₁ := W.frame 0 s (s.heap.push { cls := .type "list", data := .seq ([] : List Value).toArray }) s.toks hst (Nat.le_refl _) fun b _ o e => Heap.get?_push_of_some _ e
  show wpAny _ A.in1 (Builtin.List.listExtendWith (.ref s.heap.objs.size) (.ref I) (.ref s.heap.objs.size)) _ _ _
  unfold Builtin.List.listExtendWith
  refine wpAny_bind (wpAny_typeOf (hT 0 _ hst₁) ?_)
  have h1 : Builtin.List.listSameRef (.ref s.heap.objs.size) (.ref I) = false := by simp [Builtin.List.listSameRef, hSI]
  have h2 : (Value.type "map" == Value.type "list") = false := by decide
  have h3 : (Value.type "map" == Value.type "tuple") = false := by decide
  simp only [h1, h2, h3, Bool.or_false, Bool.false_eq_true, if_false]
  refine wpAny_bind (W.self 0 _ _ _ hst₁ ?_)
  refine wpAny_bind (wpAny_holding ?_)
  unfold Builtin.List.listLengthHint
  refine wpAny_bind (wpAny_specialOf (hT 0 _ hst₁) MapF.no_len ?_)
  show wpAny _ A.in1 (specialOf (Value.ref I) (Str.ofString "__length_hint__") >>= _) _ _ _
  refine wpAny_bind (wpAny_specialOf (hT 0 _ hst₁) MapF.no_hint ?_)
  refine wpAny_pure ?_
  show wpAny _ A.in1 (rule "list.extend.makes-room" >>= fun _ => Builtin.List.listTouch (.ref s.heap.objs.size) >>= fun _ =>
    again (.builtin "list.extend.loop" ⟨[.ref s.heap.objs.size, .ref I, .ref s.heap.objs.size], []⟩)) _ _ _
  refine wpAny_bind (wpAny_rule ?_)
  have hS₁ : (s.heap.push { cls := .type "list", data := .seq ([] : List Value).toArray }).get? s.heap.objs.size = some { cls := .type "list", data := .seq ([] : List Value).toArray } := Heap.get?_push_size _ rfl
  refine wpAny_bind ?_
  show wpAny _ A.in1 (updateSeq s.heap.objs.size (·.push .none) >>= fun _ => updateSeq s.heap.objs.size (·.pop)) _ _ _
  refine wpAny_bind (wpAny_updateSeq hS₁ rfl ?_)
  have hS₂ := Heap.get?_update_self (Obj.mapSeq (·.push Value.none)) hS₁ rfl
  refine wpAny_updateSeq hS₂ rfl ?_
  have hS₃ := Heap.get?_update_self (Obj.mapSeq (·.pop)) hS₂ rfl
  have oth : ∀ b o, b ≠ s.heap.objs.size → (s.heap.push { cls := .type "list", data := .seq ([] : List Value).toArray }).get? b = some o →
      (((s.heap.push { cls := .type "list", data := .seq ([] : List Value).toArray }).update s.heap.objs.size (Obj.mapSeq (·.push Value.none))).update s.heap.objs.size (Obj.mapSeq (·.pop))).get? b = some o :=
    fun b o hb e => (Heap.get?_update_other _ _ (Ne.symm hb)).trans ((Heap.get?_update_other _ _ (Ne.symm hb)).trans e)
  refine wpAny_pure ⟨plainId_quiet F.plain_extend_loop _, codeAny_extend_loopS W hn _ hSf _ n 0 _ _ _ rfl (Nat.zero_le _)
    (W.frame 0 ({ s with heap := s.heap.push { cls := .type "list", data := .seq ([] : List Value).toArray } } : Shared) _ s.toks hst₁ (Nat.le_refl _) fun b hb o e => oth b o (fun h => hSf (h ▸ hb)) e) hS₃ (ItemsOf.nil P) fun s' acc' c' hm hS' hacc => ?_⟩
  show wpAny _ A (load s.heap.objs.size >>= _) _ _ s'
  refine wpAny_bind (wpAny_load hS' ?_)
  refine wpAny_pure (hQ s' acc' (Moved.drop_new (o := { cls := .type "list", data := .seq ([] : List Value).toArray }) (tk := s.toks) (Moved.trans W.gtrans ((Moved.refl W.grefl).then_heap (by first | exact Nat.le_refl _ | exact Nat.le_succ _ | omega) fun b o hb e => ?_) hm) (Nat.le_refl _)) hacc)
  exact oth b o (fun h => hb (h ▸ List.mem_cons_self)) e

theorem items_cap {ys : List (Str × Tok)} {acc : Array Value} (h : ItemsOf (fun i v => ∃ t', v = .str (Txt.capitalize (ys.getD i default).1) t') acc ys.length) :
    ∃ l : List (Str × Tok), strValues l = acc.toList ∧ l.map (·.1) = ys.map (fun p => Txt.capitalize p.1) := by
  obtain ⟨l, hl⟩ := exists_strValues acc.toList fun v hv => by
    obtain ⟨j, hj, rfl⟩ := Array.mem_iff_getElem.mp (Array.mem_toList_iff.mp hv)
    obtain ⟨t', e⟩ := h.2 j _ (Array.getElem?_eq_getElem hj)
    exact ⟨_, _, e⟩
  refine ⟨l, hl, ?_⟩
  have hlen : l.length = ys.length := by
    have := congrArg List.length hl
    simp [strValues] at this
    rw [this, h.1]
  apply List.ext_getElem
  · simp [hlen]
  · intro i h1 h2
    have hi : i < l.length := by simpa using h1
    have hi' : i < ys.length := by simpa using h2
    have ha : acc.toList[i]? = some (.str l[i].1 l[i].2) := by rw [← hl]; simp [strValues, hi]
    obtain ⟨t', e⟩ := h.2 i _ (by rw [← Array.getElem?_toList]; exact ha)
    simp only [List.getD_eq_getElem?_getD, List.getElem?_eq_getElem hi', Option.getD_some] at e
    simp only [List.getElem_map]
    exact (Value.str.inj e).1

theorem join_map {x : Str} {t : Tok} {z TI it l : Addr} {ys : List (Str × Tok)} (hh : A.handled = none) (hz : IsMap s.heap z TI) (hT : IsOne s.heap TI it) (hI : s.heap.IsListIter it l 0) (hL : s.heap.IsList l (strValues ys).toArray)
    (hzi : z ≠ it) (hTi : TI ≠ it) (hli : l ≠ it) (hy : ∀ p ∈ ys, p.1.length ≤ 5592405) (hn : ys.length ≤ sizeLine) (hok : JoinOk x (ys.map fun p => Txt.capitalize p.1) = true)
    (hq : ∀ h' t' k, (∀ b o, b ≠ it → s.heap.get? b = some o → h'.get? b = some o) → Q (.str (Txt.join x (ys.map fun p => Txt.capitalize p.1)) t') { s with heap := h', toks := k }) :
    wpAny (model prog w) A (call (.builtin "str.join") [.str x t, .ref z]) Q E s := by
  have W := (mapWalks (prog := prog) (w := w) (A := A.in1.in1) hh z TI it l hzi hTi hli ys hy).toS
  have hty : ∀ i (s : Shared), (IsMap s.heap z TI ∧ IsOne s.heap TI it ∧ s.heap.IsListIter it l i ∧ s.heap.IsList l (strValues ys).toArray) → s.TypeIs (.ref z) "map" := fun i s h => ⟨_, h.1, rfl⟩
  have hst : IsMap s.heap z TI ∧ IsOne s.heap TI it ∧ s.heap.IsListIter it l 0 ∧ s.heap.IsList l (strValues ys).toArray := ⟨hz, hT, hI, hL⟩
  refine wpAny_call (codeAny_call_builtin F.slot_str_join.plain F.entry_str_join (F.slot_str_join.check _ _ _ _ _ _ _ _ (typeIs_str _ _ _) (F.args_str_join_2 _ _) ?_))
  rw [join_tree_other]
  refine wpAny_bind (wpAny_typeOf (hty 0 s hst) ?_)
  show wpAny _ A.in1 ((pyIter (.ref z)).tryCatch _ >>= fun it => collect it >>= fun items => joinTail x items) _ _ s
  refine wpAny_bind (wpAny_tryCatch (W.of_in1.self 0 s _ _ hst ?_))
  refine wpAny_bind (collect_map W hty hst ?_ (by simp) (fun s' acc hm hacc => ?_) hn)
  · intro b hb
    simp only [List.mem_cons, List.not_mem_nil, or_false] at hb
    rcases hb with rfl | rfl | rfl | rfl
    · exact Heap.lt_size hz
    · exact Heap.lt_size hT
    · obtain ⟨o, e, _⟩ := hI; exact Heap.lt_size e
    · obtain ⟨o, e, _⟩ := hL; exact Heap.lt_size e
  obtain ⟨l', hl', hm'⟩ := items_cap hacc
  rw [← hl']
  obtain ⟨hp, g, d, tk, os⟩ := s'
  obtain ⟨k1, k2, k3, k4, k5⟩ := hm
  replace k2 : g = s.gens := k2
  replace k3 : d = s.drawn := k3
  replace k4 : os = s.os := k4
  subst k2 k3 k4
  rw [← hm'] at hok hq
  unfold JoinOk at hok
  rw [Bool.not_eq_true'] at hok
  have g : Gives (joinTail x (strValues l')) (joinMade x l') := by
    have g0 := gives_joinTail x l' hok
    cases l' with
    | nil => exact g0
    | cons p r => cases r with
      | nil => exact g0
      | cons q r' => exact g0
  exact g prog w A (wants Q E) _ (post_join l' ⟨joinFit_length hok, fun t' k => hq hp t' k fun b o hb e => k1 b o (by simpa using hb) e⟩)
end


section
variable {prog : Program} {K : Frag}
theorem cap_attr {expr : Bool} (X : K.In s.heap) (h : ∀ u, Q capB { s with toks := u }) : wpAny (model prog w) A (getAttr (.type "str") (Str.ofString "capitalize") expr) Q E s := by
  have hstub : opaqueClassAbove (.type "str") = pure none := by unfold opaqueClassAbove; dsimp only; rw [show Manifest.isStub "str" = false from by decide +kernel]; rfl
  have L0 : Looks (model prog w) s.heap (typeOf (.type "str")) (.type "type") := Looks.of_pure (kitMeta_of (by decide +kernel))
  have LO : Looks (model prog w) s.heap (opaqueClassAbove (.type "str")) none := Looks.of_pure hstub
  have hg : findIn K (.type "type") "__getattribute__" = some (some (.builtin "type.__getattribute__")) := type_tga
  refine cls_open (r := .val capB) X LO L0 hg (looks_hook X (r := none) (by rfl)) (by show subIn K _ _ = _; rfl) (by kernel_rfl) ?_
  exact wpAny_pure (handed_on rfl (h _))
end

theorem joinOk_small {p : Str} {xs : List Str} (hp : p.length ≤ 10) (hn : xs.length ≤ 1100) (hx : ∀ y ∈ xs, y.length ≤ 3300) : JoinOk p xs = true := by
  unfold JoinOk
  rw [StrLaws.joinTotal]
  have h1 := StrLaws.sumLen_le xs hx
  have h2 : xs.length * 3300 ≤ 1100 * 3300 := Nat.mul_le_mul_right _ hn
  have h3 : xs.length * p.length ≤ 1100 * 10 := Nat.mul_le_mul hn hp
  have : ¬ ((xs.map (·.length)).sum + xs.length * p.length > sizeLine) := by
    rw [show sizeLine = 16777216 from rfl]; omega
  simp [tooLong, this]

theorem cap_len (x : Str) : (Txt.capitalize x).length ≤ 3 * x.length := len_capitalize x

theorem cap_none {t : Str} {a : Tok} (H : Here 1 w mean mg mb A base outer s.heap) (ht : t.length ≤ 1000)
    (k : ∀ h' tk a', s.heap.StaysIn h' → Q (.str (Txt.join (Str.ofString " ") ((Txt.words t).map Txt.capitalize)) a') { s with heap := h', toks := tk }) :
    wpAny (model PR w) A (call (.ref 31) [.str t a, .none]) Q E s := by
  refine enter (binds := [(Str.ofString "s", .str t a), (Str.ofString "sep", .none)]) H (by k_is) (by k_is) (binds_K H.inH rfl (by k_is) rfl rfl rfl) (locs rfl) (by decide) rfl rfl rfl ?_
  intro L h₁ tk F
  have N : News s.heap L h₁ [] := News.nil
  have X := H.inH
  have T := H.topH
  have hsz : t.length + 2 ≤ sizeLine := by rw [show sizeLine = 16777216 from rfl]; omega
  k_steps
  refine cap_attr (K := hd.heap_39 w.params) (X.keeps F.keep) fun u => ?_
  k_steps
  rename_i l h2 tk2 e1 _ e3 hL F2 N2
  refine call_map hL fun h3 m1 m2 m3 m4 m5 => ?_
  have hk : s.heap.StaysIn h3 := fun b o e => m5 b o (F2.keep b o e)
  k_steps
  refine join_map (ys := l) (by exact H.handled) m1 m2 m3 (hL.at fun o e => m5 _ o e) (Nat.ne_of_gt (Nat.lt_add_of_pos_right (by decide))) (Nat.ne_of_gt (Nat.lt_add_of_pos_right (by decide))) ?_ (fun p hp => ?_) ?_ ?_ ?_
  · obtain ⟨o, e, _⟩ := hL
    exact Nat.ne_of_lt (Heap.lt_size e)
  · have := e3 p.1 (List.mem_map.mpr ⟨p, hp, rfl⟩)
    omega
  · have h1 := StrLaws.words_weight t
    have h2 := congrArg List.length e1
    rw [List.length_map] at h2
    rw [show sizeLine = 16777216 from rfl]; omega
  · have h1 := StrLaws.words_weight t
    have h2 := congrArg List.length e1
    rw [List.length_map] at h2
    refine joinOk_small (by decide) (by rw [List.length_map]; omega) fun y hy => ?_
    obtain ⟨p, hp, rfl⟩ := List.mem_map.mp hy
    have h3 := e3 p.1 (List.mem_map.mpr ⟨p, hp, rfl⟩)
    have h4 := cap_len p.1
    omega
  · intro h4 t' tk4 hk4
    have e : (l.map fun p => Txt.capitalize p.1) = (Txt.words t).map Txt.capitalize := by rw [← e1, List.map_map]; rfl
    rw [e]
    k_steps
    refine k _ _ _ fun b o ho => hk4 b o ?_ (hk b o ho)
    have h5 := Heap.lt_size (F2.keep b o ho)
    exact Nat.ne_of_lt h5

section
local macro_rules | `(tactic| walk_at "truthy str") => `(tactic| (refine KXt.truthy_pos (by assumption) (by assumption) (by decide) ?_; intro _))
theorem cap_sep {t p : Str} {a b : Tok} (H : Here 1 w mean mg mb A base outer s.heap) (ht : t.length ≤ 1000) (hp0 : 1 ≤ p.length) (hp : p.length ≤ 10)
    (k : ∀ h' tk a', s.heap.StaysIn h' → Q (.str (Txt.join p ((Txt.split t p).map Txt.capitalize)) a') { s with heap := h', toks := tk }) :
    wpAny (model PR w) A (call (.ref 31) [.str t a, .str p b]) Q E s := by
  refine enter (binds := [(Str.ofString "s", .str t a), (Str.ofString "sep", .str p b)]) H (by k_is) (by k_is) (binds_K H.inH rfl (by k_is) rfl rfl rfl) (locs rfl) (by decide) rfl rfl rfl ?_
  intro L h₁ tk F
  have N : News s.heap L h₁ [] := News.nil
  have X := H.inH
  have T := H.topH
  have hsz : t.length + 2 ≤ sizeLine := by rw [show sizeLine = 16777216 from rfl]; omega
  have hpe : (p.length == 0) = false := by simp; omega
  k_steps
  refine cap_attr (K := hd.heap_39 w.params) (X.keeps F.keep) fun u => ?_
  k_steps
  rename_i l h2 tk2 e1 _ e3 hL F2 N2
  have e4 := split_weight t p hp0
  refine call_map hL fun h3 m1 m2 m3 m4 m5 => ?_
  have hk : s.heap.StaysIn h3 := fun b o e => m5 b o (F2.keep b o e)
  k_steps
  refine join_map (ys := l) (by exact H.handled) m1 m2 m3 (hL.at fun o e => m5 _ o e) (Nat.ne_of_gt (Nat.lt_add_of_pos_right (by decide))) (Nat.ne_of_gt (Nat.lt_add_of_pos_right (by decide))) ?_ (fun p hp => ?_) ?_ ?_ ?_
  · obtain ⟨o, e, _⟩ := hL
    exact Nat.ne_of_lt (Heap.lt_size e)
  · have := e3 p.1 (List.mem_map.mpr ⟨p, hp, rfl⟩)
    omega
  · have h2 := congrArg List.length e1
    rw [List.length_map] at h2
    rw [show sizeLine = 16777216 from rfl]; omega
  · have h2 := congrArg List.length e1
    rw [List.length_map] at h2
    refine joinOk_small hp (by rw [List.length_map]; omega) fun y hy => ?_
    obtain ⟨p, hp, rfl⟩ := List.mem_map.mp hy
    have h3 := e3 p.1 (List.mem_map.mpr ⟨p, hp, rfl⟩)
    have h4 := cap_len p.1
    omega
  · intro h4 t' tk4 hk4
    have e : (l.map fun p => Txt.capitalize p.1) = (Txt.split t p).map Txt.capitalize := by rw [← e1, List.map_map]; rfl
    rw [e]
    k_steps
    refine k _ _ _ fun b o ho => hk4 b o ?_ (hk b o ho)
    have h5 := Heap.lt_size (F2.keep b o ho)
    exact Nat.ne_of_lt h5
end



theorem strKind_ge (x : Str) : 1 ≤ PySem.Builtin.Str.strKind x := by unfold PySem.Builtin.Str.strKind; split <;> (try split) <;> decide
theorem split_empty {prog : Program} {t : Str} {a b : Tok} (hh : A.handled = none) (k : ∀ h' tk e, Heap.NewExc s.heap h' e "ValueError" → E (.ref e) { s with heap := h', toks := tk }) :
    wpAny (model prog w) A (call (.builtin "str.split") [.str t a, .str (Str.ofString "") b]) Q E s := by
  refine call_meets F.slot_str_split (typeIs_str _ _ _) F.entry_str_split (F.args_str_split_2 _ _) (raises_str_split_empty _ _ _ _ ?_ rfl) ⟨hh, k⟩
  have h1 := strKind_ge t
  have h2 : PySem.Builtin.Str.strKind (Str.ofString "") = 1 := by decide +kernel
  rw [h2]
  have h3 : (Str.ofString "").length = 0 := rfl
  rw [h3]
  simp; omega
section
local macro_rules | `(tactic| walk_at "truthy str") => `(tactic| (refine KXt.truthy (b := false) (by decide) (by decide) ?_; intro _))
theorem cap_empty {t : Str} {a b : Tok} (H : Here 1 w mean mg mb A base outer s.heap)
    (k : ∀ h' tk e, RaisedSN base s.heap outer e (.type "ValueError") [] h' → s.heap.UpToSlots h' → E (.ref e) { s with heap := h', toks := tk }) :
    wpAny (model PR w) A (call (.ref 31) [.str t a, .str (Str.ofString "") b]) Q E s := by
  refine enter (binds := [(Str.ofString "s", .str t a), (Str.ofString "sep", .str (Str.ofString "") b)]) H (by k_is) (by k_is) (binds_K H.inH rfl (by k_is) rfl rfl rfl) (locs rfl) (by decide) rfl rfl rfl ?_
  intro L h₁ tk F
  have N : News s.heap L h₁ [] := News.nil
  have X := H.inH
  have T := H.topH
  k_steps
  refine cap_attr (K := hd.heap_39 w.params) (X.keeps F.keep) fun u => ?_
  k_steps
  refine split_empty (by exact H.handled) fun h' tk' e hx => ?_
  refine leave_newS H.below hx F N fun h'' R _ U => ?_
  exact k _ _ _ R U
end


section
variable {prog : Program}
abbrev itObj (l : Addr) : Obj := { cls := .type "list_iterator", data := .fields #[.ref l, .int 0 0] }
theorem iter_list {l : Addr} {items : Array Value} (hl : s.heap.IsList l items) (h : Q (.ref s.heap.objs.size) { s with heap := s.heap.push (itObj l) }) :
    wpAny (model prog w) A (call (.builtin "iter") [.ref l]) Q E s := by
  refine call_function_entry (by decide +kernel) (by decide +kernel) kdk_entry_iter (kdk_args_iter _) ?_
  unfold Builtin.«iter»
  refine wpAny_bind (m := someArgs "iter" 1 2 _) (wpAny_of_eq (a := [Value.ref l]) (by first | rfl | kernel_rfl!) ?_)
  show wpAny _ _ (pyIter (.ref l) >>= _) _ _ _
  exact wpAny_bind (wpAny_pyIter_list hl (wpAny_pure ⟨_, rfl, h⟩))

theorem special_list_item {it l : Addr} {i : Nat} {items : Array Value} {x : Value} {Q : Option Value → Shared → Prop} (hit : s.heap.IsListIter it l i)
    (hl : s.heap.IsList l items) (hx : items[i]? = some x)
    (hQ : ∀ h', h'.IsListIter it l (i + 1) → Heap.SameBut it s.heap h' → Q (some x) { s with heap := h' }) :
    wpAny (model prog w) A (callSpecial? (.ref it) (Str.ofString "__next__")) Q E s := by
  obtain ⟨o, ho, hc, hd⟩ := id hit
  obtain ⟨ol, hol, _, nl, hdl⟩ := hl
  refine wpAny_callSpecial?_slot (name := Str.ofString "__next__") hit.typeIs slot_listiter_next
    (wpAny_call_entry slot_listiter_next hit.typeIs entry_listiter_next ?_ (args_listiter_next _))
  show wpAny _ _ (field (.ref it) 0 >>= _) _ _ s
  refine wpAny_bind (wpAny_field ho hd (x := .ref l) rfl ?_)
  show wpAny _ _ (if (Value.ref l == Value.none) = true then _ else _) _ _ s
  rw [if_neg (show ¬ ((Value.ref l == Value.none) = true) from Bool.false_ne_true)]
  show wpAny _ _ (field (.ref it) 1 >>= _) _ _ s
  refine wpAny_bind (wpAny_field ho hd (x := .int i 0) rfl ?_)
  show wpAny _ _ (seqItems? (.ref l) >>= _) _ _ s
  refine wpAny_bind (wpAny_seqItems hol hdl ?_)
  simp only [Int.toNat_natCast, hx]
  refine wpAny_bind (wpAny_setField ho hd (by simp) (wpAny_pure ⟨x, rfl, hQ _ ?_ (Heap.SameBut.update ..)⟩))
  exact ⟨_, Heap.get?_update_self _ ho (Obj.isFreed_of_fields (Obj.data_mapFields hd _)), (Obj.cls_mapFields ..).trans hc, by
    rw [Obj.data_mapFields hd]; simp [rawInt]⟩

theorem special_list_end {it l : Addr} {i : Nat} {items : Array Value} {Q : Option Value → Shared → Prop} (hh : A.handled = none) (hit : s.heap.IsListIter it l i)
    (hl : s.heap.IsList l items) (hx : items[i]? = none)
    (hE : ∀ h₁ h' e, Heap.SameBut it s.heap h₁ → Heap.NewExc h₁ h' e "StopIteration" → E (.ref e) { s with heap := h' }) :
    wpAny (model prog w) A (callSpecial? (.ref it) (Str.ofString "__next__")) Q E s := by
  obtain ⟨o, ho, hc, hd⟩ := id hit
  obtain ⟨ol, hol, _, nl, hdl⟩ := hl
  refine wpAny_callSpecial?_slot (name := Str.ofString "__next__") hit.typeIs slot_listiter_next
    (wpAny_call_entry slot_listiter_next hit.typeIs entry_listiter_next ?_ (args_listiter_next _))
  show wpAny _ _ (field (.ref it) 0 >>= _) _ _ s
  refine wpAny_bind (wpAny_field ho hd (x := .ref l) rfl ?_)
  show wpAny _ _ (if (Value.ref l == Value.none) = true then _ else _) _ _ s
  rw [if_neg (show ¬ ((Value.ref l == Value.none) = true) from Bool.false_ne_true)]
  show wpAny _ _ (field (.ref it) 1 >>= _) _ _ s
  refine wpAny_bind (wpAny_field ho hd (x := .int i 0) rfl ?_)
  show wpAny _ _ (seqItems? (.ref l) >>= _) _ _ s
  refine wpAny_bind (wpAny_seqItems hol hdl ?_)
  simp only [Int.toNat_natCast, hx]
  refine wpAny_bind (wpAny_rule (wpAny_bind (wpAny_setField ho hd (by simp) ?_)))
  show wpAny _ _ (newExc (.type "StopIteration") [] >>= _) _ _ _
  refine wpAny_bind ?_
  simp only [newExc, newTuple]
  refine wpAny_bind (wpAny_newObj_type ?_ (by size_fits))
  refine wpAny_bind (m := firstArgMember _ _) (wpAny_of_eq (a := Value.none) (by first | rfl | (simp only [firstArgMember]; rfl)) ?_)
  refine wpAny_newObj_type ?_ (by size_fits)
  simp only [raiseNew]
  refine wpAny_bind (wpAny_handled ?_)
  first | rw [show A.in1.handled = none from hh] | rw [hh]
  refine wpAny_bind (wpAny_pure (wpAny_throw ?_))
  exact hE _ _ _ (Heap.SameBut.update ..) ⟨fun b o hb => Heap.get?_push_of_some _ (Heap.get?_push_of_some _ hb), Heap.get?_none_of_le (by simp), _, _, Heap.get?_push_size _ rfl, rfl, by first | rfl | simp⟩

theorem next_item {it l : Addr} {i : Nat} {items : Array Value} {x : Value} (hit : s.heap.IsListIter it l i)
    (hl : s.heap.IsList l items) (hx : items[i]? = some x)
    (hQ : ∀ h', h'.IsListIter it l (i + 1) → Heap.SameBut it s.heap h' → Q x { s with heap := h' }) :
    wpAny (model prog w) A (call (.builtin "next") [.ref it]) Q E s := by
  refine call_function_entry (by decide +kernel) (by decide +kernel) kdk_entry_next (kdk_args_next _) ?_
  unfold Builtin.«next»
  refine wpAny_bind (m := someArgs "next" 1 2 _) (wpAny_of_eq (a := [Value.ref it]) (by first | rfl | kernel_rfl!) ?_)
  dsimp only
  refine wpAny_bind (wpAny_specialOf (name := Str.ofString "__next__") hit.typeIs slot_listiter_next.lookup ?_)
  refine wpAny_ite_split (fun hab => absurd hab (by decide)) (fun _ => ?_)
  exact wpAny_bind (special_list_item hit hl hx fun h' hi' hs' => wpAny_pure ⟨_, rfl, hQ h' hi' hs'⟩)

theorem next_end {it l : Addr} {i : Nat} {items : Array Value} (hh : A.handled = none) (hit : s.heap.IsListIter it l i)
    (hl : s.heap.IsList l items) (hx : items[i]? = none)
    (hE : ∀ h₁ h' e, Heap.SameBut it s.heap h₁ → Heap.NewExc h₁ h' e "StopIteration" → E (.ref e) { s with heap := h' }) :
    wpAny (model prog w) A (call (.builtin "next") [.ref it]) Q E s := by
  refine call_function_entry (by decide +kernel) (by decide +kernel) kdk_entry_next (kdk_args_next _) ?_
  unfold Builtin.«next»
  refine wpAny_bind (m := someArgs "next" 1 2 _) (wpAny_of_eq (a := [Value.ref it]) (by first | rfl | kernel_rfl!) ?_)
  dsimp only
  refine wpAny_bind (wpAny_specialOf (name := Str.ofString "__next__") hit.typeIs slot_listiter_next.lookup ?_)
  refine wpAny_ite_split (fun hab => absurd hab (by decide)) (fun _ => ?_)
  exact wpAny_bind (special_list_end hh hit hl hx hE)
end


def Plain (v : Value) : Prop := v = .none ∨ ∃ p t, v = .str p t
theorem is_missing {prog : Program} {v : Value} (hv : Plain v) (h : Q (.bool false) s) : wpAny (model prog w) A (compareOp .Is v (.ref 15)) Q E s := by
  rcases hv with rfl | ⟨p, t, rfl⟩
  · exact wpAny_bind (wpAny_pure (wpAny_pure h))
  · exact wpAny_bind (wpAny_pure (wpAny_pure h))

section
local macro_rules | `(tactic| walk_at "call builtin:iter") => `(tactic| (refine iter_list (by assumption) ?_))

theorem red_init_31 {l : Addr} {items : Array Value} {v0 : Value} (P : Prop) (I : Nat → Value → List (Addr × Obj) → Prop) (H : Here 3 w mean mg mb A base outer s.heap) (hl : s.heap.IsList l items) (hv : Plain v0) (h0 : I 0 v0 [])
    (step : ∀ i v x news (A' : Around) outer' (s' : Shared) (Q' E' : Value → Shared → Prop), items[i]? = some x → I i v news → (∀ p ∈ news, s'.heap.get? p.1 = some p.2) → Here 1 w mean mg mb A' base outer' s'.heap →
      (∀ v' h' tk more, s'.heap.StaysIn h' → I (i + 1) v' (more ++ news) → (∀ p ∈ more, h'.get? p.1 = some p.2 ∧ s'.heap.get? p.1 = none) → Q' v' { s' with heap := h', toks := tk }) →
      (P → ∀ h' tk e, RaisedSN base s'.heap outer' e (.type "ValueError") [] h' → s'.heap.UpToSlots h' → E' (.ref e) { s' with heap := h', toks := tk }) →
      wpAny (model PR w) A' (call (.ref 31) [v, x]) Q' E' s')
    (k : ∀ v h' tk news, s.heap.StaysIn h' → I items.size v news → (∀ p ∈ news, h'.get? p.1 = some p.2 ∧ s.heap.get? p.1 = none) → Q v { s with heap := h', toks := tk })
    (ke : P → ∀ h' tk e, RaisedSN base s.heap outer e (.type "ValueError") [] h' → s.heap.UpToSlots h' → E (.ref e) { s with heap := h', toks := tk }) :
    wpAny (model PR w) A (call (.ref 23) [.ref 31, .ref l, v0]) Q E s := by
  refine enter (binds := [(Str.ofString "function", .ref 31), (Str.ofString "sequence", .ref l), (Str.ofString "initial", v0)]) H (by k_is) (by k_is) (binds_K H.inH rfl (by k_is) rfl rfl rfl) (locs rfl) (by decide) rfl rfl rfl ?_
  intro L h₁ tk F
  have X := H.inH
  have T := H.topH
  have hl1 : h₁.IsList l items := hl.at fun o e => F.keep _ o e
  have F2 := F.push (itObj l)
  have N2 : News s.heap L (h₁.push (itObj l)) [(h₁.objs.size, itObj l)] := News.push F News.nil _
  have N : News s.heap L h₁ [] := News.nil
  have hab := F.above
  have hlt : l < h₁.objs.size := let ⟨o, e, _⟩ := hl1; Heap.lt_size e
  k_steps
  refine is_missing hv ?_
  k_steps
  rename_i h3 F3 N3
  have hli : h3.IsListIter h₁.objs.size l 0 := ⟨_, (N3 _ (.head _)).1, rfl, rfl⟩
  have hl3 : h3.IsList l items := hl.at fun o e => F3.keep _ o e
  refine wpAny_pyIter_listiter hli ?_
  refine ⟨h₁.objs.size, _, _, items.size, _, _, _, [], fun i m' news' => ∃ v, I i v news' ∧ ∀ y, y ≠ Str.ofString "element" → m' y = (fun y => if y = Str.ofString "value" then some v else if y = Str.ofString "it" then some (Value.ref h₁.objs.size)
    else List.lookup y [(Str.ofString "function", Value.ref 31), (Str.ofString "sequence", Value.ref l), (Str.ofString "initial", v0)].reverse) y, rfl, Walks.list (by exact H.handled) h₁.objs.size l (Nat.ne_of_lt hlt) items, ?_, ?_, ?_, ⟨hli, hl3⟩, F3, News.nil, ⟨v0, h0, fun y _ => rfl⟩, ?_, ?_⟩
  · intro hm
    simp only [List.mem_cons, List.not_mem_nil, or_false] at hm
    rcases hm with e | e
    · exact (N3 _ (.head _)).2.1 e.symm
    · obtain ⟨o, e', _⟩ := hl
      exact absurd (Heap.lt_size e') (Nat.not_lt.mpr (by rw [show l = L from e.symm]; exact hab))
  · intro b hb
    rw [List.mem_singleton.mp hb]
    exact (N3 _ (.head _)).2.2
  · intro p hp; cases hp
  · rintro i x m₁ news₁ s₁ own ⟨h4, tk4, rfl⟩ hi hx ⟨v, hI, hm⟩ hnw hown1 hown2 hown3 ⟨hli4, hl4⟩ F4 N4
    have em : (fun y => if y = Str.ofString "element" then some x else m₁ y) = (fun y => if y = Str.ofString "element" then some x else if y = Str.ofString "value" then some v else if y = Str.ofString "it" then some (Value.ref h₁.objs.size)
        else List.lookup y [(Str.ofString "function", Value.ref 31), (Str.ofString "sequence", Value.ref l), (Str.ofString "initial", v0)].reverse) := by
      funext y
      by_cases hy : y = Str.ofString "element"
      · simp only [hy, if_true]
      · simp only [hy, if_false]; exact hm y hy
    have F4' : Fr s.heap L h4 (fun y => if y = Str.ofString "element" then some x else if y = Str.ofString "value" then some v else if y = Str.ofString "it" then some (Value.ref h₁.objs.size)
        else List.lookup y [(Str.ofString "function", Value.ref 31), (Str.ofString "sequence", Value.ref l), (Str.ofString "initial", v0)].reverse) := em ▸ F4
    clear F4 em
    k_steps
    refine step i v x news₁ _ _ _ _ _ hx hI (fun p hp => (N4 p (List.mem_append_right _ hp)).1) ((H.less (by decide : 2 ≤ 3)).push F4' rfl rfl) ?_ ?_
    · intro v' h5 tk5 more hk hI' hmore
      have hlt5 : ∀ p ∈ more, h4.objs.size ≤ p.1 ∨ h4.get? p.1 = none := fun p hp => .inr (hmore p hp).2
      have F5 := F4'.keeps hk
      have N5 : News s.heap L h5 (own ++ (more ++ news₁)) := fun p hp => by
        rcases List.mem_append.mp hp with hp | hp
        · exact ⟨hk _ _ (N4 p (List.mem_append_left _ hp)).1, (N4 p (List.mem_append_left _ hp)).2⟩
        · rcases List.mem_append.mp hp with hp | hp
          · refine ⟨(hmore p hp).1, fun q => ?_, ?_⟩
            · obtain ⟨o, _, _, ho, _⟩ := F4'.ns
              have := (hmore p hp).2
              rw [show p.1 = L from q] at this
              exact absurd (this.symm.trans ho) (by simp)
            · exact kts_none F4'.keep (hmore p hp).2
          · exact ⟨hk _ _ (N4 p (List.mem_append_right _ hp)).1, (N4 p (List.mem_append_right _ hp)).2⟩
      have hnw5 : ∀ p ∈ more ++ news₁, ¬ p.1 ∈ [h₁.objs.size] := fun p hp => by
        rcases List.mem_append.mp hp with hp | hp
        · intro q
          have h6 := (hmore p hp).2
          obtain ⟨o, ho, _⟩ := hli4
          rw [List.mem_singleton.mp q] at h6
          exact absurd (h6.symm.trans ho) (by simp)
        · exact hnw p hp
      k_steps
      rename_i h6 F6 N6
      refine ⟨rfl, _, _, _, more ++ news₁, rfl, F6, N6, hnw5, v', hI', fun y hy => ?_⟩
      by_cases hy2 : y = Str.ofString "value"
      · simp only [hy2, if_true]
      · simp only [hy, hy2, if_false]
    · intro hP h5 tk5 e R U
      exact leave_onSN H.below F4' R U fun h6 R6 _ U6 => ke hP _ _ _ R6 U6
  · intro h5 tk5 m5 news5 F5 N5 hnw5 ⟨v, hI, hm⟩
    have em : m5 = (fun y => if y = Str.ofString "element" then m5 y else if y = Str.ofString "value" then some v else if y = Str.ofString "it" then some (Value.ref h₁.objs.size)
        else List.lookup y [(Str.ofString "function", Value.ref 31), (Str.ofString "sequence", Value.ref l), (Str.ofString "initial", v0)].reverse) := by
      funext y
      by_cases hy : y = Str.ofString "element"
      · simp only [hy, if_true]
      · simp only [hy, if_false]; exact hm y hy
    have F5' : Fr s.heap L h5 (fun y => if y = Str.ofString "element" then m5 y else if y = Str.ofString "value" then some v else if y = Str.ofString "it" then some (Value.ref h₁.objs.size)
        else List.lookup y [(Str.ofString "function", Value.ref 31), (Str.ofString "sequence", Value.ref l), (Str.ofString "initial", v0)].reverse) := by rw [← em]; exact F5
    clear em F5
    k_steps
    exact k v h5 tk5 news5 F5'.keep hI fun p hp => ⟨(N5 p hp).1, (N5 p hp).2.2⟩


theorem red_init_79 {l : Addr} {items : Array Value} {v0 : Value} (P : Prop) (I : Nat → Value → List (Addr × Obj) → Prop) (H : Here 3 w mean mg mb A base outer s.heap) (hl : s.heap.IsList l items) (hv : Plain v0) (h0 : I 0 v0 [])
    (step : ∀ i v x news (A' : Around) outer' (s' : Shared) (Q' E' : Value → Shared → Prop), items[i]? = some x → I i v news → (∀ p ∈ news, s'.heap.get? p.1 = some p.2) → Here 1 w mean mg mb A' base outer' s'.heap →
      (∀ v' h' tk more, s'.heap.StaysIn h' → I (i + 1) v' (more ++ news) → (∀ p ∈ more, h'.get? p.1 = some p.2 ∧ s'.heap.get? p.1 = none) → Q' v' { s' with heap := h', toks := tk }) →
      (P → ∀ h' tk e, RaisedSN base s'.heap outer' e (.type "ValueError") [] h' → s'.heap.UpToSlots h' → E' (.ref e) { s' with heap := h', toks := tk }) →
      wpAny (model PR w) A' (call (.ref 79) [v, x]) Q' E' s')
    (k : ∀ v h' tk news, s.heap.StaysIn h' → I items.size v news → (∀ p ∈ news, h'.get? p.1 = some p.2 ∧ s.heap.get? p.1 = none) → Q v { s with heap := h', toks := tk })
    (ke : P → ∀ h' tk e, RaisedSN base s.heap outer e (.type "ValueError") [] h' → s.heap.UpToSlots h' → E (.ref e) { s with heap := h', toks := tk }) :
    wpAny (model PR w) A (call (.ref 23) [.ref 79, .ref l, v0]) Q E s := by
  refine enter (binds := [(Str.ofString "function", .ref 79), (Str.ofString "sequence", .ref l), (Str.ofString "initial", v0)]) H (by k_is) (by k_is) (binds_K H.inH rfl (by k_is) rfl rfl rfl) (locs rfl) (by decide) rfl rfl rfl ?_
  intro L h₁ tk F
  have X := H.inH
  have T := H.topH
  have hl1 : h₁.IsList l items := hl.at fun o e => F.keep _ o e
  have F2 := F.push (itObj l)
  have N2 : News s.heap L (h₁.push (itObj l)) [(h₁.objs.size, itObj l)] := News.push F News.nil _
  have N : News s.heap L h₁ [] := News.nil
  have hab := F.above
  have hlt : l < h₁.objs.size := let ⟨o, e, _⟩ := hl1; Heap.lt_size e
  k_steps
  refine is_missing hv ?_
  k_steps
  rename_i h3 F3 N3
  have hli : h3.IsListIter h₁.objs.size l 0 := ⟨_, (N3 _ (.head _)).1, rfl, rfl⟩
  have hl3 : h3.IsList l items := hl.at fun o e => F3.keep _ o e
  refine wpAny_pyIter_listiter hli ?_
  refine ⟨h₁.objs.size, _, _, items.size, _, _, _, [], fun i m' news' => ∃ v, I i v news' ∧ ∀ y, y ≠ Str.ofString "element" → m' y = (fun y => if y = Str.ofString "value" then some v else if y = Str.ofString "it" then some (Value.ref h₁.objs.size)
    else List.lookup y [(Str.ofString "function", Value.ref 79), (Str.ofString "sequence", Value.ref l), (Str.ofString "initial", v0)].reverse) y, rfl, Walks.list (by exact H.handled) h₁.objs.size l (Nat.ne_of_lt hlt) items, ?_, ?_, ?_, ⟨hli, hl3⟩, F3, News.nil, ⟨v0, h0, fun y _ => rfl⟩, ?_, ?_⟩
  · intro hm
    simp only [List.mem_cons, List.not_mem_nil, or_false] at hm
    rcases hm with e | e
    · exact (N3 _ (.head _)).2.1 e.symm
    · obtain ⟨o, e', _⟩ := hl
      exact absurd (Heap.lt_size e') (Nat.not_lt.mpr (by rw [show l = L from e.symm]; exact hab))
  · intro b hb
    rw [List.mem_singleton.mp hb]
    exact (N3 _ (.head _)).2.2
  · intro p hp; cases hp
  · rintro i x m₁ news₁ s₁ own ⟨h4, tk4, rfl⟩ hi hx ⟨v, hI, hm⟩ hnw hown1 hown2 hown3 ⟨hli4, hl4⟩ F4 N4
    have em : (fun y => if y = Str.ofString "element" then some x else m₁ y) = (fun y => if y = Str.ofString "element" then some x else if y = Str.ofString "value" then some v else if y = Str.ofString "it" then some (Value.ref h₁.objs.size)
        else List.lookup y [(Str.ofString "function", Value.ref 79), (Str.ofString "sequence", Value.ref l), (Str.ofString "initial", v0)].reverse) := by
      funext y
      by_cases hy : y = Str.ofString "element"
      · simp only [hy, if_true]
      · simp only [hy, if_false]; exact hm y hy
    have F4' : Fr s.heap L h4 (fun y => if y = Str.ofString "element" then some x else if y = Str.ofString "value" then some v else if y = Str.ofString "it" then some (Value.ref h₁.objs.size)
        else List.lookup y [(Str.ofString "function", Value.ref 79), (Str.ofString "sequence", Value.ref l), (Str.ofString "initial", v0)].reverse) := em ▸ F4
    clear F4 em
    k_steps
    refine step i v x news₁ _ _ _ _ _ hx hI (fun p hp => (N4 p (List.mem_append_right _ hp)).1) ((H.less (by decide : 2 ≤ 3)).push F4' rfl rfl) ?_ ?_
    · intro v' h5 tk5 more hk hI' hmore
      have hlt5 : ∀ p ∈ more, h4.objs.size ≤ p.1 ∨ h4.get? p.1 = none := fun p hp => .inr (hmore p hp).2
      have F5 := F4'.keeps hk
      have N5 : News s.heap L h5 (own ++ (more ++ news₁)) := fun p hp => by
        rcases List.mem_append.mp hp with hp | hp
        · exact ⟨hk _ _ (N4 p (List.mem_append_left _ hp)).1, (N4 p (List.mem_append_left _ hp)).2⟩
        · rcases List.mem_append.mp hp with hp | hp
          · refine ⟨(hmore p hp).1, fun q => ?_, ?_⟩
            · obtain ⟨o, _, _, ho, _⟩ := F4'.ns
              have := (hmore p hp).2
              rw [show p.1 = L from q] at this
              exact absurd (this.symm.trans ho) (by simp)
            · exact kts_none F4'.keep (hmore p hp).2
          · exact ⟨hk _ _ (N4 p (List.mem_append_right _ hp)).1, (N4 p (List.mem_append_right _ hp)).2⟩
      have hnw5 : ∀ p ∈ more ++ news₁, ¬ p.1 ∈ [h₁.objs.size] := fun p hp => by
        rcases List.mem_append.mp hp with hp | hp
        · intro q
          have h6 := (hmore p hp).2
          obtain ⟨o, ho, _⟩ := hli4
          rw [List.mem_singleton.mp q] at h6
          exact absurd (h6.symm.trans ho) (by simp)
        · exact hnw p hp
      k_steps
      rename_i h6 F6 N6
      refine ⟨rfl, _, _, _, more ++ news₁, rfl, F6, N6, hnw5, v', hI', fun y hy => ?_⟩
      by_cases hy2 : y = Str.ofString "value"
      · simp only [hy2, if_true]
      · simp only [hy, hy2, if_false]
    · intro hP h5 tk5 e R U
      exact leave_onSN H.below F4' R U fun h6 R6 _ U6 => ke hP _ _ _ R6 U6
  · intro h5 tk5 m5 news5 F5 N5 hnw5 ⟨v, hI, hm⟩
    have em : m5 = (fun y => if y = Str.ofString "element" then m5 y else if y = Str.ofString "value" then some v else if y = Str.ofString "it" then some (Value.ref h₁.objs.size)
        else List.lookup y [(Str.ofString "function", Value.ref 79), (Str.ofString "sequence", Value.ref l), (Str.ofString "initial", v0)].reverse) := by
      funext y
      by_cases hy : y = Str.ofString "element"
      · simp only [hy, if_true]
      · simp only [hy, if_false]; exact hm y hy
    have F5' : Fr s.heap L h5 (fun y => if y = Str.ofString "element" then m5 y else if y = Str.ofString "value" then some v else if y = Str.ofString "it" then some (Value.ref h₁.objs.size)
        else List.lookup y [(Str.ofString "function", Value.ref 79), (Str.ofString "sequence", Value.ref l), (Str.ofString "initial", v0)].reverse) := by rw [← em]; exact F5
    clear em F5
    k_steps
    exact k v h5 tk5 news5 F5'.keep hI fun p hp => ⟨(N5 p hp).1, (N5 p hp).2.2⟩

end


theorem walksTail {prog : Program} (hh : A.handled = none) (I ax : Addr) (hne : ax ≠ I) (items : Array Value) (hpos : 0 < items.size) :
    Walks prog w A I [I, ax] [I] (items.size - 1) (fun i v => items[i + 1]? = some v) (fun i h => h.IsListIter I ax (i + 1) ∧ h.IsList ax items) where
  sub := (Walks.list (prog := prog) (w := w) hh I ax hne items).sub
  frame := fun i h h' st hk => (Walks.list (prog := prog) (w := w) hh I ax hne items).frame (i + 1) h h' st hk
  item := fun i s Q E hi st hQ => (Walks.list (prog := prog) (w := w) hh I ax hne items).item (i + 1) s Q E (by omega) st hQ
  done := fun s Q E st hQ => (Walks.list (prog := prog) (w := w) hh I ax hne items).done s Q E (by rw [show items.size - 1 + 1 = items.size from Nat.succ_pred_eq_of_pos hpos] at st; exact st) hQ
  self := fun i s Q E st hQ => (Walks.list (prog := prog) (w := w) hh I ax hne items).self (i + 1) s Q E st hQ
section
local macro_rules | `(tactic| walk_at "call builtin:iter") => `(tactic| (refine iter_list (by assumption) ?_))

theorem red_bare_31 {l : Addr} {items : Array Value} {v0 : Value} (P : Prop) (I : Nat → Value → List (Addr × Obj) → Prop) (H : Here 3 w mean mg mb A base outer s.heap) (hl : s.heap.IsList l items) (hz : items[0]? = some v0) (h0 : I 1 v0 [])
    (step : ∀ i v x news (A' : Around) outer' (s' : Shared) (Q' E' : Value → Shared → Prop), items[i]? = some x → I i v news → (∀ p ∈ news, s'.heap.get? p.1 = some p.2) → Here 1 w mean mg mb A' base outer' s'.heap →
      (∀ v' h' tk more, s'.heap.StaysIn h' → I (i + 1) v' (more ++ news) → (∀ p ∈ more, h'.get? p.1 = some p.2 ∧ s'.heap.get? p.1 = none) → Q' v' { s' with heap := h', toks := tk }) →
      (P → ∀ h' tk e, RaisedSN base s'.heap outer' e (.type "ValueError") [] h' → s'.heap.UpToSlots h' → E' (.ref e) { s' with heap := h', toks := tk }) →
      wpAny (model PR w) A' (call (.ref 31) [v, x]) Q' E' s')
    (k : ∀ v h' tk news, s.heap.StaysIn h' → I items.size v news → (∀ p ∈ news, h'.get? p.1 = some p.2 ∧ s.heap.get? p.1 = none) → Q v { s with heap := h', toks := tk })
    (ke : P → ∀ h' tk e, RaisedSN base s.heap outer e (.type "ValueError") [] h' → s.heap.UpToSlots h' → E (.ref e) { s with heap := h', toks := tk }) :
    wpAny (model PR w) A (call (.ref 23) [.ref 31, .ref l]) Q E s := by
  refine enter (binds := [(Str.ofString "function", .ref 31), (Str.ofString "sequence", .ref l), (Str.ofString "initial", .ref 15)]) H (by k_is) (by k_is) (binds_K H.inH rfl (by k_is) rfl rfl rfl) (locs rfl) (by decide) rfl rfl rfl ?_
  intro L h₁ tk F
  have X := H.inH
  have T := H.topH
  have hl1 : h₁.IsList l items := hl.at fun o e => F.keep _ o e
  have F2 := F.push (itObj l)
  have N2 : News s.heap L (h₁.push (itObj l)) [(h₁.objs.size, itObj l)] := News.push F News.nil _
  have N : News s.heap L h₁ [] := News.nil
  have hab := F.above
  have hlt : l < h₁.objs.size := let ⟨o, e, _⟩ := hl1; Heap.lt_size e
  k_steps
  rename_i h2 F2' N2'
  have hli2 : h2.IsListIter h₁.objs.size l 0 := ⟨_, (N2' _ (.head _)).1, rfl, rfl⟩
  have hl2 : h2.IsList l items := hl.at fun o e => F2'.keep _ o e
  refine next_item hli2 hl2 hz fun h2b hli2b hs2b => ?_
  obtain ⟨oi, hoi, hci, hdi⟩ := hli2b
  have F2b := F2'.change hs2b (N2' _ (.head _)).2.1 (N2' _ (.head _)).2.2
  have N2b : News s.heap L h2b [(h₁.objs.size, oi)] := fun p hp => by
    rw [List.mem_singleton.mp hp]
    exact ⟨hoi, (N2' _ (.head _)).2⟩
  clear F2' N2'
  k_steps
  rename_i h3 F3 N3
  have hli : h3.IsListIter h₁.objs.size l 1 := ⟨_, (N3 _ (.head _)).1, hci, hdi⟩
  have hpos : 0 < items.size := (Array.getElem?_eq_some_iff.mp hz).1
  have hl3 : h3.IsList l items := hl.at fun o e => F3.keep _ o e
  refine wpAny_pyIter_listiter hli ?_
  refine ⟨h₁.objs.size, _, _, items.size - 1, _, _, _, [], fun i m' news' => ∃ v, I (i + 1) v news' ∧ ∀ y, y ≠ Str.ofString "element" → m' y = (fun y => if y = Str.ofString "value" then some v else if y = Str.ofString "it" then some (Value.ref h₁.objs.size)
    else List.lookup y [(Str.ofString "function", Value.ref 31), (Str.ofString "sequence", Value.ref l), (Str.ofString "initial", Value.ref 15)].reverse) y, rfl, walksTail (by exact H.handled) h₁.objs.size l (Nat.ne_of_lt hlt) items hpos, ?_, ?_, ?_, ⟨hli, hl3⟩, F3, News.nil, ⟨v0, h0, fun y _ => rfl⟩, ?_, ?_⟩
  · intro hm
    simp only [List.mem_cons, List.not_mem_nil, or_false] at hm
    rcases hm with e | e
    · exact (N3 _ (.head _)).2.1 e.symm
    · obtain ⟨o, e', _⟩ := hl
      exact absurd (Heap.lt_size e') (Nat.not_lt.mpr (by rw [show l = L from e.symm]; exact hab))
  · intro b hb
    rw [List.mem_singleton.mp hb]
    exact (N3 _ (.head _)).2.2
  · intro p hp; cases hp
  · rintro i x m₁ news₁ s₁ own ⟨h4, tk4, rfl⟩ hi hx ⟨v, hI, hm⟩ hnw hown1 hown2 hown3 ⟨hli4, hl4⟩ F4 N4
    have em : (fun y => if y = Str.ofString "element" then some x else m₁ y) = (fun y => if y = Str.ofString "element" then some x else if y = Str.ofString "value" then some v else if y = Str.ofString "it" then some (Value.ref h₁.objs.size)
        else List.lookup y [(Str.ofString "function", Value.ref 31), (Str.ofString "sequence", Value.ref l), (Str.ofString "initial", Value.ref 15)].reverse) := by
      funext y
      by_cases hy : y = Str.ofString "element"
      · simp only [hy, if_true]
      · simp only [hy, if_false]; exact hm y hy
    have F4' : Fr s.heap L h4 (fun y => if y = Str.ofString "element" then some x else if y = Str.ofString "value" then some v else if y = Str.ofString "it" then some (Value.ref h₁.objs.size)
        else List.lookup y [(Str.ofString "function", Value.ref 31), (Str.ofString "sequence", Value.ref l), (Str.ofString "initial", Value.ref 15)].reverse) := em ▸ F4
    clear F4 em
    k_steps
    refine step (i + 1) v x news₁ _ _ _ _ _ hx hI (fun p hp => (N4 p (List.mem_append_right _ hp)).1) ((H.less (by decide : 2 ≤ 3)).push F4' rfl rfl) ?_ ?_
    · intro v' h5 tk5 more hk hI' hmore
      have hlt5 : ∀ p ∈ more, h4.objs.size ≤ p.1 ∨ h4.get? p.1 = none := fun p hp => .inr (hmore p hp).2
      have F5 := F4'.keeps hk
      have N5 : News s.heap L h5 (own ++ (more ++ news₁)) := fun p hp => by
        rcases List.mem_append.mp hp with hp | hp
        · exact ⟨hk _ _ (N4 p (List.mem_append_left _ hp)).1, (N4 p (List.mem_append_left _ hp)).2⟩
        · rcases List.mem_append.mp hp with hp | hp
          · refine ⟨(hmore p hp).1, fun q => ?_, ?_⟩
            · obtain ⟨o, _, _, ho, _⟩ := F4'.ns
              have := (hmore p hp).2
              rw [show p.1 = L from q] at this
              exact absurd (this.symm.trans ho) (by simp)
            · exact kts_none F4'.keep (hmore p hp).2
          · exact ⟨hk _ _ (N4 p (List.mem_append_right _ hp)).1, (N4 p (List.mem_append_right _ hp)).2⟩
      have hnw5 : ∀ p ∈ more ++ news₁, ¬ p.1 ∈ [h₁.objs.size] := fun p hp => by
        rcases List.mem_append.mp hp with hp | hp
        · intro q
          have h6 := (hmore p hp).2
          obtain ⟨o, ho, _⟩ := hli4
          rw [List.mem_singleton.mp q] at h6
          exact absurd (h6.symm.trans ho) (by simp)
        · exact hnw p hp
      k_steps
      rename_i h6 F6 N6
      refine ⟨rfl, _, _, _, more ++ news₁, rfl, F6, N6, hnw5, v', hI', fun y hy => ?_⟩
      by_cases hy2 : y = Str.ofString "value"
      · simp only [hy2, if_true]
      · simp only [hy, hy2, if_false]
    · intro hP h5 tk5 e R U
      exact leave_onSN H.below F4' R U fun h6 R6 _ U6 => ke hP _ _ _ R6 U6
  · intro h5 tk5 m5 news5 F5 N5 hnw5 ⟨v, hI, hm⟩
    have em : m5 = (fun y => if y = Str.ofString "element" then m5 y else if y = Str.ofString "value" then some v else if y = Str.ofString "it" then some (Value.ref h₁.objs.size)
        else List.lookup y [(Str.ofString "function", Value.ref 31), (Str.ofString "sequence", Value.ref l), (Str.ofString "initial", Value.ref 15)].reverse) := by
      funext y
      by_cases hy : y = Str.ofString "element"
      · simp only [hy, if_true]
      · simp only [hy, if_false]; exact hm y hy
    have F5' : Fr s.heap L h5 (fun y => if y = Str.ofString "element" then m5 y else if y = Str.ofString "value" then some v else if y = Str.ofString "it" then some (Value.ref h₁.objs.size)
        else List.lookup y [(Str.ofString "function", Value.ref 31), (Str.ofString "sequence", Value.ref l), (Str.ofString "initial", Value.ref 15)].reverse) := by rw [← em]; exact F5
    clear em F5
    k_steps
    exact k v h5 tk5 news5 F5'.keep (by rw [show items.size - 1 + 1 = items.size from Nat.succ_pred_eq_of_pos hpos] at hI; exact hI) fun p hp => ⟨(N5 p hp).1, (N5 p hp).2.2⟩


theorem red_bare_79 {l : Addr} {items : Array Value} {v0 : Value} (P : Prop) (I : Nat → Value → List (Addr × Obj) → Prop) (H : Here 3 w mean mg mb A base outer s.heap) (hl : s.heap.IsList l items) (hz : items[0]? = some v0) (h0 : I 1 v0 [])
    (step : ∀ i v x news (A' : Around) outer' (s' : Shared) (Q' E' : Value → Shared → Prop), items[i]? = some x → I i v news → (∀ p ∈ news, s'.heap.get? p.1 = some p.2) → Here 1 w mean mg mb A' base outer' s'.heap →
      (∀ v' h' tk more, s'.heap.StaysIn h' → I (i + 1) v' (more ++ news) → (∀ p ∈ more, h'.get? p.1 = some p.2 ∧ s'.heap.get? p.1 = none) → Q' v' { s' with heap := h', toks := tk }) →
      (P → ∀ h' tk e, RaisedSN base s'.heap outer' e (.type "ValueError") [] h' → s'.heap.UpToSlots h' → E' (.ref e) { s' with heap := h', toks := tk }) →
      wpAny (model PR w) A' (call (.ref 79) [v, x]) Q' E' s')
    (k : ∀ v h' tk news, s.heap.StaysIn h' → I items.size v news → (∀ p ∈ news, h'.get? p.1 = some p.2 ∧ s.heap.get? p.1 = none) → Q v { s with heap := h', toks := tk })
    (ke : P → ∀ h' tk e, RaisedSN base s.heap outer e (.type "ValueError") [] h' → s.heap.UpToSlots h' → E (.ref e) { s with heap := h', toks := tk }) :
    wpAny (model PR w) A (call (.ref 23) [.ref 79, .ref l]) Q E s := by
  refine enter (binds := [(Str.ofString "function", .ref 79), (Str.ofString "sequence", .ref l), (Str.ofString "initial", .ref 15)]) H (by k_is) (by k_is) (binds_K H.inH rfl (by k_is) rfl rfl rfl) (locs rfl) (by decide) rfl rfl rfl ?_
  intro L h₁ tk F
  have X := H.inH
  have T := H.topH
  have hl1 : h₁.IsList l items := hl.at fun o e => F.keep _ o e
  have F2 := F.push (itObj l)
  have N2 : News s.heap L (h₁.push (itObj l)) [(h₁.objs.size, itObj l)] := News.push F News.nil _
  have N : News s.heap L h₁ [] := News.nil
  have hab := F.above
  have hlt : l < h₁.objs.size := let ⟨o, e, _⟩ := hl1; Heap.lt_size e
  k_steps
  rename_i h2 F2' N2'
  have hli2 : h2.IsListIter h₁.objs.size l 0 := ⟨_, (N2' _ (.head _)).1, rfl, rfl⟩
  have hl2 : h2.IsList l items := hl.at fun o e => F2'.keep _ o e
  refine next_item hli2 hl2 hz fun h2b hli2b hs2b => ?_
  obtain ⟨oi, hoi, hci, hdi⟩ := hli2b
  have F2b := F2'.change hs2b (N2' _ (.head _)).2.1 (N2' _ (.head _)).2.2
  have N2b : News s.heap L h2b [(h₁.objs.size, oi)] := fun p hp => by
    rw [List.mem_singleton.mp hp]
    exact ⟨hoi, (N2' _ (.head _)).2⟩
  clear F2' N2'
  k_steps
  rename_i h3 F3 N3
  have hli : h3.IsListIter h₁.objs.size l 1 := ⟨_, (N3 _ (.head _)).1, hci, hdi⟩
  have hpos : 0 < items.size := (Array.getElem?_eq_some_iff.mp hz).1
  have hl3 : h3.IsList l items := hl.at fun o e => F3.keep _ o e
  refine wpAny_pyIter_listiter hli ?_
  refine ⟨h₁.objs.size, _, _, items.size - 1, _, _, _, [], fun i m' news' => ∃ v, I (i + 1) v news' ∧ ∀ y, y ≠ Str.ofString "element" → m' y = (fun y => if y = Str.ofString "value" then some v else if y = Str.ofString "it" then some (Value.ref h₁.objs.size)
    else List.lookup y [(Str.ofString "function", Value.ref 79), (Str.ofString "sequence", Value.ref l), (Str.ofString "initial", Value.ref 15)].reverse) y, rfl, walksTail (by exact H.handled) h₁.objs.size l (Nat.ne_of_lt hlt) items hpos, ?_, ?_, ?_, ⟨hli, hl3⟩, F3, News.nil, ⟨v0, h0, fun y _ => rfl⟩, ?_, ?_⟩
  · intro hm
    simp only [List.mem_cons, List.not_mem_nil, or_false] at hm
    rcases hm with e | e
    · exact (N3 _ (.head _)).2.1 e.symm
    · obtain ⟨o, e', _⟩ := hl
      exact absurd (Heap.lt_size e') (Nat.not_lt.mpr (by rw [show l = L from e.symm]; exact hab))
  · intro b hb
    rw [List.mem_singleton.mp hb]
    exact (N3 _ (.head _)).2.2
  · intro p hp; cases hp
  · rintro i x m₁ news₁ s₁ own ⟨h4, tk4, rfl⟩ hi hx ⟨v, hI, hm⟩ hnw hown1 hown2 hown3 ⟨hli4, hl4⟩ F4 N4
    have em : (fun y => if y = Str.ofString "element" then some x else m₁ y) = (fun y => if y = Str.ofString "element" then some x else if y = Str.ofString "value" then some v else if y = Str.ofString "it" then some (Value.ref h₁.objs.size)
        else List.lookup y [(Str.ofString "function", Value.ref 79), (Str.ofString "sequence", Value.ref l), (Str.ofString "initial", Value.ref 15)].reverse) := by
      funext y
      by_cases hy : y = Str.ofString "element"
      · simp only [hy, if_true]
      · simp only [hy, if_false]; exact hm y hy
    have F4' : Fr s.heap L h4 (fun y => if y = Str.ofString "element" then some x else if y = Str.ofString "value" then some v else if y = Str.ofString "it" then some (Value.ref h₁.objs.size)
        else List.lookup y [(Str.ofString "function", Value.ref 79), (Str.ofString "sequence", Value.ref l), (Str.ofString "initial", Value.ref 15)].reverse) := em ▸ F4
    clear F4 em
    k_steps
    refine step (i + 1) v x news₁ _ _ _ _ _ hx hI (fun p hp => (N4 p (List.mem_append_right _ hp)).1) ((H.less (by decide : 2 ≤ 3)).push F4' rfl rfl) ?_ ?_
    · intro v' h5 tk5 more hk hI' hmore
      have hlt5 : ∀ p ∈ more, h4.objs.size ≤ p.1 ∨ h4.get? p.1 = none := fun p hp => .inr (hmore p hp).2
      have F5 := F4'.keeps hk
      have N5 : News s.heap L h5 (own ++ (more ++ news₁)) := fun p hp => by
        rcases List.mem_append.mp hp with hp | hp
        · exact ⟨hk _ _ (N4 p (List.mem_append_left _ hp)).1, (N4 p (List.mem_append_left _ hp)).2⟩
        · rcases List.mem_append.mp hp with hp | hp
          · refine ⟨(hmore p hp).1, fun q => ?_, ?_⟩
            · obtain ⟨o, _, _, ho, _⟩ := F4'.ns
              have := (hmore p hp).2
              rw [show p.1 = L from q] at this
              exact absurd (this.symm.trans ho) (by simp)
            · exact kts_none F4'.keep (hmore p hp).2
          · exact ⟨hk _ _ (N4 p (List.mem_append_right _ hp)).1, (N4 p (List.mem_append_right _ hp)).2⟩
      have hnw5 : ∀ p ∈ more ++ news₁, ¬ p.1 ∈ [h₁.objs.size] := fun p hp => by
        rcases List.mem_append.mp hp with hp | hp
        · intro q
          have h6 := (hmore p hp).2
          obtain ⟨o, ho, _⟩ := hli4
          rw [List.mem_singleton.mp q] at h6
          exact absurd (h6.symm.trans ho) (by simp)
        · exact hnw p hp
      k_steps
      rename_i h6 F6 N6
      refine ⟨rfl, _, _, _, more ++ news₁, rfl, F6, N6, hnw5, v', hI', fun y hy => ?_⟩
      by_cases hy2 : y = Str.ofString "value"
      · simp only [hy2, if_true]
      · simp only [hy, hy2, if_false]
    · intro hP h5 tk5 e R U
      exact leave_onSN H.below F4' R U fun h6 R6 _ U6 => ke hP _ _ _ R6 U6
  · intro h5 tk5 m5 news5 F5 N5 hnw5 ⟨v, hI, hm⟩
    have em : m5 = (fun y => if y = Str.ofString "element" then m5 y else if y = Str.ofString "value" then some v else if y = Str.ofString "it" then some (Value.ref h₁.objs.size)
        else List.lookup y [(Str.ofString "function", Value.ref 79), (Str.ofString "sequence", Value.ref l), (Str.ofString "initial", Value.ref 15)].reverse) := by
      funext y
      by_cases hy : y = Str.ofString "element"
      · simp only [hy, if_true]
      · simp only [hy, if_false]; exact hm y hy
    have F5' : Fr s.heap L h5 (fun y => if y = Str.ofString "element" then m5 y else if y = Str.ofString "value" then some v else if y = Str.ofString "it" then some (Value.ref h₁.objs.size)
        else List.lookup y [(Str.ofString "function", Value.ref 79), (Str.ofString "sequence", Value.ref l), (Str.ofString "initial", Value.ref 15)].reverse) := by rw [← em]; exact F5
    clear em F5
    k_steps
    exact k v h5 tk5 news5 F5'.keep (by rw [show items.size - 1 + 1 = items.size from Nat.succ_pred_eq_of_pos hpos] at hI; exact hI) fun p hp => ⟨(N5 p hp).1, (N5 p hp).2.2⟩

end


abbrev Mk := Option (Str × Tok)
def mval : Mk → Value
  | none => .none
  | some p => .str p.1 p.2
def isE (m : Mk) : Bool := match m with
  | none => false
  | some p => p.1.length == 0
def capM (m : Mk) (x : Str) : Str := match m with
  | none => Txt.join (Str.ofString " ") ((Txt.words x).map Txt.capitalize)
  | some p => Txt.join p.1 ((Txt.split x p.1).map Txt.capitalize)
def foldM (x : Str) (ms : List Mk) : Str := ms.foldl (fun y m => capM m y) x
def short (m : Mk) : Prop := match m with
  | none => True
  | some p => p.1.length ≤ 10
theorem str_empty {p : Str} (h : (p.length == 0) = true) : p = Str.ofString "" := by
  have h1 : p.cps.size = 0 := by simpa [Str.length] using h
  have h2 : p.cps = #[] := Array.eq_empty_of_size_eq_zero h1
  obtain ⟨c⟩ := p
  simp only at h2
  subst h2
  rfl
theorem plain_mval (m : Mk) : Plain (mval m) := by
  cases m with
  | none => exact .inl rfl
  | some p => exact .inr ⟨_, _, rfl⟩

theorem cap_c {x : Str} {a : Tok} {m : Mk} (H : Here 1 w mean mg mb A base outer s.heap) (hx : x.length ≤ 1000) (hm : short m)
    (k : isE m = false → ∀ h' tk a', s.heap.StaysIn h' → Q (.str (capM m x) a') { s with heap := h', toks := tk })
    (ke : isE m = true → ∀ h' tk e, RaisedSN base s.heap outer e (.type "ValueError") [] h' → s.heap.UpToSlots h' → E (.ref e) { s with heap := h', toks := tk }) :
    wpAny (model PR w) A (call (.ref 31) [.str x a, mval m]) Q E s := by
  cases m with
  | none => exact cap_none H hx (k rfl)
  | some p =>
    obtain ⟨p, b⟩ := p
    cases hp : isE (some (p, b)) with
    | true =>
      have e := str_empty (p := p) hp
      subst e
      exact cap_empty H (ke hp)
    | false =>
      have h1 : (p.length == 0) = false := hp
      have h2 : 1 ≤ p.length := by
        rcases Nat.eq_zero_or_pos p.length with h | h
        · rw [h] at h1; cases h1
        · exact h
      exact cap_sep H hx h2 hm (k hp)

theorem foldM_take {x : Str} {ms : List Mk} {i : Nat} {m : Mk} (h : ms[i]? = some m) : foldM x (ms.take (i + 1)) = capM m (foldM x (ms.take i)) := by
  obtain ⟨hi, rfl⟩ := List.getElem?_eq_some_iff.mp h
  unfold foldM
  rw [List.take_add_one, h, Option.toList_some, List.foldl_append]
  rfl
theorem items_mval {ms : List Mk} {i : Nat} {x : Value} (h : (ms.map mval).toArray[i]? = some x) : ∃ m, ms[i]? = some m ∧ x = mval m := by
  simp only [List.getElem?_toArray, List.getElem?_map, Option.map_eq_some_iff] at h
  obtain ⟨m, hm, e⟩ := h
  exact ⟨m, hm, e.symm⟩

theorem red_fold {t : Str} {a : Tok} {l : Addr} {ms : List Mk} (H : Here 3 w mean mg mb A base outer s.heap) (hl : s.heap.IsList l (ms.map mval).toArray) (hs : ∀ m ∈ ms, short m)
    (hb : ∀ i, (∀ m ∈ ms.take i, isE m = false) → (foldM t (ms.take i)).length ≤ 1000)
    (k : (∀ m ∈ ms, isE m = false) → ∀ h' tk a', s.heap.StaysIn h' → Q (.str (foldM t ms) a') { s with heap := h', toks := tk })
    (ke : (∃ m ∈ ms, isE m = true) → ∀ h' tk e, RaisedSN base s.heap outer e (.type "ValueError") [] h' → s.heap.UpToSlots h' → E (.ref e) { s with heap := h', toks := tk }) :
    wpAny (model PR w) A (call (.ref 23) [.ref 31, .ref l, .str t a]) Q E s := by
  refine red_init_31 (∃ m ∈ ms, isE m = true) (fun i v news => news = [] ∧ (∀ m ∈ ms.take i, isE m = false) ∧ ∃ b, v = .str (foldM t (ms.take i)) b) H hl (.inr ⟨_, _, rfl⟩) ⟨rfl, by simp, a, by simp [foldM]⟩ ?_ ?_ ke
  · intro i v x news A' outer' s' Q' E' hx hI hn H' kq kE
    obtain ⟨rfl, hne, b, rfl⟩ := hI
    obtain ⟨m, hm, rfl⟩ := items_mval hx
    have hmem : m ∈ ms := List.mem_of_getElem? hm
    refine cap_c H' (hb i hne) (hs m hmem) (fun he h' tk a' hk => kq _ h' tk [] hk ⟨rfl, fun m' hm' => ?_, a', ?_⟩ (by simp)) (fun he => kE ⟨m, hmem, he⟩)
    · rw [List.take_add_one, hm, Option.toList_some, List.mem_append, List.mem_singleton] at hm'
      rcases hm' with h | rfl
      · exact hne m' h
      · exact he
    · rw [foldM_take hm]
  · intro v h' tk news hk hI hn
    obtain ⟨rfl, hne, b, rfl⟩ := hI
    rw [List.size_toArray, List.length_map, List.take_length] at hne
    rw [List.size_toArray, List.length_map, List.take_length]
    exact k hne h' tk b hk

theorem red_fold_bare {t : Str} {a : Tok} {l : Addr} {ms : List Mk} (H : Here 3 w mean mg mb A base outer s.heap) (hl : s.heap.IsList l (.str t a :: ms.map mval).toArray) (hs : ∀ m ∈ ms, short m)
    (hb : ∀ i, (∀ m ∈ ms.take i, isE m = false) → (foldM t (ms.take i)).length ≤ 1000)
    (k : (∀ m ∈ ms, isE m = false) → ∀ h' tk a', s.heap.StaysIn h' → Q (.str (foldM t ms) a') { s with heap := h', toks := tk })
    (ke : (∃ m ∈ ms, isE m = true) → ∀ h' tk e, RaisedSN base s.heap outer e (.type "ValueError") [] h' → s.heap.UpToSlots h' → E (.ref e) { s with heap := h', toks := tk }) :
    wpAny (model PR w) A (call (.ref 23) [.ref 31, .ref l]) Q E s := by
  refine red_bare_31 (∃ m ∈ ms, isE m = true) (fun i v news => news = [] ∧ (∀ m ∈ ms.take (i - 1), isE m = false) ∧ (1 ≤ i) ∧ ∃ b, v = .str (foldM t (ms.take (i - 1))) b) H hl rfl ⟨rfl, by simp, Nat.le_refl _, a, by simp [foldM]⟩ ?_ ?_ ke
  · intro i v x news A' outer' s' Q' E' hx hI hn H' kq kE
    obtain ⟨rfl, hne, hi1, b, rfl⟩ := hI
    obtain ⟨j, rfl⟩ : ∃ j, i = j + 1 := ⟨i - 1, by omega⟩
    simp only [Nat.add_sub_cancel] at hne hx ⊢
    have hx' : (ms.map mval).toArray[j]? = some x := by simpa using hx
    obtain ⟨m, hm, rfl⟩ := items_mval hx'
    have hmem : m ∈ ms := List.mem_of_getElem? hm
    refine cap_c H' (hb j hne) (hs m hmem) (fun he h' tk a' hk => kq _ h' tk [] hk ⟨rfl, fun m' hm' => ?_, by omega, a', ?_⟩ (by simp)) (fun he => kE ⟨m, hmem, he⟩)
    · rw [Nat.add_sub_cancel, List.take_add_one, hm, Option.toList_some, List.mem_append, List.mem_singleton] at hm'
      rcases hm' with h | rfl
      · exact hne m' h
      · exact he
    · rw [Nat.add_sub_cancel, foldM_take hm]
  · intro v h' tk news hk hI hn
    obtain ⟨rfl, hne, _, b, rfl⟩ := hI
    have e : (Value.str t a :: ms.map mval).toArray.size - 1 = ms.length := by simp
    rw [e, List.take_length] at hne
    rw [e, List.take_length]
    exact k hne h' tk b hk


def toldF (t : Str) (ms : List Mk) : Str := if ms.any isE then Str.ofString "ValueError" else foldM t ms
def Evo (fs : List Addr) (h h' : Heap) : Prop := ∃ g, KtsTurn fs h g ∧ g.StaysIn h'
theorem Evo.of (fs : List Addr) {h h' : Heap} (k : h.StaysIn h') : Evo fs h h' := ⟨h, KtsTurn.refl, k⟩

theorem told_no {t : Str} {ms : List Mk} (h : ∀ m ∈ ms, isE m = false) : toldF t ms = foldM t ms := by
  unfold toldF
  rw [if_neg]
  intro h'
  obtain ⟨m, hm, he⟩ := List.any_eq_true.mp h'
  rw [h m hm] at he; cases he
theorem told_yes {t : Str} {ms : List Mk} (h : ∃ m ∈ ms, isE m = true) : toldF t ms = Str.ofString "ValueError" := by
  unfold toldF
  rw [if_pos]
  obtain ⟨m, hm, he⟩ := h
  exact List.any_eq_true.mpr ⟨m, hm, he⟩
theorem exc_ve : isSubtype (.type "ValueError") (.type "BaseException") = pure true := by rw [isSubtype_type]; kernel_rfl
theorem exc_ve2 : isSubtype (.type ((Manifest.find? "ValueError").elim "type" fun y => y.metatype)) (.type "tuple") = pure false := by rw [isSubtype_type]; kernel_rfl
theorem exc_ve3 : isSubtype (.type "ValueError") (.type "ValueError") = pure true := by rw [isSubtype_type]; kernel_rfl

theorem told_f {t : Str} {a : Tok} {l : Addr} {ms : List Mk} (H : Here 4 w mean mg mb A base outer s.heap) (hl : s.heap.IsList l (ms.map mval).toArray) (hs : ∀ m ∈ ms, short m)
    (hb : ∀ i, (∀ m ∈ ms.take i, isE m = false) → (foldM t (ms.take i)).length ≤ 1000)
    (k : ∀ h' tk a', Evo (outer.filterMap (·.frame)) s.heap h' → Q (.str (toldF t ms) a') { s with heap := h', toks := tk }) :
    wpAny (model PR w) A (call (.ref 72) [.str t a, .ref l, .bool false]) Q E s := by
  refine enter (binds := [(Str.ofString "text", .str t a), (Str.ofString "marks", .ref l), (Str.ofString "bare", .bool false)]) H (by k_is) (by k_is) (BindsTo.of_eq rfl) (locs rfl) (by decide) rfl rfl rfl ?_
  intro L h₁ tk F
  have X := H.inH
  have T := H.topH
  have N : News s.heap L h₁ [] := News.nil
  k_steps
  refine red_fold (ms := ms) (H.push F rfl rfl) (hl.at fun o e => F.keep _ o e) hs hb ?_ ?_
  · intro hne h2 tk2 a2 hk2
    k_steps
    rw [← told_no hne]
    exact k _ _ _ (Evo.of _ fun b o e => hk2 b o (F.keep b o e))
  · intro hex h2 tk2 e R U
    refine caught_SN0 (KF := hd.heap_39 w.params) (T' := "ValueError") R F H.below U H.inB H.topB H.dicts KtsTurn.refl (by k_is) (by boot_by_name) (by decide) exc_ve exc_ve2 exc_ve3 ?_
    intro h3 g3 T3 F3 N3 B3 X3 P3 D3
    k_steps
    rw [← told_yes hex]
    exact k _ _ _ ⟨g3, T3, F3.keep⟩

theorem told_t {t : Str} {a : Tok} {l : Addr} {ms : List Mk} (H : Here 4 w mean mg mb A base outer s.heap) (hl : s.heap.IsList l (ms.map mval).toArray) (hs : ∀ m ∈ ms, short m) (hn : ms.length ≤ 100)
    (hb : ∀ i, (∀ m ∈ ms.take i, isE m = false) → (foldM t (ms.take i)).length ≤ 1000)
    (k : ∀ h' tk a', Evo (outer.filterMap (·.frame)) s.heap h' → Q (.str (toldF t ms) a') { s with heap := h', toks := tk }) :
    wpAny (model PR w) A (call (.ref 72) [.str t a, .ref l, .bool true]) Q E s := by
  refine enter (binds := [(Str.ofString "text", .str t a), (Str.ofString "marks", .ref l), (Str.ofString "bare", .bool true)]) H (by k_is) (by k_is) (BindsTo.of_eq rfl) (locs rfl) (by decide) rfl rfl rfl ?_
  intro L h₁ tk F
  have X := H.inH
  have T := H.topH
  have N : News s.heap L h₁ [] := News.nil
  k_steps
  (with_reducible rename Fr _ _ _ _ => F2); (with_reducible rename News _ _ _ _ => N2)
  refine red_fold_bare (ms := ms) (H.push F2 rfl rfl) (by simpa using News.isList N2 (.head _)) hs hb ?_ ?_
  · intro hne h4 tk4 a4 hk4
    k_steps
    rw [← told_no hne]
    exact k _ _ _ (Evo.of _ fun b o e => hk4 b o (F2.keep b o e))
  · intro hex h4 tk4 e R U
    refine caught_SN0 (KF := hd.heap_39 w.params) (T' := "ValueError") R F2 H.below U H.inB H.topB H.dicts KtsTurn.refl (by k_is) (by boot_by_name) (by decide) exc_ve exc_ve2 exc_ve3 ?_
    intro h5 g5 T5 F5 N5 B5 X5 P5 D5
    k_steps
    rw [← told_yes hex]
    exact k _ _ _ ⟨g5, T5, F5.keep⟩


def Halt (P : Prop) : Prop := P
theorem halt {P : Prop} (h : Halt P) : P := h
abbrev gKind (t : Str) (i : Nat) : Int := (Txt.find (Str.ofString "aAbBcCdD") (Txt.item t (i : Int))).fdiv 2
def gStep (t p : Str) (st : Str × Nat × Bool) : Str × Nat × Bool :=
  if (Txt.slice t (some (st.2.1 : Int)) (some ((st.2.1 : Int) + (p.length : Int))) == p) = true then (st.1 ++ p, st.2.1 + p.length, true)
  else (st.1 ++ (if gKind t st.2.1 < 0 then Txt.item t (st.2.1 : Int) else if st.2.2 = true then Txt.item (Str.ofString "ABCD") (gKind t st.2.1) else Txt.item (Str.ofString "abcd") (gKind t st.2.1)), st.2.1 + 1, false)
def gRun (t p : Str) : Nat → Str × Nat × Bool → Str
  | 0, st => st.1
  | n + 1, st => if st.2.1 < t.length then gRun t p n (gStep t p st) else st.1
def greatF (t p : Str) : Str := gRun t p t.length (Str.ofString "", 0, true)
theorem gStep_grows {t p : Str} (hp : 1 ≤ p.length) (st : Str × Nat × Bool) : st.2.1 + 1 ≤ (gStep t p st).2.1 := by
  unfold gStep
  split
  · show st.2.1 + 1 ≤ st.2.1 + p.length; omega
  · exact Nat.le_refl _
theorem gRun_fuel {t p : Str} (hp : 1 ≤ p.length) : ∀ (n : Nat) (st : Str × Nat × Bool), t.length - st.2.1 ≤ n → gRun t p n st = gRun t p (t.length - st.2.1) st
  | 0, st, h => by rw [show t.length - st.2.1 = 0 from by omega]
  | n + 1, st, h => by
    by_cases hlt : st.2.1 < t.length
    · obtain ⟨k, hk⟩ : ∃ k, t.length - st.2.1 = k + 1 := ⟨t.length - st.2.1 - 1, by omega⟩
      rw [hk]
      show (if st.2.1 < t.length then gRun t p n (gStep t p st) else st.1) = (if st.2.1 < t.length then gRun t p k (gStep t p st) else st.1)
      rw [if_pos hlt, if_pos hlt]
      have hg := gStep_grows (t := t) hp st
      rw [gRun_fuel hp n _ (by omega), gRun_fuel hp k _ (by omega)]
    · rw [show t.length - st.2.1 = 0 from by omega]
      show (if st.2.1 < t.length then gRun t p n (gStep t p st) else st.1) = st.1
      rw [if_neg hlt]
theorem gRun_step {t p : Str} (hp : 1 ≤ p.length) {st : Str × Nat × Bool} (hlt : st.2.1 < t.length) : gRun t p (t.length - st.2.1) st = gRun t p (t.length - (gStep t p st).2.1) (gStep t p st) := by
  obtain ⟨k, hk⟩ : ∃ k, t.length - st.2.1 = k + 1 := ⟨t.length - st.2.1 - 1, by omega⟩
  rw [hk]
  show (if st.2.1 < t.length then gRun t p k (gStep t p st) else st.1) = _
  rw [if_pos hlt]
  have hg := gStep_grows (t := t) hp st
  exact gRun_fuel hp k _ (by omega)
theorem gKind_le (t : Str) (i : Nat) : gKind t i ≤ 3 := by
  have h1 := fact_find (Str.ofString "aAbBcCdD") (Txt.item t (i : Int))
  have h2 : (Txt.item t (i : Int)).length = 1 := rfl
  have h3 : (Str.ofString "aAbBcCdD").length = 8 := by decide +kernel
  rw [h2, h3] at h1
  show (Txt.find _ _).fdiv 2 ≤ 3
  have h4 : Txt.find (Str.ofString "aAbBcCdD") (Txt.item t (i : Int)) ≤ 7 := by omega
  generalize Txt.find (Str.ofString "aAbBcCdD") (Txt.item t (i : Int)) = z at h4
  rw [Int.fdiv_eq_ediv_of_nonneg _ (by decide)]
  omega

section
variable {t p out G : Str} {i : Nat} {fr : Bool}
theorem gDone1 (hp : 1 ≤ p.length) (hlt : (i : Int) < (t.length : Int)) (hs : (Txt.slice t (some (i : Int)) (some ((i : Int) + (p.length : Int))) == p) = true) (hg : gRun t p (t.length - i) (out, i, fr) = G) :
    gRun t p (t.length - (i + p.length)) (out ++ p, i + p.length, true) = G := by
  rw [← hg, gRun_step (st := (out, i, fr)) hp (by show i < t.length; omega)]
  have e : gStep t p (out, i, fr) = (out ++ p, i + p.length, true) := by unfold gStep; rw [if_pos hs]
  rw [e]
theorem gDone (hp : 1 ≤ p.length) (hlt : (i : Int) < (t.length : Int)) (hs : (Txt.slice t (some (i : Int)) (some ((i : Int) + (p.length : Int))) == p) = false) (hg : gRun t p (t.length - i) (out, i, fr) = G) {c : Str}
    (hc : (if gKind t i < 0 then Txt.item t (i : Int) else if fr = true then Txt.item (Str.ofString "ABCD") (gKind t i) else Txt.item (Str.ofString "abcd") (gKind t i)) = c) :
    gRun t p (t.length - (i + 1)) (out ++ c, i + 1, false) = G := by
  rw [← hg, gRun_step (st := (out, i, fr)) hp (by show i < t.length; omega)]
  have e : gStep t p (out, i, fr) = (out ++ c, i + 1, false) := by unfold gStep; rw [if_neg (by rw [hs]; decide), hc]
  rw [e]
end
theorem gMap {t p out' : Str} {a b c' d' : Tok} {i' : Int} {fr' : Bool} {f : Str → Option Value} (hf : ∀ y, y ≠ Str.ofString "fresh" → y ≠ Str.ofString "at" → y ≠ Str.ofString "out" → y ≠ Str.ofString "kind" → f y = List.lookup y [(Str.ofString "text", .str t a), (Str.ofString "mark", .str p b)].reverse)
    (y : Str) (hy : y ≠ Str.ofString "kind") :
    (if y = Str.ofString "fresh" then some (Value.bool fr') else if y = Str.ofString "at" then some (Value.int i' d') else if y = Str.ofString "out" then some (Value.str out' c') else f y) =
    (if y = Str.ofString "fresh" then some (Value.bool fr') else if y = Str.ofString "at" then some (Value.int i' d') else if y = Str.ofString "out" then some (Value.str out' c')
      else List.lookup y [(Str.ofString "text", .str t a), (Str.ofString "mark", .str p b)].reverse) := by
  split
  · rfl
  · split
    · rfl
    · split
      · rfl
      · exact hf y (by assumption) (by assumption) (by assumption) hy

abbrev gCanon (t p out : Str) (a b c d : Tok) (i : Int) (fr : Bool) : Str → Option Value := fun y =>
  if y = Str.ofString "fresh" then some (.bool fr) else if y = Str.ofString "at" then some (.int i d) else if y = Str.ofString "out" then some (.str out c)
  else List.lookup y [(Str.ofString "text", .str t a), (Str.ofString "mark", .str p b)].reverse
section
local macro_rules | `(tactic| walk_at "exec While Compare cons nil") => `(tactic| (refine halt ?_))
theorem great_c {t p : Str} {a b : Tok} (H : Here 1 w mean mg mb A base outer s.heap) (ht : t.length ≤ 1000) (hp : 1 ≤ p.length) (hp' : p.length ≤ 10)
    (k : ∀ h' tk a', s.heap.StaysIn h' → Q (.str (greatF t p) a') { s with heap := h', toks := tk }) :
    wpAny (model PR w) A (call (.ref 58) [.str t a, .str p b]) Q E s := by
  refine enter (binds := [(Str.ofString "text", .str t a), (Str.ofString "mark", .str p b)]) H (by k_is) (by k_is) (BindsTo.of_eq rfl) (locs rfl) (by decide) rfl rfl rfl ?_
  intro L h₁ tk F
  have X := H.inH
  have T := H.topH
  have N : News s.heap L h₁ [] := News.nil
  k_steps
  unfold Halt
  (with_reducible rename Fr _ _ _ _ => F2)
  refine' While_inv2 (L := L) (h₀ := s.heap) (n₀ := t.length) (fun n m₁ news₁ => ∃ out c d, ∃ (i : Nat) (fr : Bool), news₁ = [] ∧ i ≤ t.length + 10 ∧ n = t.length - i ∧ out.length ≤ i ∧ gRun t p (t.length - i) (out, i, fr) = greatF t p ∧ (∀ y, y ≠ Str.ofString "kind" → m₁ y = gCanon t p out a b c d i fr y)) ?F ?N ?J ?_ ?E
  case F => exact F2
  case N => exact News.nil
  case J => exact ⟨Str.ofString "", _, _, 0, true, rfl, Nat.zero_le _, rfl, Nat.zero_le _, rfl, fun y _ => rfl⟩
  case E => passes_own
  rintro n m₁ news₁ h₂ tk₂ F3 N3 ⟨out, c, d, i, fr, rfl, hi, rfl, ho, hg, hm⟩
  have em : m₁ = (fun y => if y = Str.ofString "kind" then m₁ y else gCanon t p out a b c d i fr y) := by
    funext y
    by_cases hy : y = Str.ofString "kind"
    · simp only [hy, if_true]
    · simp only [hy, if_false]; exact hm y hy
  have F3' : Fr s.heap L h₂ (fun y => if y = Str.ofString "kind" then m₁ y else gCanon t p out a b c d i fr y) := by rw [← em]; exact F3
  clear em F3 hm
  have hk3 : (Txt.find (Str.ofString "aAbBcCdD") (Txt.item t (i : Int))).fdiv 2 ≤ 3 := gKind_le t i
  have h4 : (Str.ofString "ABCD").length = 4 := by decide +kernel
  have h5 : (Str.ofString "abcd").length = 4 := by decide +kernel
  k_steps
  · (with_reducible rename Fr _ _ _ _ => F4)
    refine ⟨_, _, _, [], t.length - (i + p.length), rfl, F4, News.nil, ?_, out ++ p, _, _, i + p.length, true, rfl, ?_, rfl, ?_, gDone1 hp (by assumption) (by assumption) hg, gMap fun y h1 h2 h3 h6 => ?_⟩
    · omega
    · omega
    · rw [Str.length_append]; omega
    · simp only [gCanon, h1, h2, h3, h6, if_false]
  · (with_reducible rename Fr _ _ _ _ => F4)
    refine ⟨_, _, _, [], t.length - (i + 1), rfl, F4, News.nil, ?_, out ++ Txt.item t (i : Int), _, _, i + 1, false, rfl, ?_, rfl, ?_, gDone hp (by assumption) (by assumption) hg (by rw [if_pos (by assumption)]), gMap fun y h1 h2 h3 h6 => ?_⟩
    · omega
    · omega
    · rw [Str.length_append, show (Txt.item t (i : Int)).length = 1 from rfl]; omega
    · simp only [gCanon, h1, h2, h3, h6, if_false]
  · (with_reducible rename Fr _ _ _ _ => F4)
    refine ⟨_, _, _, [], t.length - (i + 1), rfl, F4, News.nil, ?_, out ++ Txt.item (Str.ofString "ABCD") (gKind t i), _, _, i + 1, false, rfl, ?_, rfl, ?_, gDone hp (by assumption) (by assumption) hg (by rw [if_neg (by assumption), if_pos (by assumption)]), gMap fun y h1 h2 h3 h6 => ?_⟩
    · omega
    · omega
    · rw [Str.length_append, show (Txt.item (Str.ofString "ABCD") (gKind t i)).length = 1 from rfl]; omega
    · simp only [gCanon, h1, h2, h3, h6, if_false]
  · (with_reducible rename Fr _ _ _ _ => F4)
    refine ⟨_, _, _, [], t.length - (i + 1), rfl, F4, News.nil, ?_, out ++ Txt.item (Str.ofString "abcd") (gKind t i), _, _, i + 1, false, rfl, ?_, rfl, ?_, gDone hp (by assumption) (by assumption) hg (by rw [if_neg (by assumption), if_neg (by simp_all)]), gMap fun y h1 h2 h3 h6 => ?_⟩
    · omega
    · omega
    · rw [Str.length_append, show (Txt.item (Str.ofString "abcd") (gKind t i)).length = 1 from rfl]; omega
    · simp only [gCanon, h1, h2, h3, h6, if_false]
  · have e : out = greatF t p := by
      rw [← hg, show t.length - i = 0 from by omega]; rfl
    rw [← e] at k
    exact k _ _ _ F3'.keep
end


section
variable {prog : Program} {h₀ : Heap} {L : Addr} {m : Str → Option Value} {news news' : List (Addr × Obj)}
theorem get_neg1 {value slice : Expr} {l : Addr} {items : Array Value} {c : Nat} {u : Tok} {x : Value} (N : News h₀ L s.heap news) (hm : (l, W.listOf items c) ∈ news) (hx : items.back? = some x) (h : Q x s)
    (hs : subscripted slice false (.ref l) (.int (-1) u) = operate [.ref l, .int (-1) u] (getItem (.ref l) (.int (-1) u)) := by with_unfolding_all rfl) :
    wpAny (model prog w) A (subscriptTail value slice (.ref l) (.int (-1) u)) Q E s := by
  have hl : s.heap.IsList l items := ⟨_, (N _ hm).1, rfl, _, rfl⟩
  have hpos : 0 < items.size := by
    rw [Array.back?_eq_getElem?] at hx
    have := (Array.getElem?_eq_some_iff.mp hx).1
    omega
  refine tail_any hl.typeIs slot_list_getitem.lookup (wpAny_getItem_list_neg hl (by decide) (by omega) (by decide) (x := x) ?_ h) hs
  rw [Array.back?_eq_getElem?] at hx
  rw [show (-1 + (items.size : Int)).toNat = items.size - 1 from by omega]
  exact hx

theorem set_neg1 {l : Addr} {items : Array Value} {c : Nat} {u : Tok} {v : Value} {Q : Unit → Shared → Prop} (F : Fr h₀ L s.heap m) (N : News h₀ L s.heap news) (U : Upd l (W.listOf items c) (W.listOf (items.setIfInBounds (items.size - 1) v) c) news news') (hpos : 0 < items.size)
    (h : ∀ h', Fr h₀ L h' m → News h₀ L h' news' → Q () { s with heap := h' }) : wpAny (model prog w) A (setItem (.ref l) (.int (-1) u) v) Q E s := by
  obtain ⟨pre, post, rfl, rfl, a, b⟩ := U.split
  have z := N (l, W.listOf items c) (List.mem_append.mpr (.inr (.head _)))
  have hl : s.heap.IsList l items := ⟨_, z.1, rfl, _, rfl⟩
  unfold setItem
  try with_reducible refine wpAny_holding ?_
  first | refine wpAny_bind (wpAny_pure ?_) | skip
  refine wpAny_bind (wpAny_sequenceKey hl.typeIs (by decide) ?_)
  refine wpAny_bind (wpAny_callSpecial?_slot (name := Str.ofString "__setitem__") hl.typeIs slot_list_setitem
    (wpAny_call_entry slot_list_setitem hl.typeIs entry_list_setitem ?_ (args_list_setitem _ _ _)))
  show wpAny _ _ (Builtin.List.listSubscript? (.int (-1) u) >>= _) _ _ s
  refine wpAny_bind (wpAny_listSubscript_int (by decide) ?_)
  show wpAny _ _ ((Builtin.List.listItems (.ref l) >>= fun xs => pure ((seqIndex? (-1) xs.size).bind fun i => xs[i]?.map (i, ·))) >>= _) _ _ s
  refine wpAny_bind (wpAny_bind ?_)
  show wpAny _ _ (seqItems? (.ref l) >>= _) _ _ s
  refine wpAny_bind (wpAny_seqItems z.1 rfl (wpAny_pure (wpAny_pure ?_)))
  rw [seqIndex_neg (by decide) (by omega), show (-1 + (items.size : Int)).toNat = items.size - 1 from by omega]
  simp only [Option.bind_some, Array.getElem?_eq_getElem (show items.size - 1 < items.size from by omega), Option.map_some]
  show wpAny _ _ (setSeqItemAt l (items.size - 1) v >>= _) _ _ s
  refine wpAny_bind (wpAny_setSeqItemAt z.1 rfl ?_)
  have ho' : (s.heap.update l (Obj.mapSeq (·.setIfInBounds (items.size - 1) v))).get? l = some (W.listOf (items.setIfInBounds (items.size - 1) v) c) := by
    rw [Heap.get?_update_self _ z.1 rfl]
    simp [Obj.mapSeq, W.listOf]
  have hs : Heap.SameBut l s.heap (s.heap.update l (Obj.mapSeq (·.setIfInBounds (items.size - 1) v))) := Heap.SameBut.update ..
  have hq := h _ (F.change hs z.2.1 z.2.2) (news_set N a b hs ho')
  first
    | exact wpAny_bind (wpAny_pure (wpAny_pure ⟨.none, rfl, wpAny_pure hq⟩))
    | exact wpAny_pure ⟨.none, rfl, wpAny_pure hq⟩
end


def pStep (ws : List Str) (c : Nat) : List Str := if c = 32 ∨ c = 9 then ws ++ [Str.ofString ""] else ws.dropLast ++ [ws.getLastD (Str.ofString "") ++ ⟨#[c]⟩]
def pWords (cs : List Nat) : List Str := cs.foldl pStep [Str.ofString ""]
theorem in_blank {c : Nat} : (occurrences (Str.ofString " \t") (⟨#[c]⟩ : Str) 0 (Str.ofString " \t").length 1).isEmpty = !decide (c = 32 ∨ c = 9) := by
  have h := StrLaws.found_one (Str.ofString " \t") c
  have e : (Str.ofString " \t").cps.toList = [32, 9] := by decide +kernel
  rw [e] at h
  have h2 : decide (c ∈ [32, 9]) = decide (c = 32 ∨ c = 9) := by simp
  rw [h2] at h
  rw [← h, Bool.not_not]
theorem strValues_append (a b : List (Str × Tok)) : strValues (a ++ b) = strValues a ++ strValues b := by simp [strValues]
theorem set_last {ws : List (Str × Tok)} (hne : ws ≠ []) (x : Str) (t : Tok) :
    (strValues ws).toArray.setIfInBounds ((strValues ws).toArray.size - 1) (.str x t) = (strValues (ws.dropLast ++ [(x, t)])).toArray := by
  obtain ⟨l, a, rfl⟩ : ∃ l a, ws = l ++ [a] := ⟨ws.dropLast, ws.getLast hne, (List.dropLast_concat_getLast hne).symm⟩
  rw [List.dropLast_concat]
  simp [strValues, List.setIfInBounds_toArray, List.set_append]
theorem push_empty {ws : List (Str × Tok)} {x : Str} {t : Tok} : (strValues ws).toArray.push (Value.str x t) = (strValues (ws ++ [(x, t)])).toArray := by rw [strValues_append]; simp [strValues]
theorem pWords_snoc {cs : List Nat} {i c : Nat} (h : cs[i]? = some c) : pWords (cs.take (i + 1)) = pStep (pWords (cs.take i)) c := by
  unfold pWords
  rw [List.take_add_one, h, Option.toList_some, List.foldl_append]
  rfl
theorem paired_eq {a b : List Value} (h : Paired Eq a b) : a = b := by
  induction h with
  | nil => rfl
  | cons e _ ih => rw [e, ih]
def notE (v : Value) : Bool := match v with
  | .str x _ => x != Str.ofString ""
  | _ => true
theorem filter_notE (ws : List (Str × Tok)) : (strValues ws).filter notE = strValues (ws.filter fun q => q.1 != Str.ofString "") := by
  simp only [strValues, List.filter_map]
  rfl
def plainF (t : Str) : Str := Txt.join (Str.ofString " ") ((pWords t.cps.toList).filter (· != Str.ofString ""))
section
local macro_rules | `(tactic| walk_at "exec For Name Name cons nil") => `(tactic| (refine halt ?_))
local macro_rules | `(tactic| walk_at "call builtin:list.append") => `(tactic| (refine halt ?_))
local macro_rules | `(tactic| walk_at "subscriptTail Name UnaryOp ref int") => `(tactic| (k_dflt (refine get_neg1 (by k_asm) (by k_mem) (by assumption) ?_)))
local macro_rules | `(tactic| walk_at "setItem ref int") => `(tactic| (refine halt ?_))
local macro_rules | `(tactic| walk_at "setItem ref int str") => `(tactic| (refine halt ?_))
set_option maxHeartbeats 600000 in
theorem plain_c {t : Str} {a : Tok} (H : Here 1 w mean mg mb A base outer s.heap) (ht : t.length ≤ 1000) (hA : t.cps.all (· < 128) = true)
    (k : ∀ h' tk a', s.heap.StaysIn h' → Q (.str (plainF t) a') { s with heap := h', toks := tk }) :
    wpAny (model PR w) A (call (.ref 51) [.str t a]) Q E s := by
  refine enter (binds := [(Str.ofString "text", .str t a)]) H (by k_is) (by k_is) (BindsTo.of_eq rfl) (locs rfl) (by decide) rfl rfl rfl ?_
  intro L h₁ tk F
  have X := H.inH
  have T := H.topH
  have N : News s.heap L h₁ [] := News.nil
  k_steps
  unfold Halt
  rename_i wl h2 _ h3 F3 N3
  refine For_invV s.heap (by rfl) (by rfl) ?_
  k_steps
  refine wpAny_pyIter_ascii hA ?_
  have hw3 := N3 _ (.head _)
  have hwI : wl < h3.objs.size := Heap.lt_size hw3.1
  have hab := F3.above
  have hLI : L < h3.objs.size := F3.ns.lt
  have F4 := F3.push { cls := .type "str_ascii_iterator", data := .fields #[.str t a, .int 0 0] }
  have N4 := News.push F3 N3 { cls := .type "str_ascii_iterator", data := .fields #[.str t a, .int 0 0] }
  refine ⟨h3.objs.size, _, _, t.cps.size, _, _, _, _, fun i m' news' => ∃ ws : List (Str × Tok), ∃ ep, ws.map (·.1) = pWords (t.cps.toList.take i) ∧ ws ≠ [] ∧ ws.length ≤ i + 1 ∧ (∀ q ∈ ws, q.1.length ≤ i) ∧ news' = [(wl, W.listOf (strValues ws).toArray ep)] ∧
    ∀ y, y ≠ Str.ofString "sign" → m' y = (if y = Str.ofString "words" then some (Value.ref wl) else List.lookup y [(Str.ofString "text", Value.str t a)].reverse), rfl, Walks.strAscii (by exact H.handled) h3.objs.size t a, ?_, ?_, ?_, ⟨_, Heap.get?_push_size _ rfl, rfl, rfl⟩, F4,
    fun p hp => N4 p (List.mem_cons_of_mem _ hp), ?_, ?_, ?_⟩
  · intro hm
    rw [List.mem_singleton] at hm
    exact absurd hm (Nat.ne_of_lt hLI)
  · intro b hb
    rw [List.mem_singleton.mp hb]
    exact (N4 _ (.head _)).2.2
  · intro p hp
    rw [List.mem_singleton.mp hp, List.mem_singleton]
    exact Nat.ne_of_lt hwI
  · exact ⟨[(Str.ofString "", _)], 0, rfl, by simp, by simp, fun q hq => by rw [List.mem_singleton.mp hq]; exact Nat.zero_le _, rfl, fun y _ => rfl⟩
  · rintro i x m₁ news₁ s₁ own ⟨h5, tk5, rfl⟩ hi ⟨c, u, hc, rfl⟩ ⟨ws, ep, hws, hne, hwn, hwl, rfl, hm⟩ hnw hown1 hown2 hown3 ⟨oI, hoI, hst⟩ F5 N5
    have em : (fun y => if y = Str.ofString "sign" then some (Value.str ⟨#[c]⟩ u) else m₁ y) = (fun y => if y = Str.ofString "sign" then some (Value.str ⟨#[c]⟩ u) else if y = Str.ofString "words" then some (Value.ref wl) else List.lookup y [(Str.ofString "text", Value.str t a)].reverse) := by
      funext y
      by_cases hy : y = Str.ofString "sign"
      · simp only [hy, if_true]
      · simp only [hy, if_false]; exact hm y hy
    have F5' : Fr s.heap L h5 (fun y => if y = Str.ofString "sign" then some (Value.str ⟨#[c]⟩ u) else if y = Str.ofString "words" then some (Value.ref wl) else List.lookup y [(Str.ofString "text", Value.str t a)].reverse) := em ▸ F5
    clear F5 em
    have N6 : News s.heap L h5 [(h3.objs.size, oI), (wl, W.listOf (strValues ws).toArray ep)] := fun p hp => by
      rcases List.mem_cons.mp hp with rfl | hp
      · exact ⟨hoI, Nat.ne_of_gt hLI, (N4 _ (.head _)).2.2⟩
      · exact N5 p (List.mem_append_right _ hp)
    have hit : i < t.length := hi
    have hsz : (strValues ws).toArray.size ≤ sizeLine := by
      rw [show sizeLine = 16777216 from rfl]
      simp [strValues]; omega
    have hpos : 0 < (strValues ws).toArray.size := by
      rcases List.length_pos_iff.mpr hne with h
      simp [strValues]
      omega
    obtain ⟨ls, lt, hla⟩ : ∃ ls lt, ws.getLast? = some (ls, lt) := ⟨_, _, (List.getLast?_eq_some_getLast hne)⟩
    have hback : (strValues ws).toArray.back? = some (.str ls lt) := by
      simp [strValues, hla]
    have hlsl : ls.length ≤ 1000 := by
      have := hwl _ (List.mem_of_getLast? hla)
      simp at this
      omega
    have hcl : t.cps.toList[i]? = some c := by rw [Array.getElem?_toList]; exact hc
    have hls : (ws.map (·.1)).getLastD (Str.ofString "") = ls := by
      rw [List.getLastD_eq_getLast?, List.getLast?_map, hla]; rfl
    have hback2 : ∀ {h6 : Heap} {o6 : Obj}, News s.heap L h6 [(h3.objs.size, oI), (wl, o6)] → News s.heap L h6 (own ++ [(wl, o6)]) := fun N p hp => by
      rcases List.mem_append.mp hp with hp | hp
      · have h7 := hown1 p hp
        have h8 : h5.get? p.1 = some p.2 := hown2 p hp
        rw [List.mem_singleton] at h7
        rw [h7] at h8
        have h9 : p = (h3.objs.size, oI) := Prod.ext h7 (Option.some.inj (h8.symm.trans hoI))
        rw [h9]
        exact N _ (.head _)
      · exact N p (List.mem_cons_of_mem _ hp)
    clear N5
    k_steps
    · unfold Halt
      refine set_neg1 F5' N6 (Upd.tail (Nat.ne_of_gt hwI) (Upd.head (by simp))) hpos fun h6 F6 N7 => ?_
      rw [set_last hne] at N7
      k_steps
      refine ⟨rfl, _, _, _, _, rfl, F6, hback2 N7, ?_, _, _, ?_, ?_, ?_, ?_, rfl, fun y hy => ?_⟩
      · intro p hp
        rw [List.mem_singleton.mp hp, List.mem_singleton]
        exact Nat.ne_of_lt hwI
      · rw [pWords_snoc hcl, ← hws, List.map_append, List.map_dropLast]
        unfold pStep
        have hb : ¬ (c = 32 ∨ c = 9) := by
          have hocc : (occurrences (Str.ofString " \t") (⟨#[c]⟩ : Str) 0 (Str.ofString " \t").length 1).isEmpty = true := by assumption
          rw [in_blank] at hocc
          simpa using hocc
        rw [if_neg hb, hls]
        rfl
      · simp
      · have := List.length_pos_iff.mpr hne
        simp; omega
      · intro q hq
        rcases List.mem_append.mp hq with hq | hq
        · have := hwl q (List.dropLast_subset _ hq); omega
        · rw [List.mem_singleton.mp hq]
          have h9 := hwl _ (List.mem_of_getLast? hla)
          show (ls ++ (⟨#[c]⟩ : Str)).length ≤ i + 1
          rw [Str.length_append, show (⟨#[c]⟩ : Str).length = 1 from rfl]
          have : ls.length ≤ i := h9
          omega
      · simp only [hy, if_false]
    · unfold Halt
      refine append_K F5' N6 (Upd.tail (Nat.ne_of_gt hwI) (Upd.head (by simp))) (fun h6 F6 N7 => ?_) hsz
      rw [push_empty] at N7
      k_steps
      refine ⟨rfl, _, _, _, _, rfl, F6, hback2 N7, ?_, _, _, ?_, ?_, ?_, ?_, rfl, fun y hy => ?_⟩
      · intro p hp
        rw [List.mem_singleton.mp hp, List.mem_singleton]
        exact Nat.ne_of_lt hwI
      · rw [pWords_snoc hcl, ← hws, List.map_append]
        unfold pStep
        have hb : (c = 32 ∨ c = 9) := by
          have hocc : (occurrences (Str.ofString " \t") (⟨#[c]⟩ : Str) 0 (Str.ofString " \t").length 1).isEmpty = false := by assumption
          rw [in_blank] at hocc
          rcases Bool.eq_false_or_eq_true (decide (c = 32 ∨ c = 9)) with h | h
          · exact of_decide_eq_true h
          · rw [h] at hocc; cases hocc
        rw [if_pos hb]
        rfl
      · simp
      · simp; omega
      · intro q hq
        rcases List.mem_append.mp hq with hq | hq
        · have := hwl q hq; omega
        · rw [List.mem_singleton.mp hq]
          exact Nat.zero_le _
      · simp only [hy, if_false]
  · intro h5 tk5 m5 news5 F5 N5 hnw5 ⟨ws, ep, hws, hne, hwn, hwl, e, hm⟩
    subst e
    have em : m5 = (fun y => if y = Str.ofString "sign" then m5 y else if y = Str.ofString "words" then some (Value.ref wl) else List.lookup y [(Str.ofString "text", Value.str t a)].reverse) := by
      funext y
      by_cases hy : y = Str.ofString "sign"
      · simp only [hy, if_true]
      · simp only [hy, if_false]; exact hm y hy
    have F5' : Fr s.heap L h5 (fun y => if y = Str.ofString "sign" then m5 y else if y = Str.ofString "words" then some (Value.ref wl) else List.lookup y [(Str.ofString "text", Value.str t a)].reverse) := by rw [← em]; exact F5
    clear em F5 hm
    k_steps
    have hl5 : h5.IsList wl (strValues ws).toArray := News.isList N5 (.head _)
    have hw5 : wl < h5.objs.size := Heap.lt_size (N5 _ (.head _)).1
    have F6 := F5'.push { cls := .type "list_iterator", data := .fields #[.ref wl, .int 0 0] }
    have N6 := News.push F5' N5 { cls := .type "list_iterator", data := .fields #[.ref wl, .int 0 0] }
    have hwsl : ws.length ≤ 1001 := by
      have : t.cps.size = t.length := rfl
      omega
    refine wpAny_pyIter_list hl5 ?_
    refine ⟨notE, Eq, h5.objs.size, _, _, (strValues ws).toArray.size, _, _, rfl, Walks.list (by exact H.handled) h5.objs.size wl (Nat.ne_of_lt hw5) (strValues ws).toArray, ?_, ⟨⟨_, Heap.get?_push_size _ rfl, rfl, rfl⟩, hl5.push _⟩, ?_, ⟨?_, ?_⟩, ?_⟩
    · rw [show sizeLine = 16777216 from rfl]
      simp [strValues]; omega
    · intro b hb
      simp only [List.mem_cons, List.not_mem_nil, or_false] at hb
      show b < (h5.push _).objs.size
      rw [Heap.size_push]
      rcases hb with rfl | rfl
      · exact Nat.lt_succ_self _
      · exact Nat.lt_succ_of_lt hw5
    · intro C i v s₃ m₃ E' hP hn hmx hk htk
      obtain ⟨x, u, rfl⟩ : ∃ x u, v = .str x u := by
        have h9 := List.mem_of_getElem? (by simpa using hP)
        simp [strValues] at h9
        obtain ⟨x, u, _, e⟩ := h9
        exact ⟨x, u, e.symm⟩
      refine wpAny_tests_one ?_
      k_steps
      exact ⟨_, _, rfl, fun _ _ e => e⟩
    · intro C i v s₃ m₃ E' hP hpv hn hmx hk htk
      k_steps
      exact ⟨_, _, rfl, fun _ _ e => e⟩
    · intro D h6 tk6 ys vs hD hlD hpD hvs hvP hpair hk6
      have evs : vs = strValues ws := by
        apply List.ext_getElem?
        intro j
        rcases Nat.lt_or_ge j vs.length with hj | hj
        · have := hvP j _ (List.getElem?_eq_getElem hj)
          rw [List.getElem?_eq_getElem hj, ← this]
          simp
        · rw [List.getElem?_eq_none hj, List.getElem?_eq_none]
          rw [hvs] at hj
          simpa using hj
      have eys : ys = (strValues (ws.filter fun q => q.1 != Str.ofString "")).toArray := by
        apply Array.ext'
        rw [← paired_eq hpair, evs, filter_notE]
      rw [eys] at hlD
      k_steps
      refine SC.join (l := ws.filter fun q => q.1 != Str.ofString "") hlD rfl ?_ fun t' k' => ?_
      · refine joinOk_small (by decide) ?_ fun y hy => ?_
        · rw [List.length_map]
          have := List.length_filter_le (fun q : Str × Tok => q.1 != Str.ofString "") ws
          omega
        · obtain ⟨q, hq, rfl⟩ := List.mem_map.mp hy
          have h9 := hwl q (List.mem_filter.mp hq).1
          have : t.cps.size = t.length := rfl
          omega
      · k_steps
        have e : Txt.join (Str.ofString " ") ((ws.filter fun q => q.1 != Str.ofString "").map (·.1)) = plainF t := by
          unfold plainF
          rw [show t.cps.toList = t.cps.toList.take t.cps.size from by rw [← Array.length_toList, List.take_length], ← hws]
          congr 1
          rw [List.filter_map]
          rfl
        rw [e]
        exact k _ _ _ fun b o hb => hk6 b o (fun hm => by
          rw [List.mem_singleton] at hm
          have h9 := Heap.lt_size (F5'.keep b o hb)
          exact absurd hm (Nat.ne_of_lt h9)) (F6.keep b o hb)
end


def isN (m : Mk) : Bool := m.isNone
def lastMark (ms : List Mk) : Str := match ms.getLast? with
  | some (some p) => p.1
  | _ => Str.ofString " "
def dueF (t : Str) (ms : List Mk) : Str :=
  if ms.any isE then Str.ofString "ValueError" else if ms.isEmpty then t else greatF (if ms.any isN then plainF t else t) (lastMark ms)
section
variable {prog : Program} {l : Addr} {ms : List Mk}
theorem any_mval (e : Value → Bool) (f : Mk → Bool) (h : ∀ m, e (mval m) = f m) (ms : List Mk) : (ms.map mval).toArray.any e = ms.any f := by
  rw [List.any_toArray, List.any_map]
  exact congrArg (fun g => ms.any g) (funext h)
theorem in_empty {u : Tok} (hl : s.heap.IsList l (ms.map mval).toArray) (h : Q (.bool (ms.any isE)) s) : wpAny (model prog w) A (compareOp .In (.str (Str.ofString "") u) (.ref l)) Q E s := by
  refine SeqAt.in_listAt (fun v => match v with | .str x _ => x == Str.ofString "" | _ => false) hl (fun y hy => ?_) ?_
  · simp only [List.mem_toArray, List.mem_map] at hy
    obtain ⟨m, _, rfl⟩ := hy
    cases m with
    | none => exact SeqAt.EqAt.none_str _ _
    | some p => exact SeqAt.EqAt.str_str _ _ _ _
  · rw [any_mval _ isE]
    · exact h
    · intro m
      cases m with
      | none => rfl
      | some p =>
        show (p.1 == Str.ofString "") = (p.1.length == 0)
        rcases hp : (p.1.length == 0) with _ | _
        · rw [Bool.eq_false_iff]
          intro h9
          rw [eq_of_beq h9] at hp
          cases hp
        · rw [str_empty hp]; exact beq_self_eq_true _
theorem in_none (hl : s.heap.IsList l (ms.map mval).toArray) (h : Q (.bool (ms.any isN)) s) : wpAny (model prog w) A (compareOp .In .none (.ref l)) Q E s := by
  refine SeqAt.in_listAt (fun v => match v with | .none => true | _ => false) hl (fun y hy => ?_) ?_
  · simp only [List.mem_toArray, List.mem_map] at hy
    obtain ⟨m, _, rfl⟩ := hy
    cases m with
    | none => exact SeqAt.EqAt.same _
    | some p => exact SeqAt.EqAt.str_none _ _
  · rw [any_mval _ isN]
    · exact h
    · intro m
      cases m <;> rfl
theorem eq_nil {b : Addr} (hl : s.heap.IsList l (ms.map mval).toArray) (hb : s.heap.IsList b #[]) (hu : A.units < cLine) (h : Q (.bool ms.isEmpty) s) : wpAny (model prog w) A (compareOp .Eq (.ref l) (.ref b)) Q E s := by
  cases ms with
  | nil => exact SeqAt.eq_listAt (e := fun _ => true) hl hb rfl hu (fun j h1 => absurd h1 (by simp)) h
  | cons m r => exact SeqAt.eq_list_lengthsAt hl hb (by simp) hu h
theorem is_none {m : Mk} (h : Q (.bool (isN m)) s) : wpAny (model prog w) A (compareOp .Is (mval m) .none) Q E s := by
  cases m with
  | none => exact wpAny_bind (wpAny_pure (wpAny_pure h))
  | some p => exact wpAny_bind (wpAny_pure (wpAny_pure h))
theorem get_last {value slice : Expr} {u : Tok} {m : Mk} (hl : s.heap.IsList l (ms.map mval).toArray) (hm : ms.getLast? = some m) (h : Q (mval m) s)
    (hs : subscripted slice false (.ref l) (.int (-1) u) = operate [.ref l, .int (-1) u] (getItem (.ref l) (.int (-1) u)) := by with_unfolding_all rfl) :
    wpAny (model prog w) A (subscriptTail value slice (.ref l) (.int (-1) u)) Q E s := by
  have hx : (ms.map mval).toArray.back? = some (mval m) := by simp [hm]
  rw [Array.back?_eq_getElem?] at hx
  have hpos : 0 < (ms.map mval).toArray.size := by
    have := (Array.getElem?_eq_some_iff.mp hx).1
    omega
  refine tail_any hl.typeIs slot_list_getitem.lookup (wpAny_getItem_list_neg hl (by decide) (by omega) (by decide) (x := mval m) ?_ h) hs
  rw [show (-1 + ((ms.map mval).toArray.size : Int)).toNat = (ms.map mval).toArray.size - 1 from by omega]
  exact hx
end
section
local macro_rules | `(tactic| walk_at "compareOp In str ref") => `(tactic| (refine halt ?_))
local macro_rules | `(tactic| walk_at "compareOp In none ref") => `(tactic| (refine halt ?_))
local macro_rules | `(tactic| walk_at "compareOp Eq ref ref") => `(tactic| (refine halt ?_))
local macro_rules | `(tactic| walk_at "subscriptTail Name UnaryOp ref int") => `(tactic| (refine halt ?_))
theorem due_c {t : Str} {a : Tok} {l : Addr} {ms : List Mk} (H : Here 2 w mean mg mb A base outer s.heap) (ht : t.length ≤ 1000) (hA : t.cps.all (· < 128) = true) (hp : (plainF t).length ≤ 1000) (hl : s.heap.IsList l (ms.map mval).toArray) (hs : ∀ m ∈ ms, short m)
    (k : ∀ h' tk a', s.heap.StaysIn h' → Q (.str (dueF t ms) a') { s with heap := h', toks := tk }) :
    wpAny (model PR w) A (call (.ref 65) [.str t a, .ref l]) Q E s := by
  refine enter (binds := [(Str.ofString "text", .str t a), (Str.ofString "marks", .ref l)]) H (by k_is) (by k_is) (BindsTo.of_eq rfl) (locs rfl) (by decide) rfl rfl rfl ?_
  intro L h₁ tk F
  have X := H.inH
  have T := H.topH
  have N : News s.heap L h₁ [] := News.nil
  have hl1 : h₁.IsList l (ms.map mval).toArray := hl.at fun o e => F.keep _ o e
  k_steps
  unfold Halt
  refine in_empty hl1 ?_
  cases h1 : ms.any isE with
  | true =>
    k_steps
    rw [show Str.ofString "ValueError" = dueF t ms from by unfold dueF; rw [if_pos h1]]
    exact k _ _ _ F.keep
  | false =>
    k_steps
    unfold Halt
    (with_reducible rename Fr _ _ _ _ => F2); (with_reducible rename News _ _ _ _ => N2)
    refine eq_nil (stays_list (Fr.keep F2) hl) (News.isList N2 (.head _)) (by show A.units + 3 < 9900; have := H.uni; omega) ?_
    cases h2 : ms.isEmpty with
    | true =>
      k_steps
      rw [show dueF t ms = t from by unfold dueF; rw [if_neg (by rw [h1]; decide), if_pos h2]] at k
      exact k _ _ _ F2.keep
    | false =>
      obtain ⟨m, hm⟩ : ∃ m, ms.getLast? = some m := ⟨_, List.getLast?_eq_some_getLast (by intro e; rw [e] at h2; cases h2)⟩
      k_steps
      unfold Halt
      refine in_none (stays_list (Fr.keep F2) hl) ?_
      cases h3 : ms.any isN with
      | true =>
        k_steps
        refine plain_c (H.push F2 rfl rfl) ht hA fun h4 tk4 a4 hk4 => ?_
        have F4 := Fr.keeps F2 hk4
        have N4 : News s.heap L h4 [] := News.nil
        clear F2 N2
        k_steps
        unfold Halt
        (with_reducible rename Fr _ _ _ _ => F5)
        refine get_last (hl.at fun o e => Fr.keep F5 _ o e) hm ?_
        cases m with
        | none =>
          dsimp only [mval]
          k_steps
          refine great_c (H.push F5 rfl rfl) hp (by decide) (by decide) fun h9 tk9 a9 hk9 => ?_
          k_steps
          rw [show greatF (plainF t) (Str.ofString " ") = dueF t ms from by unfold dueF; rw [if_neg (by rw [h1]; decide), if_neg (by rw [h2]; decide), if_pos h3, show lastMark ms = Str.ofString " " from by unfold lastMark; rw [hm]]]
          exact k _ _ _ fun b o e => hk9 b o (Fr.keep F5 b o e)
        | some p =>
          dsimp only [mval]
          k_steps
          unfold Halt
          refine get_last (hl.at fun o e => Fr.keep F5 _ o e) hm ?_
          dsimp only [mval]
          k_steps
          have hmem : some p ∈ ms := List.mem_of_getLast? hm
          have hE : isE (some p) = false := by
            rcases h9 : isE (some p) with _ | _
            · rfl
            · rw [List.any_eq_true.mpr ⟨_, hmem, h9⟩] at h1; cases h1
          have hp1 : 1 ≤ p.1.length := by
            rcases Nat.eq_zero_or_pos p.1.length with h9 | h9
            · have : (p.1.length == 0) = false := hE
              rw [h9] at this; cases this
            · exact h9
          refine great_c (H.push F5 rfl rfl) hp hp1 (hs _ hmem) fun h9 tk9 a9 hk9 => ?_
          k_steps
          rw [show greatF (plainF t) p.1 = dueF t ms from by unfold dueF; rw [if_neg (by rw [h1]; decide), if_neg (by rw [h2]; decide), if_pos h3, show lastMark ms = p.1 from by unfold lastMark; rw [hm]]]
          exact k _ _ _ fun b o e => hk9 b o (Fr.keep F5 b o e)
      | false =>
        k_steps
        unfold Halt
        (with_reducible rename Fr _ _ _ _ => F5)
        refine get_last (hl.at fun o e => Fr.keep F5 _ o e) hm ?_
        cases m with
        | none =>
          dsimp only [mval]
          k_steps
          refine great_c (H.push F5 rfl rfl) ht (by decide) (by decide) fun h9 tk9 a9 hk9 => ?_
          k_steps
          rw [show greatF t (Str.ofString " ") = dueF t ms from by unfold dueF; rw [if_neg (by rw [h1]; decide), if_neg (by rw [h2]; decide), if_neg (by rw [h3]; decide), show lastMark ms = Str.ofString " " from by unfold lastMark; rw [hm]]]
          exact k _ _ _ fun b o e => hk9 b o (Fr.keep F5 b o e)
        | some p =>
          dsimp only [mval]
          k_steps
          unfold Halt
          refine get_last (hl.at fun o e => Fr.keep F5 _ o e) hm ?_
          dsimp only [mval]
          k_steps
          have hmem : some p ∈ ms := List.mem_of_getLast? hm
          have hE : isE (some p) = false := by
            rcases h9 : isE (some p) with _ | _
            · rfl
            · rw [List.any_eq_true.mpr ⟨_, hmem, h9⟩] at h1; cases h1
          have hp1 : 1 ≤ p.1.length := by
            rcases Nat.eq_zero_or_pos p.1.length with h9 | h9
            · have : (p.1.length == 0) = false := hE
              rw [h9] at this; cases this
            · exact h9
          refine great_c (H.push F5 rfl rfl) ht hp1 (hs _ hmem) fun h9 tk9 a9 hk9 => ?_
          k_steps
          rw [show greatF t p.1 = dueF t ms from by unfold dueF; rw [if_neg (by rw [h1]; decide), if_neg (by rw [h2]; decide), if_neg (by rw [h3]; decide), show lastMark ms = p.1 from by unfold lastMark; rw [hm]]]
          exact k _ _ _ fun b o e => hk9 b o (Fr.keep F5 b o e)
end


def InM (_v y : Value) : Prop := ∃ z t, y = .int z t ∧ 0 ≤ z ∧ z < 1000000
theorem paired_ints : ∀ {a b : List Value}, Paired InM a b → ∃ ns, IntsAre b ns ∧ (∀ z ∈ ns, 0 ≤ z ∧ z < 1000000) ∧ ns.length = a.length
  | _, _, .nil => ⟨[], .nil, by simp, rfl⟩
  | _, _, .cons ⟨z, t, e, h0, h1⟩ r => by
    obtain ⟨ns, h, hz, hl⟩ := paired_ints r
    subst e
    refine ⟨z :: ns, .cons z t h, ?_, by simp [hl]⟩
    intro x hx
    rcases List.mem_cons.mp hx with rfl | hx
    · exact ⟨h0, h1⟩
    · exact hz x hx
theorem sum_bound : ∀ (ns : List Int), (∀ z ∈ ns, 0 ≤ z ∧ z < 1000000) → 0 ≤ ns.sum ∧ ns.sum ≤ 1000000 * (ns.length : Int)
  | [], _ => by simp
  | z :: ns, h => by
    have h1 := sum_bound ns fun x hx => h x (List.mem_cons_of_mem _ hx)
    have h2 := h z List.mem_cons_self
    simp only [List.sum_cons, List.length_cons]
    omega
section
theorem heap_c {l : Addr} {vs : List Value} {ns : List Int} {kk st : Int} {u1 u2 : Tok} (H : Here 1 w mean mg mb A base outer s.heap) (hl : s.heap.IsList l vs.toArray) (hi : IntsAre vs ns) (hn : ns.length ≤ 63) (hk0 : 0 ≤ kk) (hk1 : kk ≤ 2) (hs0 : 0 ≤ st) (hs1 : st ≤ 1000000)
    (k : ∀ z h' tk a', s.heap.StaysIn h' → 0 ≤ z → z ≤ 100000000 → Q (.int z a') { s with heap := h', toks := tk }) :
    wpAny (model PR w) A (call (.ref 36) [.ref l, .int kk u1, .int st u2]) Q E s := by
  refine enter (binds := [(Str.ofString "script", .ref l), (Str.ofString "k", .int kk u1), (Str.ofString "start", .int st u2)]) H (by k_is) (by k_is) (BindsTo.of_eq rfl) (locs rfl) (by decide) rfl rfl rfl ?_
  intro L h₁ tk F
  have X := H.inH
  have T := H.topH
  have N : News s.heap L h₁ [] := News.nil
  have hl1 : h₁.IsList l vs.toArray := hl.at fun o e => F.keep _ o e
  have hvl : vs.toArray.size ≤ sizeLine := by
    rw [show sizeLine = 16777216 from rfl, List.size_toArray, hi.length]; omega
  k_steps
  (with_reducible rename Fr _ _ _ _ => F2); (with_reducible rename News _ _ _ _ => N2)
  rename_i h2
  have hl2 := News.isList N2 (.head _)
  have hint := hi.pick (some kk) (some 63) (some 3)
  have hlen := length_pickNums_le hi (some kk) (some 63) (some 3)
  have hsz2 : (slicePick vs.toArray (some kk) (some 63) (some 3)).size ≤ 63 := by
    have := hint.length
    rw [Array.length_toList] at this
    omega
  have hlt2 := Heap.lt_size (N2 _ (.head _)).1
  have F3 := F2.push { cls := .type "list_iterator", data := .fields #[.ref (h₁.objs.size + 1), .int 0 0] }
  refine wpAny_pyIter_list hl2 ?_
  refine ⟨fun _ => true, InM, h2.objs.size, _, _, (slicePick vs.toArray (some kk) (some 63) (some 3)).size, _, _, rfl, Walks.list (by exact H.handled) h2.objs.size (h₁.objs.size + 1) (Nat.ne_of_lt hlt2) (slicePick vs.toArray (some kk) (some 63) (some 3)), ?_, ⟨⟨_, Heap.get?_push_size _ rfl, rfl, rfl⟩, hl2.push _⟩, ?_, ⟨?_, ?_⟩, ?_⟩
  · rw [show sizeLine = 16777216 from rfl]; omega
  · intro b hb
    simp only [List.mem_cons, List.not_mem_nil, or_false] at hb
    show b < (h2.push _).objs.size
    rw [Heap.size_push]
    rcases hb with rfl | rfl
    · exact Nat.lt_succ_self _
    · exact Nat.lt_succ_of_lt hlt2
  · intro C i v s₃ m₃ E' hP hn hmx hk htk
    exact wpAny_tests_nil ⟨rfl, _, _, rfl, fun _ _ e => e⟩
  · intro C i v s₃ m₃ E' hP hpv hn hmx hk htk
    obtain ⟨x, u, rfl⟩ : ∃ x u, v = .int x u := by
      have h9 : (slicePick vs.toArray (some kk) (some 63) (some 3)).toList[i]? = some v := by rw [Array.getElem?_toList]; exact hP
      obtain ⟨hlt, _⟩ := List.getElem?_eq_some_iff.mp h9
      rw [hint.length] at hlt
      obtain ⟨t, ht⟩ := hint.get i _ (List.getElem?_eq_getElem hlt)
      rw [h9] at ht
      exact ⟨_, _, Option.some.inj ht⟩
    k_steps
    · refine ⟨_, _, rfl, ?_, ?_⟩
      · rw [show (10 ^ Int.toNat 6 : Int) = 1000000 from rfl, Int.fmod_eq_emod_of_nonneg _ (by decide)]; omega
      · rw [show (10 ^ Int.toNat 6 : Int) = 1000000 from rfl, Int.fmod_eq_emod_of_nonneg _ (by decide)]; omega
    · exact ⟨_, _, rfl, fun _ _ e => e⟩
  · intro D h6 tk6 ys vs' hD hlD hpD hvs hvP hpair hk6
    obtain ⟨ns', hi', hb', hn'⟩ := paired_ints hpair
    have hfl := List.length_filter_le (fun _ : Value => true) vs'
    have hsb := sum_bound ns' hb'
    have hk7 : ∀ b o, s.heap.get? b = some o → h6.get? b = some o := fun b o hb => hk6 b o (fun hm => by
      rw [List.mem_singleton] at hm
      have h9 := Heap.lt_size (F2.keep b o hb)
      exact absurd hm (Nat.ne_of_lt h9)) (F3.keep b o hb)
    have F6 : Fr s.heap L h6 (fun y => List.lookup y [(Str.ofString "script", Value.ref l), (Str.ofString "k", Value.int kk u1), (Str.ofString "start", Value.int st u2)].reverse) :=
      ⟨F3.ns.at' fun o e => hk6 L o (fun hm => by
        rw [List.mem_singleton] at hm
        have h9 := F2.ns.lt
        exact absurd hm (Nat.ne_of_lt h9)) e, hk7, F3.above⟩
    have N6 : News s.heap L h6 [] := News.nil
    clear F2 F3 N2 F N
    k_steps
    refine sumK (by exact H.handled) F6 N6 (vs := ys.toList) (by simpa using hlD) hi' ?_
    intro h7 tk7 t7 F7 N7
    k_steps
    exact k _ _ _ _ F7.keep (by omega) (by omega)
end



theorem enterC {n : Nat} {w : World} {mean : ExcName → Option Value} {mg mb : Str → Option Value} {A : Around} {base : Heap} {outer : List Env} {s : Shared} {Q E : Value → Shared → Prop}
    {name qual : Str} {params : Arguments} {body : List Stmt} {scope : Scope} {dV kV doc pm cdv ct oc : Value} {an od : Option Addr} {osl : Array (Option Value)} {f : Addr} {vals : List Value} {binds : List (Str × Value)}
    (H : Here (n + 1) w mean mg mb A base outer s.heap)
    (ho : (hd.heap_39 w.params).lookup f = some ⟨oc, od, .func (fnOf name qual params body scope dV kV doc pm an cdv ct), osl⟩) (hcd : codeIn (hd.heap_39 w.params) cdv qual = true)
    (hbind : BindsTo s (fnOf name qual params body scope dV kV doc pm an cdv ct) ⟨vals, []⟩ binds) (hkind : (binds.all fun y => scope.names.lookup y.1 == some .local || scope.names.lookup y.1 == some .cell) = true)
    (hnd : ((cellsFrom 0 scope.names []).map (·.1)).Nodup) (hco : scope.isCoroutine = false) (hgen : scope.isGenerator = false) (hk : scope.kind = .function)
    (h : ∀ L h₁ tk cells, Fr s.heap L h₁ (bindL (envOfC qual scope L f cdv).kindOf binds fun _ => none) → News s.heap L h₁ cells →
      CellsAre (bindC (envOfC qual scope L f cdv).kindOf binds fun _ => none) (cellsFrom (L + 1) scope.names []) cells →
      wpAny (model PR w) (A.deeper (envOfC qual scope L f cdv)) (execs body (envOfC qual scope L f cdv))
        (fun fl s' => Q (match fl with | .ret v => v | _ => .none) s')
        (fun e s' => wpAny (model PR w) (A.deeper (envOfC qual scope L f cdv)) (leaving (envOfC qual scope L f cdv) e) (fun _ s'' => E e s'') (fun e' s'' => E e' s'') s')
        { s with heap := h₁, toks := tk }) :
    wpAny (model PR w) A (call (.ref f) vals) Q E s := by
  have X := H.inH
  refine wpAny_call (codeAny_call_function (by show A.depth < 1000; have := H.dep; omega) (X _ _ ho) rfl hco hgen rfl (codeRec_of X hcd) (hbind _ _ _ _ ?_))
  refine wpAny_newFunctionEnv_cells hk (kindsX hkind _) fun env' he s' x => ?_
  subst he
  refine ⟨H.topH.nolimit.keeps x.toInCall.keep, codeAny_func ?_⟩
  obtain ⟨h₁, tk, rfl, _⟩ := x.done
  have hk₁ := x.toInCall.keep
  obtain ⟨cells, NC, Y⟩ := Cl.news (h₀ := s.heap) (Nat.le_refl _) fun n c hm => ⟨x.cell n c (lookup_of_mem_nodup (cellsFrom_names scope.names 0 (s.heap.objs.size + 1) [] [] rfl ▸ hnd) hm), x.above n c hm⟩
  exact h s.heap.objs.size h₁ tk cells ⟨x.toInCall.ns, hk₁, Nat.le_refl _⟩ NC Y


abbrev ALPH : List Nat := [97, 98, 99, 100, 65, 66, 67, 68, 32, 9, 45]
def Good (x : Str) : Prop := ∀ c ∈ x.cps.toList, c ∈ ALPH
theorem sign_good {i : Int} (h0 : 0 ≤ i) (h1 : i < 8) : (Txt.charAt (Str.ofString "aB -c-\tD") i).getD 0 ∈ ALPH := by
  have h : i = 0 ∨ i = 1 ∨ i = 2 ∨ i = 3 ∨ i = 4 ∨ i = 5 ∨ i = 6 ∨ i = 7 := by omega
  rcases h with h | h | h | h | h | h | h | h <;> (subst h; decide +kernel)
theorem join6 (a b c d e f : Nat) : Txt.join (Str.ofString "") [⟨#[a]⟩, ⟨#[b]⟩, ⟨#[c]⟩, ⟨#[d]⟩, ⟨#[e]⟩, ⟨#[f]⟩] = ⟨#[a, b, c, d, e, f]⟩ := rfl
theorem fm8 (x : Int) : 0 ≤ x.fmod 8 ∧ x.fmod 8 < 8 := ⟨Int.fmod_nonneg_of_pos x (by decide), Int.fmod_lt_of_pos x (by decide)⟩
theorem six_good {a b c d e f : Int} {x : Str}
    (h : x = Txt.join (Str.ofString "") [Txt.item (Str.ofString "aB -c-\tD") (a.fmod 8), Txt.item (Str.ofString "aB -c-\tD") (b.fmod 8), Txt.item (Str.ofString "aB -c-\tD") (c.fmod 8), Txt.item (Str.ofString "aB -c-\tD") (d.fmod 8), Txt.item (Str.ofString "aB -c-\tD") (e.fmod 8), Txt.item (Str.ofString "aB -c-\tD") (f.fmod 8)]) :
    x.length = 6 ∧ Good x := by
  unfold Txt.item at h
  rw [join6] at h
  subst h
  refine ⟨rfl, ?_⟩
  intro y hy
  simp only [List.mem_cons, List.not_mem_nil, or_false] at hy
  rcases hy with h | h | h | h | h | h <;> (rw [h]; exact sign_good (fm8 _).1 (fm8 _).2)
theorem six_c {z : Int} {u : Tok} (H : Here 1 w mean mg mb A base outer s.heap) (hz0 : 0 ≤ z) (hz1 : z ≤ 100000000)
    (k : ∀ x h' tk a', x.length = 6 → Good x → s.heap.StaysIn h' → Q (.str x a') { s with heap := h', toks := tk }) :
    wpAny (model PR w) A (call (.ref 41) [.int z u]) Q E s := by
  refine enterC (binds := [(Str.ofString "drawn", .int z u)]) H (by k_is) (by k_is) (BindsTo.of_eq rfl) rfl (by decide +kernel) rfl rfl rfl ?_
  intro L h₁ tk cells F N Y
  have X := H.inH
  have T := H.topH
  k_cells Y
  k_steps
  (with_reducible rename Fr _ _ _ _ => F2); (with_reducible rename News _ _ _ _ => N2)
  refine LCg.CompSrc.range (n := 6) (by exact H.handled) F2 N2 (by assumption) (by decide) (by decide) (by decide) fun g => ?_
  k_steps
  (with_reducible rename Fr _ _ _ _ => F3)
  exact k _ _ _ _ (six_good rfl).1 (six_good rfl).2 (Fr.keep F3)


abbrev KSTR : List Str := [Str.ofString "-", Str.ofString " ", Str.ofString "\t", Str.ofString "--", Str.ofString "- ", Str.ofString "\t ", Str.ofString ""]
def Kind (m : Mk) : Prop := match m with
  | none => True
  | some p => p.1 ∈ KSTR
abbrev kindsL (t : Tok) : List Mk := [none, some (Str.ofString "-", t), some (Str.ofString " ", t + 1), some (Str.ofString "\t", t + 1 + 1), some (Str.ofString "--", t + 1 + 1 + 1), some (Str.ofString "- ", t + 1 + 1 + 1 + 1), some (Str.ofString "\t ", t + 1 + 1 + 1 + 1 + 1), some (Str.ofString "", t + 1 + 1 + 1 + 1 + 1 + 1)]
theorem kinds_ok {t : Tok} {m : Mk} (h : m ∈ kindsL t) : Kind m := by
  simp only [List.mem_cons, List.not_mem_nil, or_false] at h
  rcases h with h | h | h | h | h | h | h | h <;> (rw [h]; simp [Kind])
theorem get_kind {prog : Program} {l : Addr} {ms : List Mk} {value slice : Expr} {u : Tok} {i : Int} (hl : s.heap.IsList l (ms.map mval).toArray) (h0 : 0 ≤ i) (h1 : i < ms.length) (h2 : ms.length ≤ 100) (h : ∀ m ∈ ms, Q (mval m) s)
    (hs : subscripted slice false (.ref l) (.int i u) = operate [.ref l, .int i u] (getItem (.ref l) (.int i u)) := by with_unfolding_all rfl) :
    wpAny (model prog w) A (subscriptTail value slice (.ref l) (.int i u)) Q E s := by
  obtain ⟨n, rfl⟩ : ∃ n : Nat, i = n := ⟨i.toNat, by omega⟩
  have hn : n < ms.length := by omega
  refine tail_any hl.typeIs slot_list_getitem.lookup (wpAny_getItem_list hl (by omega) (by simp; omega) (x := mval ms[n]) ?_ (h _ (List.getElem_mem hn))) hs
  simp [hn]
section
local macro_rules | `(tactic| walk_at "subscriptTail Name BinOp ref int") => `(tactic| (refine halt ?_))
theorem marks_c {z : Int} {u : Tok} (H : Here 1 w mean mg mb A base outer s.heap) (hz0 : 0 ≤ z) (hz1 : z ≤ 100000000)
    (k : ∀ m0 m1 m2 m3 x h' tk, Kind m0 → Kind m1 → Kind m2 → Kind m3 → h'.get? x = some (LCg.lst [mval m0, mval m1, mval m2, mval m3]) → s.heap.get? x = none → s.heap.StaysIn h' → Q (.ref x) { s with heap := h', toks := tk }) :
    wpAny (model PR w) A (call (.ref 46) [.int z u]) Q E s := by
  refine enterC (binds := [(Str.ofString "drawn", .int z u)]) H (by k_is) (by k_is) (BindsTo.of_eq rfl) rfl (by decide +kernel) rfl rfl rfl ?_
  intro L h₁ tk cells F N Y
  have X := H.inH
  have T := H.topH
  k_cells Y
  k_steps
  (with_reducible rename Fr _ _ _ _ => F2); (with_reducible rename News _ _ _ _ => N2)
  refine LCg.CompSrc.range (n := 4) (by exact H.handled) F2 N2 (by assumption) (by decide) (by decide) (by decide) fun g => ?_
  k_steps
  unfold Halt
  (with_reducible rename News _ _ _ _ => N3)
  refine get_kind (ms := kindsL _) (News.isList N3 (by k_mem)) (fm8 _).1 (fm8 _).2 (by simp) fun m0 hm0 => ?_
  k_steps
  unfold Halt
  (with_reducible rename News _ _ _ _ => N4)
  refine get_kind (ms := kindsL _) (News.isList N4 (by k_mem)) (fm8 _).1 (fm8 _).2 (by simp) fun m1 hm1 => ?_
  k_steps
  unfold Halt
  (with_reducible rename News _ _ _ _ => N5)
  refine get_kind (ms := kindsL _) (News.isList N5 (by k_mem)) (fm8 _).1 (fm8 _).2 (by simp) fun m2 hm2 => ?_
  k_steps
  unfold Halt
  (with_reducible rename News _ _ _ _ => N6)
  refine get_kind (ms := kindsL _) (News.isList N6 (by k_mem)) (fm8 _).1 (fm8 _).2 (by simp) fun m3 hm3 => ?_
  k_steps
  (with_reducible rename Fr _ _ _ _ => F7)
  (with_reducible rename News _ _ _ _ => N7)
  exact k m0 m1 m2 m3 _ _ _ (kinds_ok hm0) (kinds_ok hm1) (kinds_ok hm2) (kinds_ok hm3) (N7 _ (by k_mem)).1 (N7 _ (by k_mem)).2.2 (Fr.keep F7)
end


def Hold3 (B : Heap) (l : List Env) (e : Addr) (X : String) (h : Heap) : Prop :=
  B.StaysIn h ∧ B.get? e = none ∧ h.FunFrames B l ∧ ∃ oe vs T oT ts, h.get? e = some oe ∧ oe.cls = .type X ∧ oe.data = .fields vs ∧ vs[1]? = some (.ref T) ∧ vs[2]? = some .none ∧
    B.get? T = none ∧ T ≠ e ∧ h.get? T = some oT ∧ oT.data = .fields ts ∧ 3 < ts.size
section
variable {M : Model} {B : Heap} {env : Env} {l : List Env} {L e : Addr} {X : String}
theorem note3 {oe : Obj} {vs : Array Value} {Q : Unit → Shared → Prop}
    (hfr : A.frames = some (env :: outer)) (hl : s.heap.FunFrames B (env :: outer)) (hf : env.frame = some L)
    (he : s.heap.get? e = some oe) (hc : oe.cls = .type X) (hkb : B.StaysIn s.heap) (hen : B.get? e = none) (hd : oe.data = .fields vs) (h1 : vs[1]? = some .none) (h2 : vs[2]? = some .none)
    (h : ∀ h', Hold3 B (env :: outer) e X h' → s.heap.UpToSlots h' → Q () { s with heap := h' }) :
    wpAny M A (noteFrame (.ref e) env) Q E s := by
  have hsz : 1 < vs.size := (Array.getElem?_eq_some_iff.mp h1).1
  unfold noteFrame
  simp only [hf]
  refine wpAny_bind (wpAny_field he hd h1 ?_)
  rw [if_neg (by decide)]
  have hene : e ∉ (env :: outer).filterMap (·.frame) := fun hm => by
    obtain ⟨_, o, ho, hnf⟩ := hl.mem hm
    rw [he] at ho; injection ho with ho; subst ho; exact hnf vs hd
  refine wpAny_bind (wpAny_frameOf_fun hfr hl hf fun h₁ hs₁ => ?_)
  refine wpAny_bind (wpAny_entryPlaceOf fun pl hpl => ?_)
  unfold EntryCells.newEntry newFields
  refine wpAny_bind (wpAny_newObj_type ?_ (hpl.sizeOk5 _ _ _ _ _))
  have he₁ : h₁.get? e = some oe := (hs₁.2.1 e hene).trans he
  have kb₁ : B.StaysIn h₁ := fun b o hbo => (hs₁.2.1 b fun hm => by rw [(hl.mem hm).1] at hbo; cases hbo).trans (hkb b o hbo)
  generalize hO : ({ cls := Value.type "traceback", dict := none, data := Data.fields ([Value.none, Value.ref L, Value.none, rawInt L, Value.none] ++ (if pl.isEmpty then List.replicate 6 Value.none else pl)).toArray } : Obj) = O
  have he₂ := Heap.get?_push_of_some (h := h₁) O he₁
  have hTe : h₁.objs.size ≠ e := Nat.ne_of_gt (Heap.lt_size he₁)
  have keep : ∀ b o, b ≠ e → h₁.get? b = some o → ((h₁.push O).update e (Obj.mapFields (·.setIfInBounds 1 (Value.ref h₁.objs.size)))).get? b = some o :=
    fun b o hbe hb => by
      rw [Heap.get?_update_other _ _ (Ne.symm hbe)]
      exact Heap.get?_push_of_some _ hb
  have noRecord : ∀ b o, s.heap.get? b = some o → (∀ vs, o.data ≠ .fields vs) → b ≠ e := fun b o hb hnf q => by
    rw [q, he] at hb; injection hb with hb; subst hb; exact hnf vs hd
  refine wpAny_setField he₂ hd hsz (h _ ?_ ?_)
  · have hd₃ := Obj.data_mapFields hd (·.setIfInBounds 1 (Value.ref h₁.objs.size))
    have he₃ := Heap.get?_update_self (Obj.mapFields (·.setIfInBounds 1 (Value.ref h₁.objs.size))) he₂ (Obj.isFreed_of_fields hd₃)
    have hT₃ := (Heap.get?_update_other (h₁.push O) (Obj.mapFields (·.setIfInBounds 1 (Value.ref h₁.objs.size))) (Ne.symm hTe)).trans (Heap.get?_push_size h₁ (by rw [← hO]; rfl))
    refine ⟨fun b o hbo => keep b o (fun q => by rw [q, hen] at hbo; cases hbo) (kb₁ b o hbo), hen, hl.of_keeps fun b o hb hnf => ?_, _, _, h₁.objs.size, O, _, he₃, (Obj.cls_mapFields _ _).trans hc, hd₃, by simp [hsz], ?_, kb₁.fresh, hTe, hT₃, by rw [← hO], ?_⟩
    · obtain ⟨sl, hs⟩ := hs₁.2.2 b o hb
      exact ⟨_, keep b _ (noRecord b o hb hnf) hs, rfl⟩
    · rw [Array.getElem?_setIfInBounds_ne (by decide)]; exact h2
    · simp only [List.size_toArray, List.length_append, List.length_cons, List.length_nil] <;> omega
  · intro b o hb hnf
    obtain ⟨sl, hs⟩ := hs₁.2.2 b o hb
    exact ⟨sl, keep b _ (noRecord b o hb hnf) hs⟩

theorem land3 {Q : Unit → Shared → Prop} (H : Hold3 B l e X s.heap) (h : ∀ h', Hold3 B l e X h' → s.heap.UpToSlots h' → Q () { s with heap := h' }) : wpAny M A (setFlight (.ref e) none) Q E s := by
  obtain ⟨hkb, hen, hl, oe, vs, T, oT, ts, he, hc, hd, h1, h2, hnT, hTe, hT, hdT, hsz3⟩ := H
  have other : ∀ b, b ≠ T → (s.heap.update T (Obj.mapFields (·.setIfInBounds 3 ((none : Option Addr).elim Value.none fun f => rawInt f)))).get? b = s.heap.get? b :=
    fun b hb => Heap.get?_update_other _ _ (Ne.symm hb)
  have noRecord : ∀ b o, s.heap.get? b = some o → (∀ vs, o.data ≠ .fields vs) → b ≠ T := fun b o hb hnf q => by
    rw [q, hT] at hb; injection hb with hb; subst hb; exact hnf ts hdT
  unfold setFlight
  refine wpAny_bind (wpAny_field he hd h1 ?_)
  rw [if_pos (show (Value.ref T != Value.none) = true from by simp)]
  refine wpAny_setField hT hdT hsz3 (h _ ⟨fun b o hbo => (other b fun q => by rw [q, hnT] at hbo; cases hbo).trans (hkb b o hbo), hen,
    hl.of_keeps fun b o hb hnf => ⟨o, (other b (noRecord b o hb hnf)).trans hb, rfl⟩, oe, vs, T, _, _, (other e (Ne.symm hTe)).trans he, hc, hd, h1, h2, hnT, hTe,
    Heap.get?_update_self _ hT (Obj.isFreed_of_fields (Obj.data_mapFields hdT _)), Obj.data_mapFields hdT _, by simp [hsz3]⟩ fun b o hb hnf => ⟨o.slots, (other b (noRecord b o hb hnf)).trans hb⟩)
end

section
variable {prog : Program} {A₀ : Around} {s' : Shared} {g h : Heap} {L a e : Addr} {m : Str → Option Value} {name : Str} {scope : Scope} {cd : Value}
  {b₀ : Stmt} {suite : List Stmt} {pos np : Pos} {rest : List ExceptHandler} {Q : Flow → Shared → Prop} {KF : Frag} {p : Program} {loose : List Str} {x : Str} {X T' : String}
theorem caught3 (hx : Heap.NewExc h s'.heap e X) (F : Fr g L h m) (K : Below A₀ base outer g) (XB : KF.In base) (TB : Top p loose mean mg mb base)
    (D : KtsDicts (outer.filterMap (·.frame)) g)
    (ex : nsIn KF mainGlobals x = some none) (hv : bootBuiltins x = some (.type T')) (hn' : x ≠ "__name__")
    (hexc : isSubtype (.type T') (.type "BaseException") = pure true) (hnt : isSubtype (.type ((Manifest.find? T').elim "type" fun y => y.metatype)) (.type "tuple") = pure false) (hsub : isSubtype (.type X) (.type T') = pure true)
    (k : ∀ h' g', KtsTurn (outer.filterMap (·.frame)) g g' → Fr g' L h' m → Below A₀ base outer g' → KF.In g' → Top p loose mean mg mb g' → KtsDicts (outer.filterMap (·.frame)) g' →
      (∃ oe vs, h'.get? e = some oe ∧ oe.data = .fields vs ∧ vs[2]? = some .none) →
      wpAny (model prog w) ((A₀.deeper (envOf name scope L a cd)).mark (some (.ref e))) (execs (b₀ :: suite) (envOf name scope L a cd)) Q E { s' with heap := h' })
    (hk : scope.kind = .function := by rfl) (hxk : (envOf name scope L a cd).kindOf x = some .globalImplicit := by rfl) (hd : (x == ("__debug__" : Str)) = false := by decide)
    (hE : PassesOwnAt (model prog w) ((A₀.deeper (envOf name scope L a cd)).mark (some (.ref e))) (A₀.deeper (envOf name scope L a cd)) (envOf name scope L a cd) E := by passes_own) :
    wpAny (model prog w) (A₀.deeper (envOf name scope L a cd)) (noteFrame (.ref e) (envOf name scope L a cd))
      (fun _ s₂ => wpAny (model prog w) (A₀.deeper (envOf name scope L a cd)) (setFlight (.ref e) none) (fun _ s₃ =>
        wpAny (model prog w) (A₀.deeper (envOf name scope L a cd)) (handleBy (.ref e) (envOf name scope L a cd) (.ExceptHandler (some (.Name x np)) none (b₀ :: suite) pos :: rest)) Q E s₃) E s₂) E s' := by
  have K' := K.push (name := name) (a := a) (cd := cd) F hk
  have hin : ∀ env ∈ (envOf name scope L a cd :: outer), ∀ b, env.frame = some b → b ∈ (envOf name scope L a cd :: outer).filterMap (·.frame) := fun env he b hb => List.mem_filterMap.mpr ⟨env, he, hb⟩
  obtain ⟨ob, tp, he, hcls, hdat⟩ := hx.there
  have hen : (hideAll h ((envOf name scope L a cd :: outer).filterMap (·.frame))).get? e = none := by
    cases q : (hideAll h ((envOf name scope L a cd :: outer).filterMap (·.frame))).get? e with
    | none => rfl
    | some o => have := of_hideAll _ q; rw [hx.new] at this; cases this
  have hBG : ∀ b o, h.get? b = some o → b ∉ (envOf name scope L a cd :: outer).filterMap (·.frame) → (hideAll h ((envOf name scope L a cd :: outer).filterMap (·.frame))).get? b = some o := fun b o q nm => hideAll_get _ q nm
  have hsm : h.UpToSlots s'.heap := Heap.UpToSlots.of_keeps hx.keeps
  refine note3 K'.stack ((funFrames_hide K'.frames hin).of_keeps fun b o hb _ => ⟨o, hx.keeps b o hb, rfl⟩) rfl he hcls (fun b o hb => hx.keeps b o (of_hideAll _ hb)) hen hdat rfl rfl fun h₄ H₄ sm₄ => ?_
  refine land3 H₄ fun h₅ H₅ sm₅ => ?_
  have hsm₅ : h.UpToSlots h₅ := hsm.trans (sm₄.trans sm₅)
  obtain ⟨g₅, T₅, F₅, K₅⟩ := kts_ground K F hBG H₅.1 hsm₅
  have X₅ : KF.In g₅ := XB.keeps K₅.stays
  have P₅ : TopRead p loose mg mb g₅ := topRead_of (TB.keeps K₅.stays)
  obtain ⟨oe5, vs5, T5, oT5, ts5, he5, hc5, _⟩ := H₅.2.2.2
  refine wpAny_handleBy_builtin (X := X) (T := T') (b := true) hexc hnt hsub (name_B F₅ X₅ P₅ ex hv hn' ⟨rfl, ⟨oe5, he5, hc5⟩, ?_⟩ hk hxk hd)
  refine land3 H₅ fun h₆ H₆ sm₆ => ?_
  obtain ⟨g₆, T₆, F₆, K₆⟩ := kts_ground K F hBG H₆.1 (hsm₅.trans sm₆)
  have X₆ : KF.In g₆ := XB.keeps K₆.stays
  have P₆ : Top p loose mean mg mb g₆ := TB.keeps K₆.stays
  have D₆ : KtsDicts (outer.filterMap (·.frame)) g₆ := D.turn T₆
  obtain ⟨oe6, vs6, T6, oT6, ts6, he6, hc6, hd6, _, h26, _⟩ := H₆.2.2.2
  exact wpAny_passesOwnAt hE (k h₆ g₆ T₆ F₆ K₆ X₆ P₆ D₆ ⟨oe6, vs6, he6, hd6, h26⟩)
end


section
variable {A₀ : Around} {s' : Shared} {g h : Heap} {L a e : Addr} {m : Str → Option Value} {name : Str} {scope : Scope} {cd : Value} {Q : Unit → Shared → Prop} {M : Model}
theorem leave3 {cls : String} {ob : Obj} {vs : Array Value} {tp : Value} (K : Below A₀ base outer g) (F : Fr g L h m) (hkeep : ∀ b o, h.get? b = some o → s'.heap.get? b = some o) (hnew : h.get? e = none)
    (he : s'.heap.get? e = some ob) (hcls : ob.cls = .type cls) (hd : ob.data = .fields vs) (h0 : vs[0]? = some tp) (h1 : vs[1]? = some .none)
    (hQ : ∀ h', RaisedSN base g outer e (.type cls) [] h' → g.UpToSlots h' → Q () { s' with heap := h' }) (hk : scope.kind = .function := by rfl) :
    wpAny M (A₀.deeper (envOf name scope L a cd)) (leaving (envOf name scope L a cd) (.ref e)) Q E s' := by
  have K' := K.push (name := name) (a := a) (cd := cd) F hk
  have hin : ∀ env ∈ (envOf name scope L a cd :: outer), ∀ b, env.frame = some b → b ∈ (envOf name scope L a cd :: outer).filterMap (·.frame) := fun env he b hb => List.mem_filterMap.mpr ⟨env, he, hb⟩
  have st : base.StaysIn (hideAll h ((envOf name scope L a cd :: outer).filterMap (·.frame))) := fun b o q => hideAll_get _ (K'.stays b o q) fun hm => by
    rw [(K'.frames.mem hm).1] at q; cases q
  have sg : ∀ b o, g.get? b = some o → b ∉ outer.filterMap (·.frame) → (hideAll h ((envOf name scope L a cd :: outer).filterMap (·.frame))).get? b = some o := fun b o q nm => hideAll_get _ (F.keep b o q) fun hm => by
    rcases kts_mem hm with z | z
    · rw [z, kts_self F] at q
      cases q
    · exact nm z
  have hen : (hideAll h ((envOf name scope L a cd :: outer).filterMap (·.frame))).get? e = none := by
    cases q : (hideAll h ((envOf name scope L a cd :: outer).filterMap (·.frame))).get? e with
    | none => rfl
    | some o => have := of_hideAll _ q; rw [hnew] at this; cases this
  refine wpAny_leaving_firstW (a0 := tp) K'.stack ((funFrames_hide K'.frames hin).of_keeps fun b o hb _ => ⟨o, hkeep b o hb, rfl⟩) rfl he (fun b o hb => hkeep b o (of_hideAll _ hb)) hen hd h1 h0 fun h' hL => ?_
  obtain ⟨k1, ⟨_, _, k2⟩, k3, k4⟩ := hL
  have R : RaisedSN base g outer e (.type cls) [] h' := ⟨_, tp, st, sg, (fun q hq => nomatch hq), k1, hen, k2, by rw [← hcls]; exact k3⟩
  exact hQ h' R (((Heap.UpToSlots.of_keeps F.keep).trans (Heap.UpToSlots.of_keeps hkeep)).trans k4)
end
theorem raised_turn {g g' : Heap} {e : Addr} {X : Value} {h' : Heap} (T : KtsTurn (outer.filterMap (·.frame)) g g') (R : RaisedSN base g' outer e X [] h') : RaisedSN base g outer e X [] h' := by
  obtain ⟨B, a0, hB, hBG, hl, hfl⟩ := R
  refine ⟨B, a0, hB, ?_, ?_, hfl⟩
  · intro b o q nm
    exact hBG b o (T.other b o q nm) nm
  · intro q hq
    exact absurd hq (List.not_mem_nil)
theorem turn_up {fs : List Addr} {g g' : Heap} (T : KtsTurn fs g g') : g.UpToSlots g' := by
  intro b o e hn
  by_cases hm : b ∈ fs
  · exact T.frame b o e hm
  · exact ⟨o.slots, T.other b o e hm⟩
theorem entry_unchain : entryFor table "proto.unchain" = some Builtin.«proto.unchain» := entryFor_of_fast (by kernel_rfl)
section
variable {prog : Program} {env : Env} {Q : Flow → Shared → Prop} {e : Addr} {cls : String}
theorem Raise_none {x : Expr} {pos kp : Pos} {kk : Nat} (hh : A.handled = some (.ref e)) (G : ExcRaiseFacts cls)
    (h : wpAny (model prog w) A (eval x env) (fun v s₁ => ∃ e2 t, v = .ref e2 ∧ s₁.heap.get? e2 = some { cls := .type cls, data := .fields #[.ref t, .none, .none, .none, .bool false, .none] } ∧ e2 ≠ e ∧
      (∃ oe vs, s₁.heap.get? e = some oe ∧ oe.data = .fields vs ∧ vs[2]? = some .none) ∧
      ∀ h', h'.get? e2 = some { cls := .type cls, data := .fields #[.ref t, .none, .ref e, .none, .bool true, .none] } → (∀ b, b ≠ e2 → h'.get? b = s₁.heap.get? b) → E (.ref e2) { s₁ with heap := h' }) E s) :
    wpAny (model prog w) A (exec (.Raise (some x) (some (.Constant .none kk kp)) pos) env) Q E s := by
  show wpAny (model prog w) A (do standAt pos; raiseStmt env (some (do let v ← eval x env; standAt pos; pure v)) (some (do let v ← eval (.Constant .none kk kp) env; standAt pos; pure v))) Q E s
  refine wpAny_bind (wpAny_standAt ?_)
  unfold raiseStmt
  dsimp only
  refine wpAny_bind (wpAny_bind (wpAny_mono h (fun v s₁ h₁ => wpAny_bind (wpAny_standAt (wpAny_pure ?_))) fun _ _ x => x))
  obtain ⟨e2, t, rfl, he, hne, ⟨oe, vs, hoe, hdoe, h2⟩, hE⟩ := h₁
  obtain ⟨hp, g, d, tk, os⟩ := s₁
  have hnt : ∀ {hq : Heap} {o : Obj} {ws : Array Value} {Q' : Bool → Shared → Prop}, hq.get? e2 = some o → o.data = .fields ws → Q' false ⟨hq, g, d, tk, os⟩ → wpAny (model prog w) A (isType (.ref e2)) Q' E ⟨hq, g, d, tk, os⟩ := by
    intro hq o ws Q' ha hd hq'
    simp only [isType, loadHead]
    refine wpAny_bind (wpAny_loadPart ha ?_)
    rw [hd]; exact wpAny_pure hq'
  refine wpAny_bind (wpAny_holding (wpAny_bind ?_))
  rw [arm_eval_Constant]
  refine wpAny_pure (wpAny_bind (wpAny_standAt (wpAny_pure (wpAny_bind (wpAny_pure ?_)))))
  refine wpAny_bind (wpAny_holding ?_)
  unfold excFromValue isExcClass
  refine wpAny_bind (wpAny_bind (hnt he rfl ?_))
  simp only [Bool.false_eq_true, if_false]
  refine wpAny_pure ?_
  simp only [Bool.false_eq_true, if_false]
  refine wpAny_bind (wpAny_isInstance ⟨_, he, rfl⟩ G.isExc ?_)
  simp only [if_true]
  refine wpAny_pure ?_
  try dsimp only
  rw [if_pos (show (Value.none == Value.none) = true from rfl)]
  refine wpAny_bind (wpAny_pure ?_)
  refine wpAny_bind (wpAny_setField he rfl (by simp) ?_)
  have he3 := Heap.get?_update_self (Obj.mapFields (·.setIfInBounds 3 Value.none)) he rfl
  refine wpAny_bind (wpAny_setField he3 rfl (by simp) ?_)
  have he4 := Heap.get?_update_self (Obj.mapFields (·.setIfInBounds 4 (Value.bool true))) he3 rfl
  refine wpAny_bind (hnt he4 rfl ?_)
  rw [if_neg (by decide)]
  unfold raisedInstance
  refine wpAny_bind (wpAny_bind (wpAny_typeOf ⟨_, he4, rfl⟩ (wpAny_bind (m := typeOf (.type cls)) (wpAny_pure ?_))))
  rw [if_pos G.plainMeta]
  refine wpAny_pure ?_
  unfold setFlight raiseNew
  refine wpAny_bind (wpAny_bind (wpAny_field he4 rfl (x := .none) rfl ?_))
  rw [if_neg (by decide)]
  refine wpAny_pure (wpAny_bind (wpAny_handled ?_))
  rw [hh]
  try dsimp only
  rw [if_pos (show (Value.ref e != Value.ref e2) = true from by simp [Ne.symm hne])]
  have ho4 : ((hp.update e2 (Obj.mapFields (·.setIfInBounds 3 Value.none))).update e2 (Obj.mapFields (·.setIfInBounds 4 (Value.bool true)))).get? e = some oe := by
    rw [Heap.get?_update_other _ _ hne, Heap.get?_update_other _ _ hne]; exact hoe
  refine wpAny_bind (wpAny_holding (wpAny_runValue (codeAny_builtin entry_unchain ?_)))
  unfold Builtin.«proto.unchain»
  dsimp only
  refine wpAny_bind (wpAny_field ho4 hdoe h2 ?_)
  rw [if_pos (show (Value.none == Value.none) = true from rfl)]
  refine wpAny_pure ?_
  show wpAny (model prog w) A (do setField (.ref e2) 2 (Value.ref e); throw (Value.ref e2)) Q E _
  refine wpAny_bind (wpAny_setField he4 rfl (by simp) (wpAny_throw ?_))
  refine hE _ ?_ ?_
  · exact Heap.get?_update_self (Obj.mapFields (·.setIfInBounds 2 (Value.ref e))) he4 rfl
  · intro b hb
    rw [Heap.get?_update_other _ _ (Ne.symm hb), Heap.get?_update_other _ _ (Ne.symm hb), Heap.get?_update_other _ _ (Ne.symm hb)]
end


theorem exc_si : isSubtype (.type "StopIteration") (.type "BaseException") = pure true := by rw [isSubtype_type]; kernel_rfl
theorem exc_si2 : isSubtype (.type ((Manifest.find? "StopIteration").elim "type" fun y => y.metatype)) (.type "tuple") = pure false := by rw [isSubtype_type]; kernel_rfl
theorem exc_si3 : isSubtype (.type "StopIteration") (.type "StopIteration") = pure true := by rw [isSubtype_type]; kernel_rfl
section
local macro_rules | `(tactic| walk_at "call builtin:iter") => `(tactic| (refine iter_list (by assumption) ?_))
theorem red_empty {l : Addr} (H : Here 3 w mean mg mb A base outer s.heap) (hl : s.heap.IsList l #[])
    (ke : ∀ h' tk e, RaisedSN base s.heap outer e (.type "TypeError") [] h' → s.heap.UpToSlots h' → E (.ref e) { s with heap := h', toks := tk }) :
    wpAny (model PR w) A (call (.ref 23) [.ref 79, .ref l]) Q E s := by
  refine enter (binds := [(Str.ofString "function", .ref 79), (Str.ofString "sequence", .ref l), (Str.ofString "initial", .ref 15)]) H (by k_is) (by k_is) (binds_K H.inH rfl (by k_is) rfl rfl rfl) (locs rfl) (by decide) rfl rfl rfl ?_
  intro L h₁ tk F
  have X := H.inH
  have T := H.topH
  have hl1 : h₁.IsList l #[] := hl.at fun o e => F.keep _ o e
  have F2 := F.push (itObj l)
  have N2 : News s.heap L (h₁.push (itObj l)) [(h₁.objs.size, itObj l)] := News.push F News.nil _
  have N : News s.heap L h₁ [] := News.nil
  have hab := F.above
  k_steps
  rename_i h2 F2' N2'
  have hli2 : h2.IsListIter h₁.objs.size l 0 := ⟨_, (N2' _ (.head _)).1, rfl, rfl⟩
  have hl2 : h2.IsList l #[] := hl.at fun o e => F2'.keep _ o e
  refine next_end (by exact H.handled) hli2 hl2 rfl fun h3 h4 e hs3 hx => ?_
  have F3 := F2'.change hs3 (N2' _ (.head _)).2.1 (N2' _ (.head _)).2.2
  have N3 : News s.heap L h3 [] := News.nil
  have B := H.below
  have XB := H.inB
  have TB := H.topB
  have D := H.dicts
  clear F2' N2'
  refine caught3 (KF := hd.heap_39 w.params) (T' := "StopIteration") hx F3 B XB TB D (by k_is) (by boot_by_name) (by decide) exc_si exc_si2 exc_si3 ?_
  intro h5 g5 T5 F5 K5 X5 P5 D5 hold
  clear F3 N3 hli2 hl2
  k_steps
  obtain ⟨oe, vs, hoe, hdoe, h2⟩ := hold
  refine Raise_none (by rfl) F.excRaise_TypeError ?_
  refine wpAny_Call_ofName (name_B F5 X5 (topRead_of P5) (x := Str.ofString "TypeError") (by k_is) (v := .type "TypeError") (by boot_by_name) (by decide) ?_)
  refine callWith_excType rfl ?_
  refine Calls.evalArgs_plain (wpAny_mono (Q := fun vs s₂ => vs.length ≤ 1 ∧ ∃ tk', s₂ = { s with heap := h5, toks := tk' }) ?_ (fun vs s₂ h₃ => ?_) fun _ _ y => y)
  · show wpAny _ _ (spliced (backTo { line := 9, col := 18, endLine := 9, endCol := 79 } (starEach [Expr.Constant (Const.str (Str.ofString "reduce() of empty iterable with no initial value")) 0 { line := 9, col := 28, endLine := 9, endCol := 78 }] _))) _ _ _
    k_steps
  obtain ⟨hlen, tk', rfl⟩ := h₃
  refine wpAny_call_exc F.excCall_TypeError (hrest := by show ([] ++ _).length ≤ 16777216; rw [List.nil_append]; exact Nat.le_trans hlen (by decide)) fun h6 e2 hm => ?_
  obtain ⟨t, ht, htn, htt⟩ := hm.there
  have hne : e2 ≠ e := by
    intro q
    have := hm.new
    rw [q, hoe] at this
    cases this
  refine ⟨e2, t, rfl, ht, hne, ⟨oe, _, hm.keeps _ _ hoe, hdoe, h2⟩, ?_⟩
  intro h7 he7 ho7
  have hk7 : ∀ b o, h5.get? b = some o → h7.get? b = some o := by
    intro b o hb
    refine (ho7 b ?_).trans (hm.keeps b o hb)
    intro q
    rw [q, hm.new] at hb
    cases hb
  refine leave3 (vs := #[.ref t, .none, .ref e, .none, .bool true, .none]) (tp := .ref t) K5 F5 hk7 hm.new he7 rfl rfl rfl rfl ?_
  intro h8 R U
  exact ke _ _ _ (raised_turn T5 R) ((turn_up T5).trans U)
end


theorem pair_c {v1 v2 : Value} (H : Here 1 w mean mg mb A base outer s.heap)
    (k : ∀ a h' tk, s.heap.StaysIn h' → h'.get? a = some (W.listOf #[v1, v2] 0) → s.heap.get? a = none → Q (.ref a) { s with heap := h', toks := tk }) :
    wpAny (model PR w) A (call (.ref 79) [v1, v2]) Q E s := by
  refine enter (binds := [(Str.ofString "one", v1), (Str.ofString "two", v2)]) H (by k_is) (by k_is) (BindsTo.of_eq rfl) (locs rfl) (by decide) rfl rfl rfl ?_
  intro L h₁ tk F
  have N : News s.heap L h₁ [] := News.nil
  have X := H.inH
  have T := H.topH
  k_steps
  (with_reducible rename Fr _ _ _ _ => F2); (with_reducible rename News _ _ _ _ => N2)
  exact k _ _ _ (Fr.keep F2) (N2 _ (.head _)).1 (N2 _ (.head _)).2.2


def mdata : Mk → PyData
  | none => .none
  | some p => .str p.1
theorem reads_mval {h : Heap} (m : Mk) : Reads h (mval m) (mdata m) [] := by
  cases m with
  | none => exact .none
  | some p => exact .str _ _
inductive Chain (m0 : Mk) : List Mk → Value → List (Addr × Obj) → Prop
  | nil : Chain m0 [] (mval m0) []
  | cons {rs v news m a} : Chain m0 rs v news → Chain m0 (m :: rs) (.ref a) ((a, W.listOf #[v, mval m] 0) :: news)
theorem chain_take {m0 : Mk} {ms : List Mk} {i : Nat} {m : Mk} {v : Value} {news : List (Addr × Obj)} {a : Addr} (h : ms[i]? = some m) (c : Chain m0 (ms.take i).reverse v news) :
    Chain m0 (ms.take (i + 1)).reverse (.ref a) ((a, W.listOf #[v, mval m] 0) :: news) := by
  rw [List.take_add_one, h, Option.toList_some, List.reverse_append]
  exact .cons c
theorem chain0 {m0 : Mk} {v : Value} {news : List (Addr × Obj)} (c : Chain m0 [] v news) : v = mval m0 ∧ news = [] := by
  cases c
  exact ⟨rfl, rfl⟩
theorem chain1 {m0 x : Mk} {v : Value} {news : List (Addr × Obj)} (c : Chain m0 [x] v news) : ∃ a, v = .ref a ∧ news = [(a, W.listOf #[mval m0, mval x] 0)] := by
  cases c with
  | cons c =>
    obtain ⟨rfl, rfl⟩ := chain0 c
    exact ⟨_, rfl, rfl⟩
theorem chain2 {m0 x y : Mk} {v : Value} {news : List (Addr × Obj)} (c : Chain m0 [y, x] v news) : ∃ a b, v = .ref b ∧ news = [(b, W.listOf #[.ref a, mval y] 0), (a, W.listOf #[mval m0, mval x] 0)] := by
  cases c with
  | cons c =>
    obtain ⟨a, rfl, rfl⟩ := chain1 c
    exact ⟨a, _, rfl, rfl⟩
theorem chain3 {m0 x y z : Mk} {v : Value} {news : List (Addr × Obj)} (c : Chain m0 [z, y, x] v news) :
    ∃ a b d, v = .ref d ∧ news = [(d, W.listOf #[.ref b, mval z] 0), (b, W.listOf #[.ref a, mval y] 0), (a, W.listOf #[mval m0, mval x] 0)] := by
  cases c with
  | cons c =>
    obtain ⟨a, b, rfl, rfl⟩ := chain2 c
    exact ⟨a, b, _, rfl, rfl⟩
theorem red_pair {l : Addr} {ms : List Mk} {m0 : Mk} (H : Here 3 w mean mg mb A base outer s.heap) (hl : s.heap.IsList l (ms.map mval).toArray)
    (k : ∀ v news h' tk, s.heap.StaysIn h' → Chain m0 ms.reverse v news → (∀ p ∈ news, h'.get? p.1 = some p.2 ∧ s.heap.get? p.1 = none) → Q v { s with heap := h', toks := tk }) :
    wpAny (model PR w) A (call (.ref 23) [.ref 79, .ref l, mval m0]) Q E s := by
  refine red_init_79 False (fun i v news => Chain m0 (ms.take i).reverse v news) H hl (plain_mval m0) ?_ ?_ ?_ (fun h => h.elim)
  · exact .nil
  · intro i v x news A' outer' s' Q' E' hx hI hn H' kq kE
    obtain ⟨m, hm, rfl⟩ := items_mval hx
    refine pair_c H' fun a h' tk hk ho hf => ?_
    refine kq _ _ _ [(a, W.listOf #[v, mval m] 0)] hk (chain_take hm hI) ?_
    intro p hp
    rw [List.mem_singleton] at hp
    subst hp
    exact ⟨ho, hf⟩
  · intro v h' tk news hk hI hn
    rw [List.size_toArray, List.length_map, List.take_length] at hI
    exact k _ _ _ _ hk hI hn
theorem red_pair_bare {l : Addr} {ms : List Mk} {m0 : Mk} (H : Here 3 w mean mg mb A base outer s.heap) (hl : s.heap.IsList l ((m0 :: ms).map mval).toArray)
    (k : ∀ v news h' tk, s.heap.StaysIn h' → Chain m0 ms.reverse v news → (∀ p ∈ news, h'.get? p.1 = some p.2 ∧ s.heap.get? p.1 = none) → Q v { s with heap := h', toks := tk }) :
    wpAny (model PR w) A (call (.ref 23) [.ref 79, .ref l]) Q E s := by
  refine red_bare_79 False (fun i v news => 1 ≤ i ∧ Chain m0 (ms.take (i - 1)).reverse v news) H hl rfl ?_ ?_ ?_ (fun h => h.elim)
  · exact ⟨Nat.le_refl _, .nil⟩
  · intro i v x news A' outer' s' Q' E' hx hI hn H' kq kE
    obtain ⟨hi1, hI⟩ := hI
    obtain ⟨j, rfl⟩ : ∃ j, i = j + 1 := ⟨i - 1, by omega⟩
    have hx' : (ms.map mval).toArray[j]? = some x := by simpa using hx
    obtain ⟨m, hm, rfl⟩ := items_mval hx'
    refine pair_c H' fun a h' tk hk ho hf => ?_
    rw [Nat.add_sub_cancel] at hI
    refine kq _ _ _ [(a, W.listOf #[v, mval m] 0)] hk ⟨by omega, ?_⟩ ?_
    · rw [Nat.add_sub_cancel]
      exact chain_take hm hI
    intro p hp
    rw [List.mem_singleton] at hp
    subst hp
    exact ⟨ho, hf⟩
  · intro v h' tk news hk hI hn
    obtain ⟨_, hI⟩ := hI
    have e : ((m0 :: ms).map mval).toArray.size - 1 = ms.length := by simp
    rw [e, List.take_length] at hI
    exact k _ _ _ _ hk hI hn
theorem exc_te : isSubtype (.type "TypeError") (.type "BaseException") = pure true := by rw [isSubtype_type]; kernel_rfl
theorem exc_te2 : isSubtype (.type ((Manifest.find? "TypeError").elim "type" fun y => y.metatype)) (.type "tuple") = pure false := by rw [isSubtype_type]; kernel_rfl
theorem exc_te3 : isSubtype (.type "TypeError") (.type "TypeError") = pure true := by rw [isSubtype_type]; kernel_rfl
theorem paired_nil {l : Addr} (H : Here 4 w mean mg mb A base outer s.heap) (hl : s.heap.IsList l #[])
    (k : ∀ h' tk a', Evo (outer.filterMap (·.frame)) s.heap h' → Q (.str (Str.ofString "TypeError") a') { s with heap := h', toks := tk }) :
    wpAny (model PR w) A (call (.ref 86) [.ref l]) Q E s := by
  refine enter (binds := [(Str.ofString "row", .ref l)]) H (by k_is) (by k_is) (BindsTo.of_eq rfl) (locs rfl) (by decide) rfl rfl rfl ?_
  intro L h₁ tk F
  have X := H.inH
  have T := H.topH
  have N : News s.heap L h₁ [] := News.nil
  k_steps
  have hl1 : h₁.IsList l #[] := hl.at fun o e => F.keep _ o e
  refine red_empty (H.push F rfl rfl) hl1 fun h2 tk2 e R U => ?_
  refine caught_SN0 (KF := hd.heap_39 w.params) (T' := "TypeError") R F H.below U H.inB H.topB H.dicts KtsTurn.refl (by k_is) (by boot_by_name) (by decide) exc_te exc_te2 exc_te3 ?_
  intro h3 g3 T3 F3 N3 B3 X3 P3 D3
  k_steps
  exact k _ _ _ ⟨g3, T3, F3.keep⟩
theorem paired_cons {l : Addr} {ms : List Mk} {m0 : Mk} (H : Here 4 w mean mg mb A base outer s.heap) (hl : s.heap.IsList l ((m0 :: ms).map mval).toArray)
    (k : ∀ v news h' tk, s.heap.StaysIn h' → Chain m0 ms.reverse v news → (∀ p ∈ news, h'.get? p.1 = some p.2 ∧ s.heap.get? p.1 = none) → Q v { s with heap := h', toks := tk }) :
    wpAny (model PR w) A (call (.ref 86) [.ref l]) Q E s := by
  refine enter (binds := [(Str.ofString "row", .ref l)]) H (by k_is) (by k_is) (BindsTo.of_eq rfl) (locs rfl) (by decide) rfl rfl rfl ?_
  intro L h₁ tk F
  have X := H.inH
  have T := H.topH
  have N : News s.heap L h₁ [] := News.nil
  k_steps
  have hl1 : h₁.IsList l ((m0 :: ms).map mval).toArray := hl.at fun o e => F.keep _ o e
  refine red_pair_bare (H.push F rfl rfl) hl1 fun v news h2 tk2 hk2 hc hn => ?_
  k_steps
  exact k _ _ _ _ (fun b o e => hk2 b o (F.keep b o e)) hc fun p hp => ⟨(hn p hp).1, kts_none F.keep (hn p hp).2⟩


def upc (c : Nat) : Nat := if 97 ≤ c ∧ c ≤ 100 then c - 32 else c
def loc (c : Nat) : Nat := if 65 ≤ c ∧ c ≤ 68 then c + 32 else c
def cse (fr : Bool) (c : Nat) : Nat := if fr then upc c else loc c
theorem upc_loc (c : Nat) : upc (loc c) = upc c := by unfold upc loc; (repeat' split) <;> omega
theorem loc_loc (c : Nat) : loc (loc c) = loc c := by unfold loc; (repeat' split) <;> omega
theorem loc_upc (c : Nat) : loc (upc c) = loc c := by unfold upc loc; (repeat' split) <;> omega
theorem cse_loc (fr : Bool) (c : Nat) : cse fr (loc c) = cse fr c := by cases fr <;> simp [cse, loc_loc, upc_loc]
theorem loc_cse (fr : Bool) (c : Nat) : loc (cse fr c) = loc c := by cases fr <;> simp [cse, loc_loc, loc_upc]
def nolet (p : List Nat) : Prop := ∀ c ∈ p, ¬ (65 ≤ c ∧ c ≤ 68) ∧ ¬ (97 ≤ c ∧ c ≤ 100)
theorem loc_eq {x q : Nat} (h : ¬ (65 ≤ q ∧ q ≤ 68) ∧ ¬ (97 ≤ q ∧ q ≤ 100)) : loc x = q ↔ x = q := by
  unfold loc; split <;> omega
theorem nolet_map {p : List Nat} (h : nolet p) : p.map loc = p := by
  induction p with
  | nil => rfl
  | cons c r ih =>
    rw [List.map_cons, ih fun d hd => h d (.tail _ hd), (loc_eq (h c (.head _))).mpr rfl]
theorem take_loc {p : List Nat} (h : nolet p) : ∀ l : List Nat, (l.map loc).take p.length = p ↔ l.take p.length = p := by
  induction p with
  | nil => intro l; simp
  | cons c r ih =>
    intro l
    cases l with
    | nil => simp
    | cons d l =>
      simp only [List.map_cons, List.length_cons, List.take_succ_cons, List.cons.injEq]
      rw [loc_eq (h c (.head _)), ih (fun e he => h e (.tail _ he)) l]

def G (p : List Nat) : Nat → Bool → List Nat → List Nat
  | 0, _, _ => []
  | _ + 1, _, [] => []
  | n + 1, fr, c :: l => if (c :: l).take p.length = p then p ++ G p n true ((c :: l).drop p.length) else cse fr c :: G p n false l
theorem G_fuel {p : List Nat} (hp : 1 ≤ p.length) : ∀ (n m : Nat) (fr : Bool) (l : List Nat), l.length ≤ n → l.length ≤ m → G p n fr l = G p m fr l
  | 0, 0, _, _, _, _ => rfl
  | 0, m + 1, fr, l, h, _ => by
    have : l = [] := List.length_eq_zero_iff.mp (by omega)
    subst this; rfl
  | n + 1, 0, fr, l, _, h => by
    have : l = [] := List.length_eq_zero_iff.mp (by omega)
    subst this; rfl
  | n + 1, m + 1, fr, [], _, _ => rfl
  | n + 1, m + 1, fr, c :: l, h1, h2 => by
    simp only [List.length_cons] at h1 h2
    show (if _ then _ else _) = (if _ then _ else _)
    rw [G_fuel hp n m true ((c :: l).drop p.length) (by simp only [List.length_drop, List.length_cons]; omega) (by simp only [List.length_drop, List.length_cons]; omega), G_fuel hp n m false l (by omega) (by omega)]
def GG (p : List Nat) (fr : Bool) (l : List Nat) : List Nat := G p l.length fr l
theorem GG_nil (p : List Nat) (fr : Bool) : GG p fr [] = [] := rfl
theorem GG_pre {p : List Nat} (hp : 1 ≤ p.length) {fr : Bool} {l : List Nat} (h : l.take p.length = p) : GG p fr l = p ++ GG p true (l.drop p.length) := by
  cases l with
  | nil =>
    rw [List.take_nil] at h
    rw [← h] at hp
    exact absurd hp (by simp)
  | cons c l =>
    show (if _ then _ else _) = _
    rw [if_pos h]
    unfold GG
    rw [G_fuel hp l.length ((c :: l).drop p.length).length true _ (by simp only [List.length_drop, List.length_cons]; omega) (Nat.le_refl _)]
theorem GG_cons {p : List Nat} {fr : Bool} {c : Nat} {l : List Nat} (h : ¬ (c :: l).take p.length = p) : GG p fr (c :: l) = cse fr c :: GG p false l := by
  show (if _ then _ else _) = _
  rw [if_neg h]
  rfl
theorem GG_loc {p : List Nat} (hp : 1 ≤ p.length) (hn : nolet p) : ∀ (n : Nat) (fr : Bool) (l : List Nat), l.length ≤ n → GG p fr (l.map loc) = GG p fr l ∧ (GG p fr l).map loc = l.map loc
  | _, _, [], _ => ⟨rfl, rfl⟩
  | 0, _, _ :: _, h => absurd h (by simp)
  | n + 1, fr, c :: l, h => by
    simp only [List.length_cons] at h
    by_cases ht : (c :: l).take p.length = p
    · have ih := GG_loc hp hn n true ((c :: l).drop p.length) (by simp only [List.length_drop, List.length_cons]; omega)
      have e := List.take_append_drop p.length (c :: l)
      rw [ht] at e
      rw [GG_pre hp ((take_loc hn _).mpr ht), GG_pre hp ht, ← List.map_drop, ih.1, List.map_append, ih.2, nolet_map hn]
      refine ⟨rfl, ?_⟩
      have e2 := congrArg (List.map loc) e
      rw [List.map_append, nolet_map hn] at e2
      exact e2
    · have ih := GG_loc hp hn n false l (by omega)
      have ht' : ¬ (loc c :: l.map loc).take p.length = p := fun e => ht ((take_loc hn (c :: l)).mp e)
      rw [List.map_cons, GG_cons ht', GG_cons ht, ih.1, List.map_cons, ih.2, cse_loc, loc_cse]
      exact ⟨rfl, rfl⟩
theorem GG_same {p : List Nat} (hp : 1 ≤ p.length) (hn : nolet p) {fr : Bool} {l l' : List Nat} (h : l.map loc = l'.map loc) : GG p fr l = GG p fr l' := by
  rw [← (GG_loc hp hn _ fr l (Nat.le_refl _)).1, h, (GG_loc hp hn _ fr l' (Nat.le_refl _)).1]
theorem GG_case {p : List Nat} (hp : 1 ≤ p.length) (hn : nolet p) (fr : Bool) (l : List Nat) : (GG p fr l).map loc = l.map loc := (GG_loc hp hn _ fr l (Nat.le_refl _)).2
theorem GG_len {p : List Nat} (hp : 1 ≤ p.length) (hn : nolet p) (fr : Bool) (l : List Nat) : (GG p fr l).length = l.length := by
  have := congrArg List.length (GG_case hp hn fr l)
  simpa using this
def capf (fr : Bool) : List Nat → List Nat
  | [] => []
  | c :: r => cse fr c :: r.map loc
theorem capf_false : ∀ l : List Nat, capf false l = l.map loc
  | [] => rfl
  | c :: r => rfl
theorem GG_seg {p : List Nat} {rest : List Nat} : ∀ (seg : List Nat) (fr : Bool), (∀ k, k < seg.length → ¬ (seg.drop k ++ rest).take p.length = p) → GG p fr (seg ++ rest) = capf fr seg ++ GG p (fr && seg.isEmpty) rest
  | [], fr, _ => by simp [capf]
  | c :: r, fr, h => by
    have h0 := h 0 (by simp)
    rw [List.drop_zero, List.cons_append] at h0
    rw [List.cons_append, GG_cons h0, GG_seg r false (fun k hk => h (k + 1) (by simp; omega)), capf_false]
    simp [capf]
def joinL (p : List Nat) : List (List Nat) → List Nat
  | [] => []
  | [x] => x
  | x :: y :: r => x ++ p ++ joinL p (y :: r)
theorem toList_append (a b : Str) : (a ++ b).cps.toList = a.cps.toList ++ b.cps.toList := by
  rw [Str.cps_append, Array.toList_append]
theorem join_toList (p : Str) : ∀ ws : List Str, (Str.join p ws).cps.toList = joinL p.cps.toList (ws.map (·.cps.toList))
  | [] => rfl
  | [x] => rfl
  | x :: y :: r => by
    show (x ++ p ++ Str.join p (y :: r)).cps.toList = _
    rw [toList_append, toList_append, join_toList p (y :: r)]
    rfl
theorem tjoin (p : Str) (ws : List Str) : (Txt.join p ws).cps.toList = joinL p.cps.toList (ws.map (·.cps.toList)) := by
  show (glued p ws).cps.toList = _
  rw [StrLaws.glued_eq_join, join_toList]


theorem len_toList (x : Str) : x.cps.toList.length = x.length := by simp [Str.length]
theorem alph_case : ∀ c ∈ ALPH, Unicode.titleOf c = [upc c] ∧ Unicode.lowerOf c = [loc c] ∧ (c == 0x3A3) = false := by decide +kernel
theorem placed_ext {x : Str} {f g : Nat → Nat → List Nat} (h : ∀ i c, x.cps[i]? = some c → f i c = g i c) : placed x f = placed x g := by
  unfold placed
  congr 1
  apply Array.ext
  · simp
  · intro i h1 h2
    simp only [Array.getElem_mapIdx]
    rw [h]
    simp at h1
    simp [h1]
theorem flat_loc : ∀ (l : List Nat), (l.mapIdx fun _ c => [loc c]).flatten = l.map loc
  | [] => rfl
  | c :: r => by
    rw [List.mapIdx_cons, List.flatten_cons, flat_loc r]
    rfl
theorem placed_toList (x : Str) (f : Nat → Nat → List Nat) : (placed x f).toList = (x.cps.toList.mapIdx f).flatten := by
  unfold placed
  rw [Array.toList_flatten, Array.toList_mapIdx]
  congr 1
  apply List.ext_getElem?
  intro i
  simp [Option.map_map, Function.comp_def]
theorem cap_toList {x : Str} (hg : Good x) : (Txt.capitalize x).cps.toList = capf true x.cps.toList := by
  unfold Txt.capitalize
  split
  · rename_i h
    rw [str_empty h]
    rfl
  · show (placed x _).toList = _
    rw [placed_ext (g := fun i c => if i = 0 then [upc c] else [loc c]) ?_]
    · rw [placed_toList]
      generalize x.cps.toList = l
      cases l with
      | nil => rfl
      | cons c r =>
        rw [List.mapIdx_cons, List.flatten_cons]
        have e : (fun (i : Nat) (c : Nat) => (if i + 1 = 0 then [upc c] else [loc c])) = fun _ c => [loc c] := by
          funext i c
          rw [if_neg (by omega)]
        show [upc c] ++ (r.mapIdx fun i c => (if i + 1 = 0 then [upc c] else [loc c])).flatten = _
        rw [e, flat_loc]
        rfl
    · intro i c hc
      have hm : c ∈ ALPH := hg c (by
        rw [Array.getElem?_eq_some_iff] at hc
        obtain ⟨h1, h2⟩ := hc
        rw [← h2]
        simp)
      obtain ⟨h1, h2, h3⟩ := alph_case c hm
      cases i with
      | zero => exact h1
      | succ i =>
        show Unicode.lowerAt x.cps (i + 1) = [loc c]
        unfold Unicode.lowerAt
        rw [hc]
        show (if (c == 0x3A3 && _) = true then _ else _) = _
        rw [h3, Bool.false_and, if_neg (by decide)]
        exact h2

section
open StrLaws
variable {x p : Str}
theorem at_take {k : Nat} (h : At x p x.length k) : (x.cps.toList.drop k).take p.cps.toList.length = p.cps.toList := by
  have h2 := h.2
  rw [StrLaws.subAt_eq] at h2
  rw [len_toList]
  exact eq_of_beq h2
theorem noAt {k : Nat} (hw : 1 ≤ p.length) (h : ¬ At x p x.length k) : ¬ (x.cps.toList.drop k).take p.cps.toList.length = p.cps.toList := by
  intro e
  have hl := congrArg List.length e
  rw [List.length_take, List.length_drop, len_toList, len_toList] at hl
  refine h ⟨by omega, ?_⟩
  rw [StrLaws.subAt_eq]
  rw [len_toList] at e
  rw [e]
  exact beq_self_eq_true _
theorem chain_GG (hw : 1 ≤ p.length) : ∀ (cuts : List Nat) (a f : Nat), ChainG x p x.length a cuts f → (∀ k, f ≤ k → ¬ At x p x.length k) →
    joinL p.cps.toList ((partsFrom x p.length a cuts).map fun y => capf true y.cps.toList) = GG p.cps.toList true (x.cps.toList.drop a)
  | [], a, f, h, hn => by
    have e : f = a := h
    subst e
    show capf true (strSub x f x.length).cps.toList = _
    rw [strSub_toList]
    have e2 : (x.cps.toList.drop f).take (x.length - f) = x.cps.toList.drop f := List.take_of_length_le (by rw [List.length_drop, len_toList]; omega)
    rw [e2]
    have hs := GG_seg (p := p.cps.toList) (rest := []) (x.cps.toList.drop f) true (fun k hk => by
      rw [List.append_nil, List.drop_drop]
      exact noAt hw (hn (f + k) (by omega)))
    rw [List.append_nil, GG_nil, List.append_nil] at hs
    exact hs.symm
  | c :: r, a, f, h, hn => by
    obtain ⟨h1, h2, h3, h4⟩ := h
    obtain ⟨y, r', he⟩ := partsFrom_ne x p.length (c + p.length) r
    have ih := chain_GG hw r (c + p.length) f h4 hn
    show joinL _ (capf true (strSub x a c).cps.toList :: (partsFrom x p.length (c + p.length) r).map fun y => capf true y.cps.toList) = _
    rw [he] at ih ⊢
    show capf true (strSub x a c).cps.toList ++ p.cps.toList ++ joinL _ ((y :: r').map fun y => capf true y.cps.toList) = _
    rw [ih, strSub_toList]
    have hc : c ≤ x.length := by have := h2.1; omega
    have e2 : x.cps.toList.drop a = (x.cps.toList.drop a).take (c - a) ++ x.cps.toList.drop c := by
      have e3 := List.take_append_drop (c - a) (x.cps.toList.drop a)
      rw [List.drop_drop, show a + (c - a) = c from by omega] at e3
      exact e3.symm
    have hlen : ((x.cps.toList.drop a).take (c - a)).length = c - a := by
      rw [List.length_take, List.length_drop, len_toList]; omega
    conv => rhs; rw [e2]
    rw [GG_seg _ true (fun k hk => by
      rw [hlen] at hk
      have e4 : ((x.cps.toList.drop a).take (c - a)).drop k ++ x.cps.toList.drop c = x.cps.toList.drop (a + k) := by
        have e5 := congrArg (List.drop k) e2
        rw [List.drop_drop, List.drop_append_of_le_length (by omega)] at e5
        exact e5.symm
      rw [e4]
      exact noAt hw (h3 (a + k) (by omega) (by omega)))]
    have hpl : 1 ≤ p.cps.toList.length := by rw [len_toList]; exact hw
    rw [GG_pre hpl (at_take h2), List.drop_drop, len_toList, List.append_assoc]
theorem split_parts (hw : 1 ≤ p.length) (hk : (decide (strKind x < strKind p)) = false) : Txt.split x p = partsFrom x p.length 0 (occurrences x p 0 x.length (x.length + 1)) := by
  unfold Txt.split
  have hempty : (occurrences x p 0 x.length (x.length + 1)).isEmpty = true → [x] = partsFrom x p.length 0 (occurrences x p 0 x.length (x.length + 1)) := by
    intro h
    rw [List.isEmpty_iff.mp h]
    show [x] = [strSub x 0 x.length]
    rw [sub_whole]
  rw [hk, Bool.or_false]
  split
  · rename_i h
    apply hempty
    have hlt : x.length < p.length := of_decide_eq_true h
    obtain ⟨f, hc, _⟩ := occ_tight x p hw
    cases ho : occurrences x p 0 x.length (x.length + 1) with
    | nil => rfl
    | cons c r =>
      rw [ho] at hc
      have := hc.2.1.1
      omega
  · split
    · rename_i h
      exact hempty h
    · exact partsBetween_eq x _ _
theorem good_sub (hg : Good x) (i j : Nat) : Good (strSub x i j) := by
  intro c hc
  rw [strSub_toList] at hc
  exact hg c (List.mem_of_mem_drop (List.mem_of_mem_take hc))
theorem parts_sub (w : Nat) : ∀ (cuts : List Nat) (a : Nat), ∀ y ∈ partsFrom x w a cuts, ∃ i j, y = strSub x i j
  | [], a, y, hy => ⟨a, x.length, List.mem_singleton.mp hy⟩
  | c :: r, a, y, hy => by
    rcases List.mem_cons.mp hy with h | h
    · exact ⟨a, c, h⟩
    · exact parts_sub w r (c + w) y h
theorem capM_GG (hw : 1 ≤ p.length) (hk : (decide (strKind x < strKind p)) = false) (hg : Good x) :
    (Txt.join p ((Txt.split x p).map Txt.capitalize)).cps.toList = GG p.cps.toList true x.cps.toList := by
  obtain ⟨f, hc, hn⟩ := occ_tight x p hw
  have key := chain_GG hw _ 0 f hc hn
  rw [List.drop_zero, ← split_parts hw hk] at key
  rw [← key, tjoin, List.map_map]
  congr 1
  apply List.map_congr_left
  intro y hy
  show (Txt.capitalize y).cps.toList = _
  apply cap_toList
  rw [split_parts hw hk] at hy
  obtain ⟨i, j, rfl⟩ := parts_sub _ _ _ y hy
  exact good_sub hg i j
end


section
open StrLaws
theorem slice_toList {t : Str} {i w : Nat} (hi : i ≤ t.length) : (Txt.slice t (some (i : Int)) (some ((i : Int) + (w : Int)))).cps.toList = (t.cps.toList.drop i).take w := by
  by_cases h : i + w ≤ t.length
  · have e : Txt.slice t (some (i : Int)) (some ((i : Int) + (w : Int))) = sliceText t (some (i : Int)) (some ((i + w : Nat) : Int)) := by rw [Int.natCast_add]; rfl
    rw [e, sliceText_nat t (by omega) h, show i + w - i = w from by omega]
  · have e : Txt.slice t (some (i : Int)) (some ((i : Int) + (w : Int))) = sliceText t (some (i : Int)) (some ((t.length : Nat) : Int)) := by
      have e1 : strSliceIndices (some (i : Int)) (some ((i : Int) + (w : Int))) 1 t.length = strSliceIndices (some (i : Int)) (some ((t.length : Nat) : Int)) 1 t.length := by
        have a1 : ¬ ((i : Int) + (w : Int) < 0) := by omega
        have a2 : ¬ ((t.length : Int) < 0) := by omega
        have a3 : max (0 : Int) (min ((i : Int) + (w : Int)) (t.length : Int)) = t.length := by omega
        have a4 : max (0 : Int) (min (t.length : Int) (t.length : Int)) = t.length := by omega
        simp only [strSliceIndices, a1, a2, if_false, a3, a4, show ((1 : Int) > 0) = True from by simp, if_true]
      show sliceText t (some (i : Int)) (some ((i : Int) + (w : Int))) = _
      unfold sliceText
      rw [e1]
    rw [e, sliceText_nat t hi (Nat.le_refl _)]
    show (t.cps.toList.drop i).take (t.length - i) = _
    rw [List.take_of_length_le (by rw [List.length_drop, len_toList]; omega), List.take_of_length_le (by rw [List.length_drop, len_toList]; omega)]
theorem slice_eq {t p : Str} {i : Nat} (hi : i ≤ t.length) : (Txt.slice t (some (i : Int)) (some ((i : Int) + (p.length : Int))) == p) = true ↔ (t.cps.toList.drop i).take p.cps.toList.length = p.cps.toList := by
  rw [len_toList, ← slice_toList hi]
  constructor
  · intro h
    rw [eq_of_beq h]
  · intro h
    have : Txt.slice t (some (i : Int)) (some ((i : Int) + (p.length : Int))) = p := Str.ext' (Array.toList_inj.mp h)
    rw [this]
    exact beq_self_eq_true _
theorem item_at {t : Str} {i : Nat} {c : Nat} (h : t.cps[i]? = some c) : Txt.item t (i : Int) = ⟨#[c]⟩ := by
  have hi : i < t.length := (Array.getElem?_eq_some_iff.mp h).1
  have e : Txt.charAt t (i : Int) = some c := by
    unfold Txt.charAt seqIndex?
    have h0 : ¬ ((i : Int) < 0) := by omega
    simp [h0, h, hi]
  unfold Txt.item
  rw [e]
  rfl
theorem sign_case : ∀ c ∈ ALPH, ∀ fr : Bool, (if (Txt.find (Str.ofString "aAbBcCdD") ⟨#[c]⟩).fdiv 2 < 0 then (⟨#[c]⟩ : Str) else if fr = true then Txt.item (Str.ofString "ABCD") ((Txt.find (Str.ofString "aAbBcCdD") ⟨#[c]⟩).fdiv 2) else Txt.item (Str.ofString "abcd") ((Txt.find (Str.ofString "aAbBcCdD") ⟨#[c]⟩).fdiv 2)) = ⟨#[cse fr c]⟩ := by decide +kernel
theorem gRun_GG {t p : Str} (hp : 1 ≤ p.length) (hg : Good t) : ∀ (n : Nat) (out : Str) (i : Nat) (fr : Bool), i ≤ t.length → t.length - i ≤ n → (gRun t p n (out, i, fr)).cps.toList = out.cps.toList ++ GG p.cps.toList fr (t.cps.toList.drop i)
  | 0, out, i, fr, hi, hn => by
    have e : t.cps.toList.drop i = [] := List.drop_eq_nil_of_le (by rw [len_toList]; omega)
    rw [e, GG_nil, List.append_nil]
    rfl
  | n + 1, out, i, fr, hi, hn => by
    show (if i < t.length then gRun t p n (gStep t p (out, i, fr)) else out).cps.toList = _
    by_cases hlt : i < t.length
    · rw [if_pos hlt]
      have hpl : 1 ≤ p.cps.toList.length := by rw [len_toList]; exact hp
      by_cases hs : (Txt.slice t (some (i : Int)) (some ((i : Int) + (p.length : Int))) == p) = true
      · have e : gStep t p (out, i, fr) = (out ++ p, i + p.length, true) := by unfold gStep; rw [if_pos hs]
        have ht := (slice_eq hi).mp hs
        have hl := congrArg List.length ht
        rw [List.length_take, List.length_drop, len_toList, len_toList] at hl
        rw [e, gRun_GG hp hg n _ _ _ (by omega) (by omega), toList_append, List.append_assoc, GG_pre hpl ht, List.drop_drop, len_toList]
      · obtain ⟨c, hx⟩ : ∃ c, t.cps[i]? = some c := ⟨t.cps[i]'hlt, Array.getElem?_eq_getElem hlt⟩
        have hxl : t.cps.toList[i]? = some c := by rw [Array.getElem?_toList]; exact hx
        have hm : c ∈ ALPH := hg _ (List.mem_of_getElem? hxl)
        have e : gStep t p (out, i, fr) = (out ++ ⟨#[cse fr c]⟩, i + 1, false) := by
          unfold gStep gKind
          rw [if_neg hs, item_at hx, sign_case _ hm fr]
        have hd : t.cps.toList.drop i = c :: t.cps.toList.drop (i + 1) := by
          obtain ⟨h1, h2⟩ := List.getElem?_eq_some_iff.mp hxl
          rw [List.drop_eq_getElem_cons h1, h2]
        have ht : ¬ (c :: t.cps.toList.drop (i + 1)).take p.cps.toList.length = p.cps.toList := by
          rw [← hd]
          exact fun h => hs ((slice_eq hi).mpr h)
        rw [e, gRun_GG hp hg n _ _ _ (by omega) (by omega), toList_append, hd, GG_cons ht, List.append_assoc]
        rfl
    · rw [if_neg hlt]
      have e : t.cps.toList.drop i = [] := List.drop_eq_nil_of_le (by rw [len_toList]; omega)
      rw [e, GG_nil, List.append_nil]
theorem great_GG {t p : Str} (hp : 1 ≤ p.length) (hg : Good t) : (greatF t p).cps.toList = GG p.cps.toList true t.cps.toList := by
  unfold greatF
  rw [gRun_GG hp hg _ _ _ _ (Nat.zero_le _) (by omega), List.drop_zero]
  rfl
end


section
open StrLaws
abbrev ES : Str := Str.ofString ""
theorem alph_space : ∀ c ∈ ALPH, Unicode.isSpace c = decide (c = 32 ∨ c = 9) := by decide +kernel
def subP (x : Str) (q : Nat × Nat) : Str := strSub x q.1 q.2
def WInv (x : Str) (cur : Nat) (st : SwSt) : Prop :=
  st.fst = none ∧ st.snd.fst.size ≤ cur ∧ (∃ pre last, pWords (x.cps.toList.take cur) = pre ++ [last] ∧ st.snd.fst.toList.map (subP x) = pre.filter (· != ES) ∧
    match st.snd.snd with
    | some b => b < cur ∧ last = strSub x b cur
    | none => last = ES)
theorem pStep_blank {pre : List Str} {last : Str} {c : Nat} (h : c = 32 ∨ c = 9) : pStep (pre ++ [last]) c = (pre ++ [last]) ++ [ES] := by
  unfold pStep; rw [if_pos h]
theorem pStep_sign {pre : List Str} {last : Str} {c : Nat} (h : ¬ (c = 32 ∨ c = 9)) : pStep (pre ++ [last]) c = pre ++ [last ++ ⟨#[c]⟩] := by
  unfold pStep; rw [if_neg h, List.dropLast_concat]
  simp
theorem sub_ne {x : Str} {b cur : Nat} (h : b < cur) (hc : cur ≤ x.length) : (strSub x b cur != ES) = true := by
  rw [bne_iff_ne]
  intro e
  have := congrArg Str.length e
  rw [sub_len x b cur hc] at this
  have e0 : ES.length = 0 := rfl
  omega
theorem sub_snoc {x : Str} {b cur c : Nat} (h : b ≤ cur) (hc : x.cps.toList[cur]? = some c) : strSub x b (cur + 1) = strSub x b cur ++ ⟨#[c]⟩ := by
  apply Str.ext'
  apply Array.toList_inj.mp
  rw [toList_append, strSub_toList, strSub_toList, show cur + 1 - b = (cur - b) + 1 from by omega, List.take_add_one, List.getElem?_drop, show b + (cur - b) = cur from by omega, hc]
  rfl
theorem sub_self {x : Str} {cur : Nat} : strSub x cur cur = ES := by
  apply Str.ext'
  apply Array.toList_inj.mp
  rw [strSub_toList, Nat.sub_self]
  rfl
theorem sw_words {x : Str} (hg : Good x) : ∀ (m cur : Nat) (st : SwSt), cur + m ≤ x.length → WInv x cur st → WInv x (cur + m) (forIn (List.range' cur m) st (swBody x (x.length + 1))).run
  | 0, cur, st, _, h => h
  | m + 1, cur, (r, words, start), hm, h => by
    rw [List.range'_succ, List.forIn_cons]
    rw [show cur + (m + 1) = (cur + 1) + m from by omega]
    obtain ⟨h1, h2, pre, last, h3, h4, h5⟩ := h
    simp only at h1 h2 h4 h5
    subst h1
    have hlt : cur < x.cps.toList.length := by rw [len_toList]; omega
    have hc : x.cps.toList[cur]? = some x.cps.toList[cur] := List.getElem?_eq_getElem hlt
    generalize x.cps.toList[cur] = c at hc
    have hcA : c ∈ ALPH := hg c (List.mem_of_getElem? hc)
    have hgd : x.cps.getD cur 0 = c := by
      rw [Array.getElem?_toList] at hc
      rw [Array.getD_eq_getD_getElem?, hc]
      rfl
    have hsz : ¬ ((words.size == x.length + 1) = true) := by
      rw [beq_iff_eq]; omega
    have hw := pWords_snoc hc
    rw [h3] at hw
    unfold swBody
    simp only [if_neg hsz, hgd]
    rw [alph_space c hcA]
    by_cases hb : c = 32 ∨ c = 9
    · rw [pStep_blank hb] at hw
      rw [decide_eq_true hb]
      cases start with
      | some b =>
        refine sw_words hg m (cur + 1) (none, words.push (b, cur), none) (by omega) ⟨rfl, ?_, pre ++ [last], ES, hw, ?_, rfl⟩
        · show (words.push (b, cur)).size ≤ cur + 1
          rw [Array.size_push]; omega
        · obtain ⟨h6, rfl⟩ := h5
          show (words.push (b, cur)).toList.map (subP x) = _
          rw [Array.toList_push, List.map_append, h4, List.filter_append]
          congr 1
          show [strSub x b cur] = _
          rw [List.filter_cons, if_pos (sub_ne h6 (by omega))]
          rfl
      | none =>
        refine sw_words hg m (cur + 1) (none, words, none) (by omega) ⟨rfl, by show words.size ≤ cur + 1; omega, pre ++ [last], ES, hw, ?_, rfl⟩
        subst h5
        show words.toList.map (subP x) = _
        rw [h4, List.filter_append]
        simp
    · rw [pStep_sign hb] at hw
      rw [decide_eq_false hb]
      cases start with
      | some b =>
        obtain ⟨h6, rfl⟩ := h5
        exact sw_words hg m (cur + 1) (none, words, some b) (by omega) ⟨rfl, by show words.size ≤ cur + 1; omega, pre, _, hw, h4, by omega, (sub_snoc (by omega) hc).symm⟩
      | none =>
        subst h5
        exact sw_words hg m (cur + 1) (none, words, some cur) (by omega) ⟨rfl, by show words.size ≤ cur + 1; omega, pre, _, hw, h4, by omega, by rw [sub_snoc (Nat.le_refl _) hc, sub_self]⟩
theorem words_of (x : Str) : Txt.words x = (spaceWords x (x.length + 1)).map (subP x) := by
  unfold Txt.words
  split
  · rename_i h
    rw [eq_of_beq h]
    show [x] = [strSub x 0 x.length]
    rw [sub_whole]
  · rfl
theorem words_eq {x : Str} (hg : Good x) : Txt.words x = (pWords x.cps.toList).filter (· != ES) := by
  rw [words_of, sw_eq]
  have key := sw_words hg x.length 0 (none, #[], none) (by omega) ⟨rfl, Nat.le_refl _, [], ES, rfl, rfl, rfl⟩
  rw [Nat.zero_add] at key
  generalize (forIn (List.range' 0 x.length) ((none, #[], none) : SwSt) (swBody x (x.length + 1))).run = st at key
  obtain ⟨r, words, start⟩ := st
  obtain ⟨h1, h2, pre, last, h3, h4, h5⟩ := key
  simp only at h1 h2 h4 h5
  subst h1
  rw [List.take_of_length_le (by rw [len_toList]; exact Nat.le_refl _)] at h3
  rw [h3, List.filter_append]
  cases start with
  | some b =>
    obtain ⟨h6, rfl⟩ := h5
    show (words.push (b, x.length)).toList.map (subP x) = _
    rw [Array.toList_push, List.map_append, h4]
    congr 1
    show [strSub x b x.length] = _
    rw [List.filter_cons, if_pos (sub_ne h6 (Nat.le_refl _))]
    rfl
  | none =>
    subst h5
    show words.toList.map (subP x) = _
    rw [h4]
    simp
end


section
open StrLaws
abbrev blank (c : Nat) : Prop := c = 32 ∨ c = 9
theorem blank_loc (c : Nat) : blank (loc c) ↔ blank c := by
  show (loc c = 32 ∨ loc c = 9) ↔ (c = 32 ∨ c = 9)
  rw [loc_eq (by omega), loc_eq (by omega)]
def wl : List Nat → List Nat → List (List Nat)
  | acc, [] => if acc = [] then [] else [acc]
  | acc, c :: l => if blank c then (if acc = [] then wl [] l else acc :: wl [] l) else wl (acc ++ [c]) l
theorem ne_toList (s : Str) : (s != ES) = decide (s.cps.toList ≠ []) := by
  by_cases h : s = ES
  · subst h; rfl
  · have h1 : (s != ES) = true := bne_iff_ne.mpr h
    have h2 : s.cps.toList ≠ [] := fun e => h (Str.ext' (Array.toList_inj.mp e))
    rw [h1, decide_eq_true h2]
theorem pWords_wl : ∀ (l : List Nat) (pre : List Str) (last : Str), ((l.foldl pStep (pre ++ [last])).filter (· != ES)).map (·.cps.toList) = (pre.filter (· != ES)).map (·.cps.toList) ++ wl last.cps.toList l
  | [], pre, last => by
    rw [List.foldl_nil, List.filter_append, List.map_append]
    congr 1
    rw [List.filter_cons, ne_toList]
    unfold wl
    by_cases h : last.cps.toList = []
    · rw [if_pos h, decide_eq_false (fun h' => h' h)]; rfl
    · rw [if_neg h, decide_eq_true h]; rfl
  | c :: l, pre, last => by
    rw [List.foldl_cons]
    unfold wl
    by_cases hb : blank c
    · rw [pStep_blank hb, pWords_wl l (pre ++ [last]) ES, if_pos hb, List.filter_append, List.map_append, List.append_assoc]
      congr 1
      rw [List.filter_cons, ne_toList]
      by_cases h : last.cps.toList = []
      · rw [if_pos h, decide_eq_false (fun h' => h' h)]; rfl
      · rw [if_neg h, decide_eq_true h]; rfl
    · rw [pStep_sign hb, pWords_wl l pre _, if_neg hb, toList_append]
theorem wl_words (x : Str) : ((pWords x.cps.toList).filter (· != ES)).map (·.cps.toList) = wl [] x.cps.toList := by
  exact pWords_wl x.cps.toList [] ES
def PL (l : List Nat) : List Nat := joinL [32] (wl [] l)
theorem plain_PL (x : Str) : (plainF x).cps.toList = PL x.cps.toList := by
  unfold plainF PL
  rw [tjoin, wl_words]
  rfl
def nb (w : List Nat) : Prop := ∀ c ∈ w, ¬ blank c
theorem wl_good : ∀ (l acc : List Nat), nb acc → ∀ w ∈ wl acc l, w ≠ [] ∧ nb w ∧ ∀ c ∈ w, c ∈ acc ∨ c ∈ l
  | [], acc, ha, w, hw => by
    unfold wl at hw
    split at hw
    · cases hw
    · rename_i h
      rw [List.mem_singleton] at hw
      subst hw
      exact ⟨h, ha, fun c hc => .inl hc⟩
  | c :: l, acc, ha, w, hw => by
    unfold wl at hw
    split at hw
    · split at hw
      · obtain ⟨h1, h2, h3⟩ := wl_good l [] (fun c hc => by cases hc) w hw
        exact ⟨h1, h2, fun d hd => .inr (by rcases h3 d hd with h | h; cases h; exact .tail _ h)⟩
      · rename_i h
        rcases List.mem_cons.mp hw with rfl | hw
        · exact ⟨h, ha, fun d hd => .inl hd⟩
        · obtain ⟨h1, h2, h3⟩ := wl_good l [] (fun c hc => by cases hc) w hw
          exact ⟨h1, h2, fun d hd => .inr (by rcases h3 d hd with h | h; cases h; exact .tail _ h)⟩
    · rename_i hb
      obtain ⟨h1, h2, h3⟩ := wl_good l (acc ++ [c]) (fun d hd => by
        rcases List.mem_append.mp hd with h | h
        · exact ha d h
        · rw [List.mem_singleton.mp h]; exact hb) w hw
      refine ⟨h1, h2, fun d hd => ?_⟩
      rcases h3 d hd with h | h
      · rcases List.mem_append.mp h with h | h
        · exact .inl h
        · rw [List.mem_singleton.mp h]; exact .inr (.head _)
      · exact .inr (.tail _ h)
theorem wl_run : ∀ (w acc rest : List Nat), nb w → wl acc (w ++ rest) = wl (acc ++ w) rest
  | [], acc, rest, _ => by rw [List.nil_append, List.append_nil]
  | c :: w, acc, rest, h => by
    rw [List.cons_append]
    conv => lhs; unfold wl
    rw [if_neg (h c (.head _)), wl_run w (acc ++ [c]) rest (fun d hd => h d (.tail _ hd)), List.append_assoc]
    rfl
theorem wl_join : ∀ ws : List (List Nat), (∀ w ∈ ws, w ≠ [] ∧ nb w) → wl [] (joinL [32] ws) = ws
  | [], _ => rfl
  | [x], h => by
    have hx := h x (.head _)
    show wl [] x = _
    have := wl_run x [] [] hx.2
    rw [List.append_nil, List.nil_append] at this
    rw [this]
    unfold wl
    rw [if_neg hx.1]
  | x :: y :: r, h => by
    have hx := h x (.head _)
    show wl [] (x ++ [32] ++ joinL [32] (y :: r)) = _
    rw [List.append_assoc, wl_run x [] _ hx.2, List.nil_append, List.cons_append, List.nil_append]
    unfold wl
    rw [if_pos (.inl rfl), if_neg hx.1, wl_join (y :: r) fun w hw => h w (.tail _ hw)]
theorem PL_PL (l : List Nat) : PL (PL l) = PL l := by
  unfold PL
  rw [wl_join]
  intro w hw
  obtain ⟨h1, h2, _⟩ := wl_good l [] (fun c hc => by cases hc) w hw
  exact ⟨h1, h2⟩
theorem wl_loc : ∀ (l acc : List Nat), wl (acc.map loc) (l.map loc) = (wl acc l).map (List.map loc)
  | [], acc => by
    show (if acc.map loc = [] then [] else [acc.map loc]) = (if acc = [] then [] else [acc]).map (List.map loc)
    by_cases h : acc = []
    · subst h; rfl
    · rw [if_neg h, if_neg (by simpa using h)]; rfl
  | c :: l, acc => by
    rw [List.map_cons]
    unfold wl
    by_cases hb : blank c
    · rw [if_pos hb, if_pos ((blank_loc c).mpr hb)]
      have e := wl_loc l []
      rw [List.map_nil] at e
      by_cases h : acc = []
      · subst h; exact e
      · rw [if_neg h, if_neg (by simpa using h), e]; rfl
    · rw [if_neg hb, if_neg (fun h => hb ((blank_loc c).mp h)), ← wl_loc l (acc ++ [c]), List.map_append]; rfl
theorem joinL_loc : ∀ ws : List (List Nat), (joinL [32] ws).map loc = joinL [32] (ws.map (List.map loc))
  | [] => rfl
  | [x] => rfl
  | x :: y :: r => by
    show (x ++ [32] ++ joinL [32] (y :: r)).map loc = _
    rw [List.map_append, List.map_append, joinL_loc (y :: r)]
    rfl
theorem PL_loc (l : List Nat) : (PL l).map loc = PL (l.map loc) := by
  unfold PL
  rw [joinL_loc, ← wl_loc]
  rfl
theorem GG_words : ∀ ws : List (List Nat), (∀ w ∈ ws, nb w) → GG [32] true (joinL [32] ws) = joinL [32] (ws.map (capf true))
  | [], _ => rfl
  | [x], h => by
    have hs := GG_seg (p := [32]) (rest := []) x true (fun k hk => by
      rw [List.append_nil, List.drop_eq_getElem_cons hk]
      intro e
      have e2 : x[k] = 32 := (List.cons.inj e).1
      exact h x (.head _) _ (List.getElem_mem hk) (.inl e2))
    rw [List.append_nil, GG_nil, List.append_nil] at hs
    exact hs
  | x :: y :: r, h => by
    show GG [32] true (x ++ [32] ++ joinL [32] (y :: r)) = capf true x ++ [32] ++ joinL [32] ((y :: r).map (capf true))
    rw [List.append_assoc, GG_seg (p := [32]) x true (fun k hk => by
      rw [List.drop_eq_getElem_cons hk]
      intro e
      have e2 : x[k] = 32 := (List.cons.inj e).1
      exact h x (.head _) _ (List.getElem_mem hk) (.inl e2))]
    rw [GG_pre (by decide) (by rfl)]
    show capf true x ++ ([32] ++ GG [32] true (joinL [32] (y :: r))) = _
    rw [GG_words (y :: r) fun w hw => h w (.tail _ hw), List.append_assoc]
theorem joinL_mem : ∀ (ws : List (List Nat)) (c : Nat), c ∈ joinL [32] ws → c = 32 ∨ ∃ w ∈ ws, c ∈ w
  | [], c, h => by cases h
  | [x], c, h => .inr ⟨x, .head _, h⟩
  | x :: y :: r, c, h => by
    have h' : c ∈ x ++ [32] ++ joinL [32] (y :: r) := h
    rcases List.mem_append.mp h' with h | h
    · rcases List.mem_append.mp h with h | h
      · exact .inr ⟨x, .head _, h⟩
      · exact .inl (List.mem_singleton.mp h)
    · rcases joinL_mem (y :: r) c h with h | ⟨w, hw, hc⟩
      · exact .inl h
      · exact .inr ⟨w, .tail _ hw, hc⟩
theorem PL_alph {l : List Nat} (h : ∀ c ∈ l, c ∈ ALPH) : ∀ c ∈ PL l, c ∈ ALPH := by
  intro c hc
  rcases joinL_mem _ c hc with rfl | ⟨w, hw, hcw⟩
  · decide
  · obtain ⟨_, _, h3⟩ := wl_good l [] (fun c hc => by cases hc) w hw
    rcases h3 c hcw with h4 | h4
    · cases h4
    · exact h c h4
theorem alph_loc {c d : Nat} (h : loc c = loc d) (hd : d ∈ ALPH) : c ∈ ALPH := by
  have hl : loc d ∈ ALPH := by
    have : ∀ d ∈ ALPH, loc d ∈ ALPH := by decide
    exact this d hd
  unfold loc at h
  by_cases hc : 65 ≤ c ∧ c ≤ 68
  · have : c = 65 ∨ c = 66 ∨ c = 67 ∨ c = 68 := by omega
    rcases this with h | h | h | h <;> (rw [h]; decide)
  · rw [if_neg hc] at h
    rw [h]
    exact hl
theorem good_case {l l' : List Nat} (h : l.map loc = l'.map loc) (hg : ∀ c ∈ l', c ∈ ALPH) : ∀ c ∈ l, c ∈ ALPH := by
  intro c hc
  have : loc c ∈ l'.map loc := by rw [← h]; exact List.mem_map.mpr ⟨c, hc, rfl⟩
  obtain ⟨d, hd, e⟩ := List.mem_map.mp this
  exact alph_loc e.symm (hg d hd)
end


section
open StrLaws
theorem good_of {x : Str} {l : List Nat} (h : x.cps.toList.map loc = l.map loc) (hg : ∀ c ∈ l, c ∈ ALPH) : Good x := good_case h hg
theorem kindG {x : Str} (hg : Good x) (p : Str) (hp : p ∈ KSTR) : decide (strKind x < strKind p) = false := by
  have h1 : strKind p = 1 := by
    have : ∀ p ∈ KSTR, strKind p = 1 := by decide +kernel
    exact this p hp
  rw [h1]
  apply decide_eq_false
  unfold PySem.Builtin.Str.strKind
  split
  · omega
  · split <;> omega
theorem kstr_nolet : ∀ p ∈ KSTR, nolet p.cps.toList := by
  intro p hp
  simp only [List.mem_cons, List.not_mem_nil, or_false] at hp
  unfold nolet
  rcases hp with h | h | h | h | h | h | h <;> (rw [h]; decide +kernel)
theorem cap_none_GG {x : Str} (hg : Good x) : (capM none x).cps.toList = GG [32] true (PL x.cps.toList) := by
  show (Txt.join (Str.ofString " ") ((Txt.words x).map Txt.capitalize)).cps.toList = _
  rw [tjoin, words_eq hg, List.map_map]
  have hw : ∀ w ∈ wl [] x.cps.toList, w ≠ [] ∧ nb w ∧ ∀ c ∈ w, c ∈ ([] : List Nat) ∨ c ∈ x.cps.toList := wl_good x.cps.toList [] (fun c hc => by cases hc)
  have e : ((pWords x.cps.toList).filter (· != ES)).map ((fun y : Str => y.cps.toList) ∘ Txt.capitalize) = (wl [] x.cps.toList).map (capf true) := by
    rw [← wl_words, List.map_map]
    apply List.map_congr_left
    intro y hy
    show (Txt.capitalize y).cps.toList = capf true y.cps.toList
    apply cap_toList
    intro c hc
    have hm : y.cps.toList ∈ wl [] x.cps.toList := by rw [← wl_words]; exact List.mem_map.mpr ⟨y, hy, rfl⟩
    rcases (hw _ hm).2.2 c hc with h | h
    · cases h
    · exact hg c h
  rw [e]
  unfold PL
  rw [GG_words _ fun w h => (hw w h).2.1]
  rfl
theorem isE_false {p : Str × Tok} (h : isE (some p) = false) : 1 ≤ p.1.length := by
  rcases Nat.eq_zero_or_pos p.1.length with h9 | h9
  · have : (p.1.length == 0) = false := h
    rw [h9] at this; cases this
  · exact h9
def baseL (l : List Nat) (b : Bool) : List Nat := if b then PL l else l
theorem lastMark_snoc (L : List Mk) (m : Mk) : lastMark (L ++ [m]) = match m with | some p => p.1 | none => Str.ofString " " := by
  unfold lastMark
  rw [List.getLast?_concat]
  cases m <;> rfl
theorem fold_ok {t : Str} (hg : Good t) : ∀ (n : Nat) (ms : List Mk), ms.length ≤ n → (∀ m ∈ ms, Kind m) → (∀ m ∈ ms, isE m = false) →
    (foldM t ms).cps.toList.map loc = (baseL t.cps.toList (ms.any isN)).map loc ∧ (ms ≠ [] → (foldM t ms).cps.toList = GG (lastMark ms).cps.toList true (baseL t.cps.toList (ms.any isN)))
  | n, ms, hn, hk, he => by
    rcases List.eq_nil_or_concat ms with rfl | ⟨L, m, rfl⟩
    · exact ⟨rfl, fun h => absurd rfl h⟩
    · rw [List.concat_eq_append] at *
      cases n with
      | zero => simp at hn
      | succ n =>
        have ih := (fold_ok hg n L (by simp at hn; omega) (fun m' h => hk m' (List.mem_append_left _ h)) (fun m' h => he m' (List.mem_append_left _ h))).1
        have hb : ∀ c ∈ baseL t.cps.toList (L.any isN), c ∈ ALPH := by
          unfold baseL
          split
          · exact PL_alph hg
          · exact hg
        have hy : Good (foldM t L) := good_of ih hb
        have hstep : foldM t (L ++ [m]) = capM m (foldM t L) := by unfold foldM; rw [List.foldl_append]; rfl
        rw [hstep, lastMark_snoc, List.any_append]
        cases m with
        | some p =>
          have hp1 := isE_false (he (some p) (List.mem_append_right _ (.head _)))
          have hpk : p.1 ∈ KSTR := hk (some p) (List.mem_append_right _ (.head _))
          have hpl : 1 ≤ p.1.cps.toList.length := by rw [len_toList]; exact hp1
          have hnl := kstr_nolet _ hpk
          have e1 : (L.any isN || [some p].any isN) = L.any isN := by
            show (L.any isN || (false || false)) = _
            simp
          rw [e1]
          have e2 : (capM (some p) (foldM t L)).cps.toList = GG p.1.cps.toList true (baseL t.cps.toList (L.any isN)) := by
            show (Txt.join p.1 ((Txt.split (foldM t L) p.1).map Txt.capitalize)).cps.toList = _
            rw [capM_GG hp1 (kindG hy _ hpk) hy]
            exact GG_same hpl hnl ih
          rw [e2]
          exact ⟨GG_case hpl hnl _ _, fun _ => rfl⟩
        | none =>
          have e1 : (L.any isN || [(none : Mk)].any isN) = true := by
            show (L.any isN || (true || false)) = true
            simp
          rw [e1]
          have hnl : nolet [32] := by unfold nolet; decide
          have e2 : (PL (foldM t L).cps.toList).map loc = (PL t.cps.toList).map loc := by
            rw [PL_loc, ih, ← PL_loc]
            congr 1
            unfold baseL
            split
            · exact PL_PL _
            · rfl
          have e3 : (capM none (foldM t L)).cps.toList = GG [32] true (PL t.cps.toList) := by
            rw [cap_none_GG hy]
            exact GG_same (by decide) hnl e2
          rw [e3]
          exact ⟨GG_case (by decide) hnl _ _, fun _ => rfl⟩
theorem PL_len {x : Str} (hg : Good x) : (plainF x).length ≤ x.length + 1 := by
  have e : plainF x = Txt.join (Str.ofString " ") (Txt.words x) := by
    unfold plainF
    rw [words_eq hg]
  rw [e]
  show (glued _ _).length ≤ _
  rw [glued_eq_join]
  have h1 := join_length_le (Str.ofString " ") (Txt.words x)
  have h2 := words_weight x
  have h3 : (Str.ofString " ").length = 1 := by decide +kernel
  rw [h3] at h1
  omega
theorem any_false {ms : List Mk} {f : Mk → Bool} (h : ms.any f = false) : ∀ m ∈ ms, f m = false := by
  intro m hm
  cases e : f m with
  | false => rfl
  | true => rw [List.any_eq_true.mpr ⟨m, hm, e⟩] at h; cases h
theorem told_due {t : Str} (hg : Good t) (ms : List Mk) (hk : ∀ m ∈ ms, Kind m) : toldF t ms = dueF t ms := by
  unfold toldF dueF
  cases hE : ms.any isE with
  | true => rfl
  | false =>
    rw [if_neg (by decide), if_neg (by decide)]
    cases ms with
    | nil => rfl
    | cons m r =>
      rw [if_neg (by simp)]
      have key := (fold_ok hg _ (m :: r) (Nat.le_refl _) hk (any_false hE)).2 (by simp)
      apply Str.ext'
      apply Array.toList_inj.mp
      rw [key]
      have hl : 1 ≤ (lastMark (m :: r)).length := by
        rcases List.eq_nil_or_concat (m :: r) with h | ⟨L, b, h⟩
        · cases h
        · rw [List.concat_eq_append] at h
          rw [h, lastMark_snoc]
          cases b with
          | none => decide +kernel
          | some p => exact isE_false (any_false hE (some p) (by rw [h]; exact List.mem_append_right _ (.head _)))
      cases hN : (m :: r).any isN with
      | true =>
        rw [if_pos rfl, great_GG hl (fun c hc => PL_alph hg c (by rw [← plain_PL]; exact hc)), plain_PL]
        rfl
      | false =>
        rw [if_neg (by decide), great_GG hl hg]
        rfl
theorem fold_len {t : Str} (hg : Good t) (ht : t.length ≤ 12) {ms : List Mk} (hk : ∀ m ∈ ms, Kind m) (he : ∀ m ∈ ms, isE m = false) : (foldM t ms).length ≤ 1000 ∧ Good (foldM t ms) := by
  have key := (fold_ok hg _ ms (Nat.le_refl _) hk he).1
  constructor
  · have h := congrArg List.length key
    rw [List.length_map, List.length_map, len_toList] at h
    rw [h]
    unfold baseL
    split
    · rw [← plain_PL, len_toList]
      have := PL_len hg
      omega
    · rw [len_toList]; omega
  · refine good_of key ?_
    unfold baseL
    split
    · exact PL_alph hg
    · exact hg
theorem good_ok {x : Str} (hg : Good x) : SeqAt.shaped (.str x) = true := by
  have h : x.cps.all (· < 0x110000) = true := by
    rw [← Array.all_toList, List.all_eq_true]
    intro c hc
    have : ∀ c ∈ ALPH, c < 0x110000 := by decide
    exact decide_eq_true (this c (hg c hc))
  unfold SeqAt.shaped
  rw [PyData.canLay0, PyData.depth]
  unfold PyData.strOk
  rw [h]
  rfl
end


theorem Here.less2 {n : Nat} {h : Heap} (H : Here (n + 2) w mean mg mb A base outer h) : Here 2 w mean mg mb A base outer h := H.less (by omega)
theorem Here.less4 {n : Nat} {h : Heap} (H : Here (n + 4) w mean mg mb A base outer h) : Here 4 w mean mg mb A base outer h := H.less (by omega)
theorem Here.less3 {n : Nat} {h : Heap} (H : Here (n + 3) w mean mg mb A base outer h) : Here 3 w mean mg mb A base outer h := H.less (by omega)
structure PureOk (t : Str) : Prop where
  len : t.length ≤ 1000
  asc : t.cps.all (· < 128) = true
  pl : (plainF t).length ≤ 1000
  told : ∀ ms : List Mk, (∀ m ∈ ms, Kind m) → toldF t ms = dueF t ms
  bnd : ∀ ms : List Mk, (∀ m ∈ ms, Kind m) → ∀ i, (∀ m ∈ ms.take i, isE m = false) → (foldM t (ms.take i)).length ≤ 1000
  ok : ∀ ms : List Mk, (∀ m ∈ ms, Kind m) → SeqAt.shaped (.str (dueF t ms)) = true
  turn : ∀ a b c d, dueF t [c, b, a, d] = dueF t [a, b, c, d]
theorem any_turn (f : Mk → Bool) (a b c d : Mk) : [c, b, a, d].any f = [a, b, c, d].any f := by
  simp only [List.any_cons, List.any_nil]
  cases f a <;> cases f b <;> cases f c <;> rfl
theorem text_ok {x y : Str} (hx : x.length = 6) (hy : y.length = 6) (gx : Good x) (gy : Good y) : PureOk (x ++ y) := by
  have hg : Good (x ++ y) := by
    intro c hc
    rw [toList_append] at hc
    rcases List.mem_append.mp hc with h | h
    · exact gx c h
    · exact gy c h
  have hl : (x ++ y).length = 12 := by rw [Str.length_append]; omega
  refine ⟨by omega, ?_, ?_, told_due hg, ?_, ?_, ?_⟩
  · rw [← Array.all_toList, List.all_eq_true]
    intro c hc
    have : ∀ c ∈ ALPH, c < 128 := by decide
    exact decide_eq_true (this c (hg c hc))
  · have := PL_len hg
    omega
  · intro ms hk i he
    exact (fold_len hg (by omega) (fun m hm => hk m (List.mem_of_mem_take hm)) he).1
  · intro ms hk
    rw [← told_due hg ms hk]
    unfold toldF
    cases hE : ms.any isE with
    | true =>
      rw [if_pos rfl]
      decide +kernel
    | false =>
      rw [if_neg (by decide)]
      exact good_ok (fold_len hg (by omega) hk (any_false hE)).2
  · intro a b c d
    unfold dueF
    rw [any_turn isE a b c d, any_turn isN a b c d]
    rfl
theorem kind_short {m : Mk} (h : Kind m) : short m := by
  cases m with
  | none => trivial
  | some p =>
    have h' : p.1 ∈ KSTR := h
    show p.1.length ≤ 10
    simp only [List.mem_cons, List.not_mem_nil, or_false] at h'
    rcases h' with h | h | h | h | h | h | h <;> (rw [h]; decide)
theorem kind4 {m0 m1 m2 m3 : Mk} (g0 : Kind m0) (g1 : Kind m1) (g2 : Kind m2) (g3 : Kind m3) : ∀ m ∈ [m0, m1, m2, m3], Kind m := by
  intro m hm
  simp only [List.mem_cons, List.not_mem_nil, or_false] at hm
  rcases hm with h | h | h | h <;> (rw [h]; assumption)
theorem kind3 {m0 m1 m2 : Mk} (g0 : Kind m0) (g1 : Kind m1) (g2 : Kind m2) : ∀ m ∈ [m0, m1, m2], Kind m := by
  intro m hm
  simp only [List.mem_cons, List.not_mem_nil, or_false] at hm
  rcases hm with h | h | h <;> (rw [h]; assumption)
theorem kind2 {m0 m1 : Mk} (g0 : Kind m0) (g1 : Kind m1) : ∀ m ∈ [m0, m1], Kind m := by
  intro m hm
  simp only [List.mem_cons, List.not_mem_nil, or_false] at hm
  rcases hm with h | h <;> (rw [h]; assumption)
theorem kind1 {m0 : Mk} (g0 : Kind m0) : ∀ m ∈ [m0], Kind m := by
  intro m hm
  simp only [List.mem_cons, List.not_mem_nil, or_false] at hm
  rw [hm]; assumption
theorem shortAll {ms : List Mk} (h : ∀ m ∈ ms, Kind m) : ∀ m ∈ ms, short m := fun m hm => kind_short (h m hm)
section
variable {prog : Program} {a b : Addr} {x0 x1 x2 x3 x4 y0 y1 y2 y3 y4 : Str} {t0 t1 t2 t3 t4 u0 u1 u2 u3 u4 : Tok}
theorem reads5 {h : Heap} (ha : h.get? a = some (LCg.lst [.str x0 t0, .str x1 t1, .str x2 t2, .str x3 t3, .str x4 t4])) :
    Reads h (.ref a) (.list [.str x0, .str x1, .str x2, .str x3, .str x4]) (a :: ([] ++ ([] ++ ([] ++ ([] ++ ([] ++ [])))))) :=
  .list ha rfl rfl (.cons (.str _ _) (.cons (.str _ _) (.cons (.str _ _) (.cons (.str _ _) (.cons (.str _ _) .nil)))))
theorem shaped5 (h0 : SeqAt.shaped (.str x0) = true) (h1 : SeqAt.shaped (.str x1) = true) (h2 : SeqAt.shaped (.str x2) = true) (h3 : SeqAt.shaped (.str x3) = true) (h4 : SeqAt.shaped (.str x4) = true) :
    SeqAt.shaped (.list [.str x0, .str x1, .str x2, .str x3, .str x4]) = true := by
  have c0 := SeqAt.canLay_of_shaped h0
  have c1 := SeqAt.canLay_of_shaped h1
  have c2 := SeqAt.canLay_of_shaped h2
  have c3 := SeqAt.canLay_of_shaped h3
  have c4 := SeqAt.canLay_of_shaped h4
  unfold SeqAt.shaped
  rw [PyData.canLay0, PyData.canLayAll0, PyData.canLayAll0, PyData.canLayAll0, PyData.canLayAll0, PyData.canLayAll0, PyData.canLayAll0, c0, c1, c2, c3, c4]
  rfl
theorem ne5 (ha : s.heap.get? a = some (LCg.lst [.str x0 t0, .str x1 t1, .str x2 t2, .str x3 t3, .str x4 t4])) (hb : s.heap.get? b = some (LCg.lst [.str y0 u0, .str y1 u1, .str y2 u2, .str y3 u3, .str y4 u4]))
    (e0 : x0 = y0) (e1 : x1 = y1) (e2 : x2 = y2) (e3 : x3 = y3) (e4 : x4 = y4)
    (h0 : SeqAt.shaped (.str y0) = true) (h1 : SeqAt.shaped (.str y1) = true) (h2 : SeqAt.shaped (.str y2) = true) (h3 : SeqAt.shaped (.str y3) = true) (h4 : SeqAt.shaped (.str y4) = true)
    (hu : A.units + 64 < cLine) (h : Q (.bool false) s) : wpAny (model prog w) A (compareOp .NotEq (.ref a) (.ref b)) Q E s := by
  subst e0 e1 e2 e3 e4
  have sh := shaped5 h0 h1 h2 h3 h4
  refine SeqAt.compareNe_shaped (reads5 ha) (reads5 hb) sh sh hu ?_
  rw [SeqAt.eqv_refl _ (SeqAt.canLay_of_shaped sh)]
  exact h
end
theorem News.drop {h₀ h : Heap} {L : Addr} {q : Addr × Obj} {news : List (Addr × Obj)} (N : News h₀ L h (q :: news)) : News h₀ L h news := fun p hp => N p (.tail _ hp)
section
variable {h : Heap} {a : Addr} {u v v0 v1 v2 v3 v4 : Value} {d d' d0 d1 d2 d3 d4 : PyData} {as bs as0 as1 as2 as3 as4 : List Addr}
theorem rd_pair (ha : h.get? a = some (W.listOf #[v, u] 0)) (r : Reads h v d as) (r' : Reads h u d' bs) : Reads h (.ref a) (.list [d, d']) (a :: (as ++ (bs ++ []))) := .list ha rfl rfl (.cons r (.cons r' .nil))
theorem rd_4 (ha : h.get? a = some (LCg.lst [v0, v1, v2, v3])) (r0 : Reads h v0 d0 as0) (r1 : Reads h v1 d1 as1) (r2 : Reads h v2 d2 as2) (r3 : Reads h v3 d3 as3) :
    Reads h (.ref a) (.list [d0, d1, d2, d3]) (a :: (as0 ++ (as1 ++ (as2 ++ (as3 ++ []))))) := .list ha rfl rfl (.cons r0 (.cons r1 (.cons r2 (.cons r3 .nil))))
theorem rd_w4 (ha : h.get? a = some (W.listOf #[v0, v1, v2, v3] 0)) (r0 : Reads h v0 d0 as0) (r1 : Reads h v1 d1 as1) (r2 : Reads h v2 d2 as2) (r3 : Reads h v3 d3 as3) :
    Reads h (.ref a) (.list [d0, d1, d2, d3]) (a :: (as0 ++ (as1 ++ (as2 ++ (as3 ++ []))))) := .list ha rfl rfl (.cons r0 (.cons r1 (.cons r2 (.cons r3 .nil))))
theorem rd_5 (ha : h.get? a = some (LCg.lst [v0, v1, v2, v3, v4])) (r0 : Reads h v0 d0 as0) (r1 : Reads h v1 d1 as1) (r2 : Reads h v2 d2 as2) (r3 : Reads h v3 d3 as3) (r4 : Reads h v4 d4 as4) :
    Reads h (.ref a) (.list [d0, d1, d2, d3, d4]) (a :: (as0 ++ (as1 ++ (as2 ++ (as3 ++ (as4 ++ [])))))) := .list ha rfl rfl (.cons r0 (.cons r1 (.cons r2 (.cons r3 (.cons r4 .nil)))))
theorem rd_w5 {n : Nat} (ha : h.get? a = some (W.listOf #[v0, v1, v2, v3, v4] n)) (r0 : Reads h v0 d0 as0) (r1 : Reads h v1 d1 as1) (r2 : Reads h v2 d2 as2) (r3 : Reads h v3 d3 as3) (r4 : Reads h v4 d4 as4) :
    Reads h (.ref a) (.list [d0, d1, d2, d3, d4]) (a :: (as0 ++ (as1 ++ (as2 ++ (as3 ++ (as4 ++ [])))))) := .list ha rfl rfl (.cons r0 (.cons r1 (.cons r2 (.cons r3 (.cons r4 .nil)))))
end
abbrev D4 (m0 m1 m2 m3 : Mk) : List PyData := [.list [.list [.list [mdata m0, mdata m1], mdata m2], mdata m3], .list [.list [mdata m1, mdata m2], mdata m3], .list [mdata m2, mdata m3], mdata m3]
theorem lay_mdata {m : Mk} (g : Kind m) : (mdata m).canLay0 = true ∧ (mdata m).depth = 0 := by
  cases m with
  | none => exact ⟨rfl, rfl⟩
  | some p =>
    refine ⟨?_, rfl⟩
    have h' : p.1 ∈ KSTR := g
    show (PyData.str p.1).canLay0 = true
    simp only [List.mem_cons, List.not_mem_nil, or_false] at h'
    rcases h' with h | h | h | h | h | h | h <;> (rw [h]; decide +kernel)
theorem shaped_d4 {m0 m1 m2 m3 : Mk} (g0 : Kind m0) (g1 : Kind m1) (g2 : Kind m2) (g3 : Kind m3) (r : List PyData) (hr : PyData.canLayAll0 r = true) (hr2 : PyData.depthAll r ≤ 5) : SeqAt.shaped (.list (D4 m0 m1 m2 m3 ++ r)) = true := by
  obtain ⟨a0, b0⟩ := lay_mdata g0
  obtain ⟨a1, b1⟩ := lay_mdata g1
  obtain ⟨a2, b2⟩ := lay_mdata g2
  obtain ⟨a3, b3⟩ := lay_mdata g3
  unfold SeqAt.shaped
  simp only [List.cons_append, List.nil_append, PyData.canLay0, PyData.canLayAll0, PyData.depth, PyData.depthAll, a0, a1, a2, a3, b0, b1, b2, b3, hr, Bool.and_true, Bool.true_and, decide_eq_true_eq]
  omega
theorem ne_same {prog : Program} {a b : Value} {d : PyData} {as bs : List Addr} (ra : Reads s.heap a d as) (rb : Reads s.heap b d bs) (sh : SeqAt.shaped d = true) (hu : A.units + 64 < cLine) (h : Q (.bool false) s) :
    wpAny (model prog w) A (compareOp .NotEq a b) Q E s := by
  refine SeqAt.compareNe_shaped ra rb sh sh hu ?_
  rw [SeqAt.eqv_refl _ (SeqAt.canLay_of_shaped sh)]
  exact h
theorem here0 {h : Heap} (K : Below callerA h [] h) (X : (hd.heap_39 w.params).In h) (T : Top VW LO mean mg mb h) : Here 8 w mean mg mb callerA h [] h :=
  ⟨K, X, T, (fun b hb => by cases hb), rfl, by decide, by decide⟩
theorem Here.less' {n : Nat} {h : Heap} (H : Here (n + 1) w mean mg mb A base outer h) : Here 1 w mean mg mb A base outer h := H.less (by omega)
theorem Evo.fr {h₀ h h' : Heap} {L : Addr} {m : Str → Option Value} (F : Fr h₀ L h m) (V : Evo [L] h h') : Fr h₀ L h' m := by
  obtain ⟨g, T, k⟩ := V
  refine Fr.keeps (h := g) ⟨(turn_up T).ns F.ns, ?_, F.above⟩ k
  intro b o e
  refine T.other b o (F.keep b o e) ?_
  intro hm
  rw [List.mem_singleton] at hm
  rw [hm, kts_self F] at e
  cases e
theorem Evo.news {h₀ h h' : Heap} {L : Addr} {news : List (Addr × Obj)} (N : News h₀ L h news) (V : Evo [L] h h') : News h₀ L h' news := by
  obtain ⟨g, T, k⟩ := V
  refine News.keeps (h := g) ?_ k
  intro p hp
  obtain ⟨h1, h2, h3⟩ := N p hp
  exact ⟨T.other _ _ h1 (by rw [List.mem_singleton]; exact h2), h2, h3⟩
theorem off_at {h : Heap} {x a : Addr} {o : Obj} (hx : h.get? x = none) (ha : h.get? a = some o) : @Ne Nat x a := by
  intro e
  rw [e, ha] at hx
  cases hx
section
local macro_rules | `(tactic| k_ne) => `(tactic| first | (refine neN ?_; assumption) | (refine neN ?_; (try dsimp only); omega))
local macro_rules | `(tactic| walk_at "call ref") => `(tactic| (refine halt ?_))
local macro_rules | `(tactic| walk_at "exec Assign cons ListComp") => `(tactic| (refine halt ?_))
local macro_rules | `(tactic| walk_at "eval ListComp") => `(tactic| (refine halt ?_))
local macro_rules | `(tactic| walk_at "compareOp NotEq ref ref") => `(tactic| (refine halt ?_))
local macro_rules | `(tactic| walk_at "CompSrc") => `(tactic| (refine halt ?_))
theorem law_holds : PySem.Challenge.rw_nq0006_01.Holds := hd (by
  k_go0
  (all_goals try k_fold)
  (with_reducible rename Frag.In _ _ => KX)
  (with_reducible rename Top _ _ _ _ _ _ => T0)
  (with_reducible rename Below _ _ _ _ => K0)
  (with_reducible rename IntsAre _ _ => hI)
  (with_reducible rename Heap.IsList _ _ _ => hL)
  (with_reducible rename ¬ _ => hlen)
  (with_reducible rename Fr _ _ _ _ => F0)
  (with_reducible rename News _ _ _ _ => N0)
  have H := here0 K0 KX T0
  k_steps; unfold Halt
  refine heap_c (H.push F0 rfl rfl).less' (hL.at fun o e => F0.keep _ o e) hI (by omega) (by decide) (by decide) (by decide) (by decide) fun z1 h1 tk1 a1 hk1 hz1 hz1' => ?_
  have F1 := Fr.keeps F0 hk1
  have N1 := News.keeps N0 hk1
  clear F0 N0
  k_steps; unfold Halt
  refine six_c (H.push F1 rfl rfl).less' hz1 hz1' fun x1 h2 tk2 a2 hx1 gx1 hk2 => ?_
  have F2 := Fr.keeps F1 hk2
  have N2 := News.keeps N1 hk2
  clear F1 N1
  k_steps; unfold Halt
  refine heap_c (H.push F2 rfl rfl).less' (hL.at fun o e => F2.keep _ o e) hI (by omega) (by decide) (by decide) (by decide) (by decide) fun z2 h3 tk3 a3 hk3 hz2 hz2' => ?_
  have F3 := Fr.keeps F2 hk3
  have N3 := News.keeps N2 hk3
  clear F2 N2
  k_steps; unfold Halt
  refine six_c (H.push F3 rfl rfl).less' hz2 hz2' fun x2 h4 tk4 a4 hx2 gx2 hk4 => ?_
  have F4 := Fr.keeps F3 hk4
  have N4 := News.keeps N3 hk4
  clear F3 N3
  k_steps; unfold Halt
  (with_reducible rename Fr _ _ _ _ => F4)
  (with_reducible rename News _ _ _ _ => N4)
  refine heap_c (H.push F4 rfl rfl).less' (hL.at fun o e => F4.keep _ o e) hI (by omega) (by decide) (by decide) (by decide) (by decide) fun z3 h5 tk5 a5 hk5 hz3 hz3' => ?_
  have F5 := Fr.keeps F4 hk5
  have N5 := News.keeps N4 hk5
  clear F4 N4
  k_steps; unfold Halt
  refine marks_c (H.push F5 rfl rfl).less' hz3 hz3' fun m0 m1 m2 m3 lm h6 tk6 g0 g1 g2 g3 hlm hlf hk6 => ?_
  have F6 := Fr.keeps F5 hk6
  have N6 := News.more F6 (News.keeps N5 hk6) hlm (fun es n => by intro e; cases e) (kts_none F5.keep hlf)
  have tx := text_ok hx1 hx2 gx1 gx2
  have k4 := kind4 g0 g1 g2 g3
  have k3 : ∀ m ∈ [m0, m1, m2], Kind m := kind3 g0 g1 g2
  have k2 : ∀ m ∈ [m0, m1], Kind m := kind2 g0 g1
  have k1 : ∀ m ∈ [m0], Kind m := kind1 g0
  have k0 : ∀ m ∈ ([] : List Mk), Kind m := fun m hm => by cases hm
  have d1 := off_at hlf (N5 _ (.head _)).1
  have d2 := off_at hlf (N5 _ (.tail _ (.head _))).1
  clear F5 N5
  k_steps
  unfold Halt
  clear d1 d2
  repeat ((with_reducible rename _ ≠ _ => q9); clear q9)
  repeat ((with_reducible rename _ ∧ _ => q9); clear q9)
  refine LCg.Assign_ListComp_U (F₀ := by k_asm) (by rfl) (by with_unfolding_all rfl) (by with_unfolding_all rfl) (by decide) (by rfl) (by decide) (by rfl) (by rfl) (by rfl) ?_
  lcg_toSrc
  k_steps; unfold Halt
  (with_reducible rename Fr _ _ _ _ => F7); (with_reducible rename News _ _ _ _ => N7)
  refine LCg.CompSrc.range (n := 5) (by rfl) F7 N7 (by assumption) (by decide) (by decide) (by decide) fun g => ?_
  clear F7 N7
  k_steps; unfold Halt
  (with_reducible rename Fr _ _ _ _ => F7); (with_reducible rename News _ _ _ _ => N7)
  repeat ((with_reducible rename _ ≠ _ => q9); clear q9)
  (with_reducible rename _ ∧ _ => q1); clear q1
  repeat ((with_reducible rename _ ∧ _ => q9); cases q9)
  refine due_c (ms := []) (H.push F7 rfl rfl).less2 tx.len tx.asc tx.pl (News.isList N7 (by k_mem)) (shortAll k0) fun h8 tk8 a8 hk8 => ?_
  have F8 := Fr.keeps F7 hk8
  have N8 := News.keeps (News.drop N7) hk8
  clear F7 N7
  k_steps; unfold Halt
  (with_reducible rename Fr _ _ _ _ => F7); (with_reducible rename News _ _ _ _ => N7)
  repeat ((with_reducible rename _ ≠ _ => q9); clear q9)
  (with_reducible rename _ ∧ _ => q1); clear q1
  repeat ((with_reducible rename _ ∧ _ => q9); cases q9)
  refine due_c (ms := [m0]) (H.push F7 rfl rfl).less2 tx.len tx.asc tx.pl (News.isList N7 (by k_mem)) (shortAll k1) fun h8 tk8 a8 hk8 => ?_
  have F8 := Fr.keeps F7 hk8
  have N8 := News.keeps (News.drop N7) hk8
  clear F7 N7
  k_steps; unfold Halt
  (with_reducible rename Fr _ _ _ _ => F7); (with_reducible rename News _ _ _ _ => N7)
  repeat ((with_reducible rename _ ≠ _ => q9); clear q9)
  (with_reducible rename _ ∧ _ => q1); clear q1
  repeat ((with_reducible rename _ ∧ _ => q9); cases q9)
  refine due_c (ms := [m0, m1]) (H.push F7 rfl rfl).less2 tx.len tx.asc tx.pl (News.isList N7 (by k_mem)) (shortAll k2) fun h8 tk8 a8 hk8 => ?_
  have F8 := Fr.keeps F7 hk8
  have N8 := News.keeps (News.drop N7) hk8
  clear F7 N7
  k_steps; unfold Halt
  (with_reducible rename Fr _ _ _ _ => F7); (with_reducible rename News _ _ _ _ => N7)
  repeat ((with_reducible rename _ ≠ _ => q9); clear q9)
  (with_reducible rename _ ∧ _ => q1); clear q1
  repeat ((with_reducible rename _ ∧ _ => q9); cases q9)
  refine due_c (ms := [m0, m1, m2]) (H.push F7 rfl rfl).less2 tx.len tx.asc tx.pl (News.isList N7 (by k_mem)) (shortAll k3) fun h8 tk8 a8 hk8 => ?_
  have F8 := Fr.keeps F7 hk8
  have N8 := News.keeps (News.drop N7) hk8
  clear F7 N7
  k_steps; unfold Halt
  (with_reducible rename Fr _ _ _ _ => F7); (with_reducible rename News _ _ _ _ => N7)
  repeat ((with_reducible rename _ ≠ _ => q9); clear q9)
  (with_reducible rename _ ∧ _ => q1); clear q1
  repeat ((with_reducible rename _ ∧ _ => q9); cases q9)
  refine due_c (ms := [m0, m1, m2, m3]) (H.push F7 rfl rfl).less2 tx.len tx.asc tx.pl (News.isList N7 (by k_mem)) (shortAll k4) fun h8 tk8 a8 hk8 => ?_
  have F8 := Fr.keeps F7 hk8
  have N8 := News.keeps (News.drop N7) hk8
  clear F7 N7
  k_steps; unfold Halt
  repeat ((with_reducible rename _ ≠ _ => q9); clear q9)
  repeat ((with_reducible rename _ ∧ _ => q9); clear q9)
  refine LCg.ListComp_U (F₀ := by k_asm) (by with_unfolding_all rfl) (by decide) (by rfl) (by decide) (by rfl) ?_
  lcg_toSrc
  k_steps; unfold Halt
  (with_reducible rename Fr _ _ _ _ => F7); (with_reducible rename News _ _ _ _ => N7)
  refine LCg.CompSrc.range (n := 5) (by rfl) F7 N7 (by assumption) (by decide) (by decide) (by decide) fun g => ?_
  clear F7 N7
  k_steps; unfold Halt
  (with_reducible rename Fr _ _ _ _ => F7); (with_reducible rename News _ _ _ _ => N7)
  repeat ((with_reducible rename _ ≠ _ => q9); clear q9)
  (with_reducible rename _ ∧ _ => q1); clear q1
  repeat ((with_reducible rename _ ∧ _ => q9); cases q9)
  refine told_f (ms := []) (H.push F7 rfl rfl).less4 (News.isList N7 (by k_mem)) (shortAll k0) (tx.bnd _ k0) fun h8 tk8 a8 ev => ?_
  have F8 := Evo.fr F7 ev
  have N8 := Evo.news (News.drop N7) ev
  clear F7 N7
  k_steps; unfold Halt
  (with_reducible rename Fr _ _ _ _ => F7); (with_reducible rename News _ _ _ _ => N7)
  repeat ((with_reducible rename _ ≠ _ => q9); clear q9)
  (with_reducible rename _ ∧ _ => q1); clear q1
  repeat ((with_reducible rename _ ∧ _ => q9); cases q9)
  refine told_f (ms := [m0]) (H.push F7 rfl rfl).less4 (News.isList N7 (by k_mem)) (shortAll k1) (tx.bnd _ k1) fun h8 tk8 a8 ev => ?_
  have F8 := Evo.fr F7 ev
  have N8 := Evo.news (News.drop N7) ev
  clear F7 N7
  k_steps; unfold Halt
  (with_reducible rename Fr _ _ _ _ => F7); (with_reducible rename News _ _ _ _ => N7)
  repeat ((with_reducible rename _ ≠ _ => q9); clear q9)
  (with_reducible rename _ ∧ _ => q1); clear q1
  repeat ((with_reducible rename _ ∧ _ => q9); cases q9)
  refine told_f (ms := [m0, m1]) (H.push F7 rfl rfl).less4 (News.isList N7 (by k_mem)) (shortAll k2) (tx.bnd _ k2) fun h8 tk8 a8 ev => ?_
  have F8 := Evo.fr F7 ev
  have N8 := Evo.news (News.drop N7) ev
  clear F7 N7
  k_steps; unfold Halt
  (with_reducible rename Fr _ _ _ _ => F7); (with_reducible rename News _ _ _ _ => N7)
  repeat ((with_reducible rename _ ≠ _ => q9); clear q9)
  (with_reducible rename _ ∧ _ => q1); clear q1
  repeat ((with_reducible rename _ ∧ _ => q9); cases q9)
  refine told_f (ms := [m0, m1, m2]) (H.push F7 rfl rfl).less4 (News.isList N7 (by k_mem)) (shortAll k3) (tx.bnd _ k3) fun h8 tk8 a8 ev => ?_
  have F8 := Evo.fr F7 ev
  have N8 := Evo.news (News.drop N7) ev
  clear F7 N7
  k_steps; unfold Halt
  (with_reducible rename Fr _ _ _ _ => F7); (with_reducible rename News _ _ _ _ => N7)
  repeat ((with_reducible rename _ ≠ _ => q9); clear q9)
  (with_reducible rename _ ∧ _ => q1); clear q1
  repeat ((with_reducible rename _ ∧ _ => q9); cases q9)
  refine told_f (ms := [m0, m1, m2, m3]) (H.push F7 rfl rfl).less4 (News.isList N7 (by k_mem)) (shortAll k4) (tx.bnd _ k4) fun h8 tk8 a8 ev => ?_
  have F8 := Evo.fr F7 ev
  have N8 := Evo.news (News.drop N7) ev
  clear F7 N7
  k_steps; unfold Halt
  (with_reducible rename Fr _ _ _ _ => F7); (with_reducible rename News _ _ _ _ => N7)
  refine ne5 (N7 _ (.head _)).1 (N7 _ (.tail _ (.head _))).1 (tx.told _ k0) (tx.told _ k1) (tx.told _ k2) (tx.told _ k3) (tx.told _ k4) (tx.ok _ k0) (tx.ok _ k1) (tx.ok _ k2) (tx.ok _ k3) (tx.ok _ k4) (show callerA.units + 3 + 64 < 9900 from by decide) ?_
  have N8 := News.drop N7
  clear N7
  repeat ((with_reducible rename _ ≠ _ => q9); clear q9)
  repeat ((with_reducible rename _ ∧ _ => q9); clear q9)
  k_steps; unfold Halt
  repeat ((with_reducible rename _ ≠ _ => q9); clear q9)
  repeat ((with_reducible rename _ ∧ _ => q9); clear q9)
  refine LCg.ListComp_U (F₀ := by k_asm) (by with_unfolding_all rfl) (by decide) (by rfl) (by decide) (by rfl) ?_
  lcg_toSrc
  k_steps; unfold Halt
  (with_reducible rename Fr _ _ _ _ => F7); (with_reducible rename News _ _ _ _ => N7)
  refine LCg.CompSrc.range (n := 5) (by rfl) F7 N7 (by assumption) (by decide) (by decide) (by decide) fun g => ?_
  clear F7 N7
  k_steps; unfold Halt
  (with_reducible rename Fr _ _ _ _ => F7); (with_reducible rename News _ _ _ _ => N7)
  repeat ((with_reducible rename _ ≠ _ => q9); clear q9)
  (with_reducible rename _ ∧ _ => q1); clear q1
  repeat ((with_reducible rename _ ∧ _ => q9); cases q9)
  refine told_t (ms := []) (H.push F7 rfl rfl).less4 (News.isList N7 (by k_mem)) (shortAll k0) (by simp) (tx.bnd _ k0) fun h8 tk8 a8 ev => ?_
  have F8 := Evo.fr F7 ev
  have N8 := Evo.news (News.drop N7) ev
  clear F7 N7
  k_steps; unfold Halt
  (with_reducible rename Fr _ _ _ _ => F7); (with_reducible rename News _ _ _ _ => N7)
  repeat ((with_reducible rename _ ≠ _ => q9); clear q9)
  (with_reducible rename _ ∧ _ => q1); clear q1
  repeat ((with_reducible rename _ ∧ _ => q9); cases q9)
  refine told_t (ms := [m0]) (H.push F7 rfl rfl).less4 (News.isList N7 (by k_mem)) (shortAll k1) (by simp) (tx.bnd _ k1) fun h8 tk8 a8 ev => ?_
  have F8 := Evo.fr F7 ev
  have N8 := Evo.news (News.drop N7) ev
  clear F7 N7
  k_steps; unfold Halt
  (with_reducible rename Fr _ _ _ _ => F7); (with_reducible rename News _ _ _ _ => N7)
  repeat ((with_reducible rename _ ≠ _ => q9); clear q9)
  (with_reducible rename _ ∧ _ => q1); clear q1
  repeat ((with_reducible rename _ ∧ _ => q9); cases q9)
  refine told_t (ms := [m0, m1]) (H.push F7 rfl rfl).less4 (News.isList N7 (by k_mem)) (shortAll k2) (by simp) (tx.bnd _ k2) fun h8 tk8 a8 ev => ?_
  have F8 := Evo.fr F7 ev
  have N8 := Evo.news (News.drop N7) ev
  clear F7 N7
  k_steps; unfold Halt
  (with_reducible rename Fr _ _ _ _ => F7); (with_reducible rename News _ _ _ _ => N7)
  repeat ((with_reducible rename _ ≠ _ => q9); clear q9)
  (with_reducible rename _ ∧ _ => q1); clear q1
  repeat ((with_reducible rename _ ∧ _ => q9); cases q9)
  refine told_t (ms := [m0, m1, m2]) (H.push F7 rfl rfl).less4 (News.isList N7 (by k_mem)) (shortAll k3) (by simp) (tx.bnd _ k3) fun h8 tk8 a8 ev => ?_
  have F8 := Evo.fr F7 ev
  have N8 := Evo.news (News.drop N7) ev
  clear F7 N7
  k_steps; unfold Halt
  (with_reducible rename Fr _ _ _ _ => F7); (with_reducible rename News _ _ _ _ => N7)
  repeat ((with_reducible rename _ ≠ _ => q9); clear q9)
  (with_reducible rename _ ∧ _ => q1); clear q1
  repeat ((with_reducible rename _ ∧ _ => q9); cases q9)
  refine told_t (ms := [m0, m1, m2, m3]) (H.push F7 rfl rfl).less4 (News.isList N7 (by k_mem)) (shortAll k4) (by simp) (tx.bnd _ k4) fun h8 tk8 a8 ev => ?_
  have F8 := Evo.fr F7 ev
  have N8 := Evo.news (News.drop N7) ev
  clear F7 N7
  k_steps; unfold Halt
  (with_reducible rename Fr _ _ _ _ => F7); (with_reducible rename News _ _ _ _ => N7)
  refine ne5 (N7 _ (.head _)).1 (N7 _ (.tail _ (.head _))).1 (tx.told _ k0) (tx.told _ k1) (tx.told _ k2) (tx.told _ k3) (tx.told _ k4) (tx.ok _ k0) (tx.ok _ k1) (tx.ok _ k2) (tx.ok _ k3) (tx.ok _ k4) (show callerA.units + 3 + 64 < 9900 from by decide) ?_
  have N8 := News.drop N7
  clear N7
  repeat ((with_reducible rename _ ≠ _ => q9); clear q9)
  repeat ((with_reducible rename _ ∧ _ => q9); clear q9)
  k_steps; unfold Halt
  repeat ((with_reducible rename _ ≠ _ => q9); clear q9)
  repeat ((with_reducible rename _ ∧ _ => q9); clear q9)
  refine LCg.ListComp_U (F₀ := by k_asm) (by with_unfolding_all rfl) (by decide) (by rfl) (by decide) (by rfl) ?_
  lcg_toSrc
  k_steps; unfold Halt
  (with_reducible rename Fr _ _ _ _ => F7); (with_reducible rename News _ _ _ _ => N7)
  refine LCg.CompSrc.range (n := 4) (by rfl) F7 N7 (by assumption) (by decide) (by decide) (by decide) fun g => ?_
  clear F7 N7
  k_steps; unfold Halt
  (with_reducible rename Fr _ _ _ _ => F7); (with_reducible rename News _ _ _ _ => N7)
  repeat ((with_reducible rename _ ≠ _ => q9); clear q9)
  (with_reducible rename _ ∧ _ => q1); clear q1
  repeat ((with_reducible rename _ ∧ _ => q9); cases q9)
  refine red_pair (ms := [m1, m2, m3]) (m0 := m0) (H.push F7 rfl rfl).less3 (News.isList N7 (by k_mem)) fun v news h8 tk8 hk8 hc hn => ?_
  obtain ⟨x0r0, x0r1, x0r2, rfl, rfl⟩ := chain3 hc
  have F8 := Fr.keeps F7 hk8
  have w0 := hn _ (.tail _ (.tail _ (.head _)))
  have w1 := hn _ (.tail _ (.head _))
  have w2 := hn _ (.head _)
  have N8 := News.more F8 (News.more F8 (News.more F8 (News.keeps (News.drop N7) hk8) w0.1 (fun es n => by intro e; cases e) (kts_none F7.keep w0.2)) w1.1 (fun es n => by intro e; cases e) (kts_none F7.keep w1.2)) w2.1 (fun es n => by intro e; cases e) (kts_none F7.keep w2.2)
  have ee0 := off_at w0.2 (N7 _ (.tail _ (.head _))).1
  have ee1 := off_at w0.2 (N7 _ (.tail _ (.tail _ (.head _)))).1
  have ee2 := off_at w0.2 (N7 _ (.tail _ (.tail _ (.tail _ (.head _))))).1
  have ee3 := off_at w1.2 (N7 _ (.tail _ (.head _))).1
  have ee4 := off_at w1.2 (N7 _ (.tail _ (.tail _ (.head _)))).1
  have ee5 := off_at w1.2 (N7 _ (.tail _ (.tail _ (.tail _ (.head _))))).1
  have ee6 := off_at w2.2 (N7 _ (.tail _ (.head _))).1
  have ee7 := off_at w2.2 (N7 _ (.tail _ (.tail _ (.head _)))).1
  have ee8 := off_at w2.2 (N7 _ (.tail _ (.tail _ (.tail _ (.head _))))).1
  clear F7 N7 hn hc w0 w1 w2
  k_steps; unfold Halt
  (with_reducible rename Fr _ _ _ _ => F7); (with_reducible rename News _ _ _ _ => N7)
  repeat ((with_reducible rename _ ≠ _ => q9); clear q9)
  (with_reducible rename _ ∧ _ => q1); clear q1
  repeat ((with_reducible rename _ ∧ _ => q9); cases q9)
  refine red_pair (ms := [m2, m3]) (m0 := m1) (H.push F7 rfl rfl).less3 (News.isList N7 (by k_mem)) fun v news h8 tk8 hk8 hc hn => ?_
  obtain ⟨x1r0, x1r1, rfl, rfl⟩ := chain2 hc
  have F8 := Fr.keeps F7 hk8
  have w0 := hn _ (.tail _ (.head _))
  have w1 := hn _ (.head _)
  have N8 := News.more F8 (News.more F8 (News.keeps (News.drop N7) hk8) w0.1 (fun es n => by intro e; cases e) (kts_none F7.keep w0.2)) w1.1 (fun es n => by intro e; cases e) (kts_none F7.keep w1.2)
  have ee0 := off_at w0.2 (N7 _ (.tail _ (.head _))).1
  have ee1 := off_at w0.2 (N7 _ (.tail _ (.tail _ (.head _)))).1
  have ee2 := off_at w0.2 (N7 _ (.tail _ (.tail _ (.tail _ (.head _))))).1
  have ee3 := off_at w1.2 (N7 _ (.tail _ (.head _))).1
  have ee4 := off_at w1.2 (N7 _ (.tail _ (.tail _ (.head _)))).1
  have ee5 := off_at w1.2 (N7 _ (.tail _ (.tail _ (.tail _ (.head _))))).1
  clear F7 N7 hn hc w0 w1
  k_steps; unfold Halt
  (with_reducible rename Fr _ _ _ _ => F7); (with_reducible rename News _ _ _ _ => N7)
  repeat ((with_reducible rename _ ≠ _ => q9); clear q9)
  (with_reducible rename _ ∧ _ => q1); clear q1
  repeat ((with_reducible rename _ ∧ _ => q9); cases q9)
  refine red_pair (ms := [m3]) (m0 := m2) (H.push F7 rfl rfl).less3 (News.isList N7 (by k_mem)) fun v news h8 tk8 hk8 hc hn => ?_
  obtain ⟨x2r0, rfl, rfl⟩ := chain1 hc
  have F8 := Fr.keeps F7 hk8
  have w0 := hn _ (.head _)
  have N8 := News.more F8 (News.keeps (News.drop N7) hk8) w0.1 (fun es n => by intro e; cases e) (kts_none F7.keep w0.2)
  have ee0 := off_at w0.2 (N7 _ (.tail _ (.head _))).1
  have ee1 := off_at w0.2 (N7 _ (.tail _ (.tail _ (.head _)))).1
  have ee2 := off_at w0.2 (N7 _ (.tail _ (.tail _ (.tail _ (.head _))))).1
  clear F7 N7 hn hc w0
  k_steps; unfold Halt
  (with_reducible rename Fr _ _ _ _ => F7); (with_reducible rename News _ _ _ _ => N7)
  repeat ((with_reducible rename _ ≠ _ => q9); clear q9)
  (with_reducible rename _ ∧ _ => q1); clear q1
  repeat ((with_reducible rename _ ∧ _ => q9); cases q9)
  refine red_pair (ms := []) (m0 := m3) (H.push F7 rfl rfl).less3 (News.isList N7 (by k_mem)) fun v news h8 tk8 hk8 hc hn => ?_
  obtain ⟨rfl, rfl⟩ := chain0 hc
  have F8 := Fr.keeps F7 hk8
  have N8 := News.keeps (News.drop N7) hk8
  clear F7 N7 hn hc
  k_steps; unfold Halt
  (with_reducible rename Fr _ _ _ _ => F7); (with_reducible rename News _ _ _ _ => N7)
  refine ne_same (d := .list (D4 m0 m1 m2 m3 ++ [])) (rd_4 (N7.get (by k_mem)) (rd_pair (N7.get (by k_mem)) (rd_pair (N7.get (by k_mem)) (rd_pair (N7.get (by k_mem)) (reads_mval _) (reads_mval _)) (reads_mval _)) (reads_mval _)) (rd_pair (N7.get (by k_mem)) (rd_pair (N7.get (by k_mem)) (reads_mval _) (reads_mval _)) (reads_mval _)) (rd_pair (N7.get (by k_mem)) (reads_mval _) (reads_mval _)) (reads_mval _)) (rd_w4 (N7.get (by k_mem)) (rd_pair (N7.get (by k_mem)) (rd_pair (N7.get (by k_mem)) (rd_pair (N7.get (by k_mem)) (reads_mval _) (reads_mval _)) (reads_mval _)) (reads_mval _)) (rd_pair (N7.get (by k_mem)) (rd_pair (N7.get (by k_mem)) (reads_mval _) (reads_mval _)) (reads_mval _)) (rd_pair (N7.get (by k_mem)) (reads_mval _) (reads_mval _)) (reads_mval _)) (shaped_d4 g0 g1 g2 g3 [] rfl (by decide)) (show callerA.units + 3 + 64 < 9900 from by decide) ?_
  have N8 := News.drop (News.drop (News.drop (News.drop (News.drop (News.drop (News.drop N7))))))
  clear N7
  repeat ((with_reducible rename _ ≠ _ => q9); clear q9)
  repeat ((with_reducible rename _ ∧ _ => q9); clear q9)
  k_steps; unfold Halt
  repeat ((with_reducible rename _ ≠ _ => q9); clear q9)
  repeat ((with_reducible rename _ ∧ _ => q9); clear q9)
  refine LCg.ListComp_U (F₀ := by k_asm) (by with_unfolding_all rfl) (by decide) (by rfl) (by decide) (by rfl) ?_
  lcg_toSrc
  k_steps; unfold Halt
  (with_reducible rename Fr _ _ _ _ => F7); (with_reducible rename News _ _ _ _ => N7)
  refine LCg.CompSrc.range (n := 5) (by rfl) F7 N7 (by assumption) (by decide) (by decide) (by decide) fun g => ?_
  clear F7 N7
  k_steps; unfold Halt
  (with_reducible rename Fr _ _ _ _ => F7); (with_reducible rename News _ _ _ _ => N7)
  repeat ((with_reducible rename _ ≠ _ => q9); clear q9)
  (with_reducible rename _ ∧ _ => q1); clear q1
  repeat ((with_reducible rename _ ∧ _ => q9); cases q9)
  refine paired_cons (ms := [m1, m2, m3]) (m0 := m0) (H.push F7 rfl rfl).less4 (News.isList N7 (by k_mem)) fun v news h8 tk8 hk8 hc hn => ?_
  obtain ⟨x0p0, x0p1, x0p2, rfl, rfl⟩ := chain3 hc
  have F8 := Fr.keeps F7 hk8
  have w0 := hn _ (.tail _ (.tail _ (.head _)))
  have w1 := hn _ (.tail _ (.head _))
  have w2 := hn _ (.head _)
  have N8 := News.more F8 (News.more F8 (News.more F8 (News.keeps (News.drop N7) hk8) w0.1 (fun es n => by intro e; cases e) (kts_none F7.keep w0.2)) w1.1 (fun es n => by intro e; cases e) (kts_none F7.keep w1.2)) w2.1 (fun es n => by intro e; cases e) (kts_none F7.keep w2.2)
  have ee0 := off_at w0.2 (N7 _ (.tail _ (.head _))).1
  have ee1 := off_at w0.2 (N7 _ (.tail _ (.tail _ (.head _)))).1
  have ee2 := off_at w0.2 (N7 _ (.tail _ (.tail _ (.tail _ (.head _))))).1
  have ee3 := off_at w1.2 (N7 _ (.tail _ (.head _))).1
  have ee4 := off_at w1.2 (N7 _ (.tail _ (.tail _ (.head _)))).1
  have ee5 := off_at w1.2 (N7 _ (.tail _ (.tail _ (.tail _ (.head _))))).1
  have ee6 := off_at w2.2 (N7 _ (.tail _ (.head _))).1
  have ee7 := off_at w2.2 (N7 _ (.tail _ (.tail _ (.head _)))).1
  have ee8 := off_at w2.2 (N7 _ (.tail _ (.tail _ (.tail _ (.head _))))).1
  clear F7 N7 hn hc w0 w1 w2
  k_steps; unfold Halt
  (with_reducible rename Fr _ _ _ _ => F7); (with_reducible rename News _ _ _ _ => N7)
  repeat ((with_reducible rename _ ≠ _ => q9); clear q9)
  (with_reducible rename _ ∧ _ => q1); clear q1
  repeat ((with_reducible rename _ ∧ _ => q9); cases q9)
  refine paired_cons (ms := [m2, m3]) (m0 := m1) (H.push F7 rfl rfl).less4 (News.isList N7 (by k_mem)) fun v news h8 tk8 hk8 hc hn => ?_
  obtain ⟨x1p0, x1p1, rfl, rfl⟩ := chain2 hc
  have F8 := Fr.keeps F7 hk8
  have w0 := hn _ (.tail _ (.head _))
  have w1 := hn _ (.head _)
  have N8 := News.more F8 (News.more F8 (News.keeps (News.drop N7) hk8) w0.1 (fun es n => by intro e; cases e) (kts_none F7.keep w0.2)) w1.1 (fun es n => by intro e; cases e) (kts_none F7.keep w1.2)
  have ee0 := off_at w0.2 (N7 _ (.tail _ (.head _))).1
  have ee1 := off_at w0.2 (N7 _ (.tail _ (.tail _ (.head _)))).1
  have ee2 := off_at w0.2 (N7 _ (.tail _ (.tail _ (.tail _ (.head _))))).1
  have ee3 := off_at w1.2 (N7 _ (.tail _ (.head _))).1
  have ee4 := off_at w1.2 (N7 _ (.tail _ (.tail _ (.head _)))).1
  have ee5 := off_at w1.2 (N7 _ (.tail _ (.tail _ (.tail _ (.head _))))).1
  clear F7 N7 hn hc w0 w1
  k_steps; unfold Halt
  (with_reducible rename Fr _ _ _ _ => F7); (with_reducible rename News _ _ _ _ => N7)
  repeat ((with_reducible rename _ ≠ _ => q9); clear q9)
  (with_reducible rename _ ∧ _ => q1); clear q1
  repeat ((with_reducible rename _ ∧ _ => q9); cases q9)
  refine paired_cons (ms := [m3]) (m0 := m2) (H.push F7 rfl rfl).less4 (News.isList N7 (by k_mem)) fun v news h8 tk8 hk8 hc hn => ?_
  obtain ⟨x2p0, rfl, rfl⟩ := chain1 hc
  have F8 := Fr.keeps F7 hk8
  have w0 := hn _ (.head _)
  have N8 := News.more F8 (News.keeps (News.drop N7) hk8) w0.1 (fun es n => by intro e; cases e) (kts_none F7.keep w0.2)
  have ee0 := off_at w0.2 (N7 _ (.tail _ (.head _))).1
  have ee1 := off_at w0.2 (N7 _ (.tail _ (.tail _ (.head _)))).1
  have ee2 := off_at w0.2 (N7 _ (.tail _ (.tail _ (.tail _ (.head _))))).1
  clear F7 N7 hn hc w0
  k_steps; unfold Halt
  (with_reducible rename Fr _ _ _ _ => F7); (with_reducible rename News _ _ _ _ => N7)
  repeat ((with_reducible rename _ ≠ _ => q9); clear q9)
  (with_reducible rename _ ∧ _ => q1); clear q1
  repeat ((with_reducible rename _ ∧ _ => q9); cases q9)
  refine paired_cons (ms := []) (m0 := m3) (H.push F7 rfl rfl).less4 (News.isList N7 (by k_mem)) fun v news h8 tk8 hk8 hc hn => ?_
  obtain ⟨rfl, rfl⟩ := chain0 hc
  have F8 := Fr.keeps F7 hk8
  have N8 := News.keeps (News.drop N7) hk8
  clear F7 N7 hn hc
  k_steps; unfold Halt
  (with_reducible rename Fr _ _ _ _ => F7); (with_reducible rename News _ _ _ _ => N7)
  repeat ((with_reducible rename _ ≠ _ => q9); clear q9)
  (with_reducible rename _ ∧ _ => q1); clear q1
  repeat ((with_reducible rename _ ∧ _ => q9); cases q9)
  refine paired_nil (H.push F7 rfl rfl).less4 (News.isList N7 (by k_mem)) fun h8 tk8 a8 ev => ?_
  have F8 := Evo.fr F7 ev
  have N8 := Evo.news (News.drop N7) ev
  clear F7 N7
  k_steps; unfold Halt
  (with_reducible rename Fr _ _ _ _ => F7); (with_reducible rename News _ _ _ _ => N7)
  refine ne_same (d := .list (D4 m0 m1 m2 m3 ++ [.str (Str.ofString "TypeError")])) (rd_5 (N7.get (by k_mem)) (rd_pair (N7.get (by k_mem)) (rd_pair (N7.get (by k_mem)) (rd_pair (N7.get (by k_mem)) (reads_mval _) (reads_mval _)) (reads_mval _)) (reads_mval _)) (rd_pair (N7.get (by k_mem)) (rd_pair (N7.get (by k_mem)) (reads_mval _) (reads_mval _)) (reads_mval _)) (rd_pair (N7.get (by k_mem)) (reads_mval _) (reads_mval _)) (reads_mval _) (.str _ _)) (rd_w5 (N7.get (by k_mem)) (rd_pair (N7.get (by k_mem)) (rd_pair (N7.get (by k_mem)) (rd_pair (N7.get (by k_mem)) (reads_mval _) (reads_mval _)) (reads_mval _)) (reads_mval _)) (rd_pair (N7.get (by k_mem)) (rd_pair (N7.get (by k_mem)) (reads_mval _) (reads_mval _)) (reads_mval _)) (rd_pair (N7.get (by k_mem)) (reads_mval _) (reads_mval _)) (reads_mval _) (.str _ _)) (shaped_d4 g0 g1 g2 g3 _ (by decide +kernel) (by decide)) (show callerA.units + 3 + 64 < 9900 from by decide) ?_
  repeat ((with_reducible rename _ ≠ _ => q9); clear q9)
  repeat ((with_reducible rename _ ∧ _ => q9); clear q9)
  k_steps; unfold Halt
  (with_reducible rename Fr _ _ _ _ => F7); (with_reducible rename News _ _ _ _ => N7)
  refine told_f (ms := [m2, m1, m0, m3]) (H.push F7 rfl rfl).less4 (News.isList N7 (by k_mem)) (shortAll (kind4 g2 g1 g0 g3)) (tx.bnd _ (kind4 g2 g1 g0 g3)) fun h8 tk8 a8 ev => ?_
  rw [tx.told _ (kind4 g2 g1 g0 g3), tx.turn]
  have F8 := Evo.fr F7 ev
  have N8 := Evo.news N7 ev
  clear F7 N7
  k_steps)
end


end Mine
theorem PySem.Challenge.cw_nq0006_01_holds : PySem.Challenge.rw_nq0006_01.Holds := by
  exact Mine.law_holds
