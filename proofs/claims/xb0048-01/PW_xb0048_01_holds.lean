import PyProof.Rows.All
import Wide.All
import OpenK.AllK
import Wide.FinOn
import PySem.Challenge.RW_xb0048_01
set_option Elab.async false
set_option rowWalk.seconds 0
section
open PySem PySem.W PyProof.Rows
set_option Elab.async false
namespace Mine
set_option maxRecDepth 100000 in
set_option maxHeartbeats 8000000 in
open_top hd for PySem.Challenge.rw_xb0048_01
end Mine
end
section
open PySem PySem.W PyProof.Rows PySem.Calls
set_option Elab.async false
set_option maxRecDepth 100000
namespace Mine
theorem slot_setiter_next : Slot "set_iterator" "__next__" "set_iterator.__next__" :=
  .of (owner := "set_iterator") (n := "__next__") (by rw [typeLookup_type, builtinLookup_eq_fast]; kernel_rfl) (by decide +kernel) (by decide +kernel) (by decide +kernel)
    (by first | exact .inl (by decide +kernel) | exact .inr (by decide +kernel)) (by rw [isSubtype_type]; kernel_rfl)
theorem entry_setiter_next : entryFor table "set_iterator.__next__" = some Builtin.«set_iterator.__next__» := entryFor_of_tree (by kernel_rfl)
theorem args_setiter_next (a : Value) : argsOk "set_iterator.__next__" ⟨[a], []⟩ := by unfold argsOk; kernel_rfl
theorem entry_set_iter : entryFor table "set.__iter__" = some Builtin.«frozenset.__iter__» :=
  entryFor_alias (id' := "frozenset.__iter__") (by kernel_rfl) rfl (by decide +kernel) (by kernel_rfl)
section
variable {M : Model} {A : Around} {E : Value → Shared → Prop} {s : Shared}
theorem choose_any {src : Source} {n : Nat} {Q : Nat → Shared → Prop} (hn : n ≠ 0) (h : ∀ i dr, i < n → Q i { s with drawn := dr }) : wpAny M A (choose src n) Q E s := fun Γ p _ => by
  unfold choose
  rw [Sem.wp_choose]
  exact ⟨hn, h _ _ (Nat.mod_lt _ (Nat.pos_of_ne_zero hn))⟩
theorem perm_eraseIdx {α : Type} : ∀ (xs : List α) (i : Nat) (x : α), xs[i]? = some x → List.Perm xs (x :: xs.eraseIdx i)
  | [], i, x, h => by simp at h
  | y :: xs, 0, x, h => by simp at h; subst h; simp
  | y :: xs, i + 1, x, h => by
    have ih := perm_eraseIdx xs i x (by simpa using h)
    rw [List.eraseIdx_cons_succ]
    exact (List.Perm.cons y ih).trans (List.Perm.swap x y _)
theorem drawOrder_any {α : Type} : ∀ (n : Nat) (xs : List α) {s : Shared} {Q : List α → Shared → Prop}, xs.length = n → (∀ l dr, List.Perm l xs → Q l { s with drawn := dr }) → wpAny M A (drawOrder n xs) Q E s
  | 0, xs, s, Q, hl, h => by
    have e : xs = [] := List.length_eq_zero_iff.mp hl
    subst e
    exact wpAny_pure (h [] s.drawn (List.Perm.refl _))
  | n + 1, [], s, Q, hl, h => by simp at hl
  | n + 1, x :: xs, s, Q, hl, h => by
    show wpAny M A (choose .order (x :: xs).length >>= fun i => match (x :: xs)[i]? with
      | some y => drawOrder n ((x :: xs).eraseIdx i) >>= fun r => pure (y :: r)
      | none => unsupported "internal:drawOrder") Q E s
    refine wpAny_bind (choose_any (by simp) fun i dr hi => ?_)
    have hx : (x :: xs)[i]? = some (x :: xs)[i] := List.getElem?_eq_getElem hi
    rw [hx]
    dsimp only
    have hlen : ((x :: xs).eraseIdx i).length = n := by rw [List.length_eraseIdx_of_lt hi]; simpa using hl
    refine wpAny_bind (drawOrder_any n _ hlen fun l dr' hp => wpAny_pure ?_)
    exact h _ dr' ((List.Perm.cons _ hp).trans (perm_eraseIdx _ i _ hx).symm)
end
theorem pickOrder_go_perm {α : Type} (next : Nat → Nat) : ∀ (fuel k : Nat) (left : List α) (out : Array α), left.length = fuel → List.Perm (pickOrder.go next fuel k left out).toList (out.toList ++ left)
  | 0, k, left, out, hl => by
    have e : left = [] := List.length_eq_zero_iff.mp hl
    subst e
    unfold pickOrder.go
    simp
  | fuel + 1, k, left, out, hl => by
    unfold pickOrder.go
    have hlt : next k % left.length < left.length := Nat.mod_lt _ (by omega)
    have hx : left[next k % left.length]? = some left[next k % left.length] := List.getElem?_eq_getElem hlt
    rw [hx]
    dsimp only
    have hlen : (left.eraseIdx (next k % left.length)).length = fuel := by rw [List.length_eraseIdx_of_lt hlt]; omega
    refine (pickOrder_go_perm next fuel (k + 1) _ _ hlen).trans ?_
    rw [Array.toList_push, List.append_assoc]
    exact List.Perm.append_left _ (perm_eraseIdx _ _ _ hx).symm
theorem pickOrder_perm {α : Type} (next : Nat → Nat) (xs : Array α) : List.Perm (pickOrder next xs).toList xs.toList := by
  unfold pickOrder
  have h := pickOrder_go_perm next xs.size 0 xs.toList #[] (by simp)
  simpa using h
/-- a set of texts as the program makes it: its items are those of ms; it is led; it is not plain once it holds a text -/
def StrSet (prog : Program) (w : World) (o : Obj) (ms : List Str) : Prop :=
  ∃ es ep t, o.ExactSet ∧ o.data = .set es ep t ∧ ElemsOf (strKind prog w) es.toList ∧ (∀ k, k ∈ ms ↔ ∃ e ∈ es.toList, (strKind prog w).is k e.2 = true) ∧ es.size < scanBound ∧ t.fits es.size = true ∧
    (1 ≤ es.size → w.params.followText "set-order" = false → t.led = true) ∧ (1 ≤ es.size → t.plain = false)
theorem StrSet.objOf {prog : Program} {w : World} {o : Obj} {ms : List Str} (h : StrSet prog w o ms) : ∃ n, n < scanBound ∧ o.SetObjOf (strKind prog w) (fun k => decide (k ∈ ms)) n := by
  obtain ⟨es, ep, t, hex, hd, hel, hm, hb, hf, _, _⟩ := h
  exact ⟨es.size, hb, hex, es, ep, t, hd, hel, fun k => by rw [decide_eq_true_eq]; exact hm k, rfl, hf⟩
end Mine
end
section
open PySem PySem.W PyProof.Rows PySem.Calls
set_option Elab.async false
set_option maxRecDepth 100000
namespace Mine
theorem slot_setiter_iter : Slot "set_iterator" "__iter__" "set_iterator.__iter__" :=
  .of (owner := "set_iterator") (n := "__iter__") (by rw [typeLookup_type, builtinLookup_eq_fast]; kernel_rfl) (by decide +kernel) (by decide +kernel) (by decide +kernel)
    (by first | exact .inl (by decide +kernel) | exact .inr (by decide +kernel)) (by rw [isSubtype_type]; kernel_rfl)
theorem entry_setiter_iter : entryFor table "set_iterator.__iter__" = some Builtin.«dict_keyiterator.__iter__» :=
  entryFor_alias (id' := "dict_keyiterator.__iter__") (by kernel_rfl) rfl (by decide +kernel) (by kernel_rfl)
theorem args_setiter_iter (a : Value) : argsOk "set_iterator.__iter__" ⟨[a], []⟩ := by unfold argsOk; kernel_rfl
def IsSetIter (h : Heap) (I : Addr) (f0 : Value) (i : Nat) (S : Addr) (n ep : Nat) : Prop :=
  h.get? I = some { cls := .type "set_iterator", dict := none, data := .fields #[f0, .int (i : Int) 0, .ref S, .int (n : Int) 0, .int (ep : Int) 0], slots := #[] }
section
variable {prog : Program} {w : World} {A : Around} {E : Value → Shared → Prop} {s : Shared}
theorem IsSetIter.typeIs {f0 : Value} {i n ep : Nat} {I S : Addr} (h : IsSetIter s.heap I f0 i S n ep) : s.TypeIs (.ref I) "set_iterator" := ⟨_, h, rfl⟩
theorem setiter_self {f0 : Value} {i n ep : Nat} {I S : Addr} {Q : Value → Shared → Prop} (hit : IsSetIter s.heap I f0 i S n ep) (h : Q (.ref I) s) : wpAny (model prog w) A (pyIter (.ref I)) Q E s := by
  refine wpAny_pyIter_slot hit.typeIs slot_setiter_iter (wpAny_call_entry slot_setiter_iter hit.typeIs entry_setiter_iter ?_ (args_setiter_iter _))
  show wpAny _ _ (ret (.ref I)) _ _ s
  exact wpAny_pure ⟨_, rfl, "set_iterator", _, hit.typeIs, slot_setiter_next.lookup, h⟩
theorem setiter_stop {Q : Option Value → Shared → Prop} {Q' : Fin → Shared → Prop} (hh : A.handled = none) (hQ : ∀ h', (∀ b o, s.heap.get? b = some o → h'.get? b = some o) → Q none { s with heap := h' }) :
    wpAny (model prog w) A.in1 (newExc (Value.type "StopIteration") [] >>= fun e => (raiseNew e : Sem Fin)) Q' (fun e s' =>
      wpAny (model prog w) A (do
          let __do_lift ← isInstance e (Value.type "StopIteration")
          if __do_lift = true then pure none else throw e) Q E s') s := by
  refine wpAny_bind ?_
  simp only [newExc, newTuple]
  refine wpAny_bind (wpAny_newObj_type ?_ (by size_fits))
  refine wpAny_bind (m := firstArgMember _ _) (wpAny_of_eq (a := Value.none) (by first | rfl | (simp only [firstArgMember]; rfl)) ?_)
  refine wpAny_newObj_type ?_ (by size_fits)
  simp only [raiseNew]
  refine wpAny_bind (wpAny_handled ?_)
  rw [show A.in1.handled = none from hh]
  refine wpAny_bind (wpAny_pure (wpAny_throw ?_))
  refine wpAny_bind (wpAny_isInstance (T := "StopIteration") (b := true) ⟨_, Heap.get?_push_size _ rfl, rfl⟩ isSubtype_stop ?_)
  exact wpAny_pure (hQ _ fun b o e => Heap.get?_push_of_some _ (Heap.get?_push_of_some _ e))
/-- the turn of the iterator, where its first field is a place in the table -/
theorem setiter_nextT {slot : Int} {i n ep : Nat} {I S : Addr} {oS : Obj} {es : Array (Int × Value)} {epS : Nat} {t : SetTable} {Q : Option Value → Shared → Prop} (hh : A.handled = none) (hit : IsSetIter s.heap I (.int slot 0) i S n ep)
    (hS : s.heap.get? S = some oS) (hd : oS.data = .set es epS t) (hf : t.fits es.size = true) (hn : es.size = n)
    (h : wpAny (model prog w) A.in1 (setNext S slot.toNat i ep) (fun r s' => s' = s ∧ match r with
      | some (x, next) => ∀ h', IsSetIter h' I (.int (next : Int) 0) (i + 1) S n ep → (∀ b o, b ≠ I → s.heap.get? b = some o → h'.get? b = some o) → Q (some x) { s with heap := h' }
      | none => ∀ h', (∀ b o, b ≠ I → s.heap.get? b = some o → h'.get? b = some o) → Q none { s with heap := h' }) (fun _ _ => False) s) : wpAny (model prog w) A (pyNext (.ref I)) Q E s := by
  unfold pyNext
  refine wpAny_bind (wpAny_attempt (wpAny_callSpecial?_slot (name := Str.ofString "__next__") hit.typeIs slot_setiter_next
    (wpAny_call_entry slot_setiter_next hit.typeIs entry_setiter_next ?_ (args_setiter_next _))))
  unfold Builtin.«set_iterator.__next__»
  refine wpAny_bind (wpAny_pure ?_)
  refine wpAny_bind (wpAny_fieldsOf hit rfl ?_)
  dsimp only
  refine wpAny_bind (wpAny_setEntries_of hS hd hf ?_)
  rw [if_neg (by simp [hn])]
  try dsimp only
  simp only [Int.toNat_natCast]
  refine wpAny_bind (wpAny_mono h (fun r s' hr => ?_) fun _ _ x => x.elim)
  obtain ⟨rfl, hr⟩ := hr
  match r, hr with
  | some (x, next), hr =>
    dsimp only
    refine wpAny_bind (wpAny_setField_rec hit (by simp) fun h1 e1 s1 => ?_)
    refine wpAny_bind (wpAny_setField_rec e1 (by simp) fun h2 e2 s2 => ?_)
    refine wpAny_pure ⟨x, rfl, wpAny_pure (hr h2 ?_ fun b o hb e => s2.extBut b o hb (s1.extBut b o hb e))⟩
    unfold IsSetIter
    rw [e2]
    simp [rawInt]
  | none, hr =>
    dsimp only
    refine wpAny_bind (wpAny_setField_rec hit (by simp) fun h1 e1 s1 => ?_)
    exact setiter_stop hh fun h2 k2 => hr h2 fun b o hb e => k2 b o (s1.extBut b o hb e)
/-- the turn where its first field is the tuple of the places drawn -/
theorem setiter_nextD {i n ep : Nat} {I S T : Addr} {oS : Obj} {es : Array (Int × Value)} {t : SetTable} {ps : List Nat} {k : Nat} {Q : Option Value → Shared → Prop} (hh : A.handled = none) (hit : IsSetIter s.heap I (.ref T) i S n ep)
    (hS : s.heap.get? S = some oS) (hd : oS.data = .set es ep t) (hf : t.fits es.size = true) (hn : es.size = n)
    (hT : s.heap.get? T = some { cls := .type "tuple", data := .seq (ps.map fun (i : Nat) => rawInt i).toArray k })
    (hsome : ∀ p, ps[i]? = some p → ∃ e, es[p]? = some e ∧ ∀ h', IsSetIter h' I (.ref T) (i + 1) S n ep → (∀ b o, b ≠ I → s.heap.get? b = some o → h'.get? b = some o) → Q (some e.2) { s with heap := h' })
    (hnone : ps[i]? = none → ∀ h', (∀ b o, b ≠ I → s.heap.get? b = some o → h'.get? b = some o) → Q none { s with heap := h' }) : wpAny (model prog w) A (pyNext (.ref I)) Q E s := by
  unfold pyNext
  refine wpAny_bind (wpAny_attempt (wpAny_callSpecial?_slot (name := Str.ofString "__next__") hit.typeIs slot_setiter_next
    (wpAny_call_entry slot_setiter_next hit.typeIs entry_setiter_next ?_ (args_setiter_next _))))
  unfold Builtin.«set_iterator.__next__»
  refine wpAny_bind (wpAny_pure ?_)
  refine wpAny_bind (wpAny_fieldsOf hit rfl ?_)
  dsimp only
  refine wpAny_bind (wpAny_setEntries_of hS hd hf ?_)
  rw [if_neg (by simp [hn])]
  try dsimp only
  simp only [Int.toNat_natCast]
  refine wpAny_bind (wpAny_seqItems hT rfl ?_)
  dsimp only
  rw [List.getElem?_toArray, List.getElem?_map]
  cases hp : ps[i]? with
  | some p =>
    obtain ⟨e, he, hr⟩ := hsome p hp
    simp only [Option.map_some, rawInt, Int.toNat_natCast]
    unfold setNextDrawn
    refine wpAny_bind (wpAny_bind (wpAny_setState_of hS hd hf ?_))
    dsimp only
    rw [if_neg (by simp), he]
    refine wpAny_pure ?_
    refine wpAny_bind (wpAny_setField_rec hit (by simp) fun h1 e1 s1 => ?_)
    refine wpAny_pure ⟨e.2, rfl, wpAny_pure (hr h1 ?_ fun b o hb x => s1.extBut b o hb x)⟩
    unfold IsSetIter
    rw [e1]
    simp [rawInt]
  | none =>
    simp only [Option.map_none]
    refine wpAny_bind (wpAny_setField_rec hit (by simp) fun h1 e1 s1 => ?_)
    refine wpAny_bind (wpAny_setField_rec e1 (by simp) fun h2 e2 s2 => ?_)
    exact setiter_stop hh fun h3 k3 => hnone hp h3 fun b o hb x => k3 b o (s2.extBut b o hb (s1.extBut b o hb x))
end
end Mine
end
section
open PySem PySem.W PyProof.Rows PySem.Calls
set_option Elab.async false
set_option maxRecDepth 100000
namespace Mine
def strOf : Value → Str
  | .str x _ => x
  | _ => Str.empty
def ordOf (xs : List (Int × Value)) : List Str := xs.map fun e => strOf e.2
theorem ordOf_at {prog : Program} {w : World} {xs : List (Int × Value)} (h : ElemsOf (strKind prog w) xs) {i : Nat} {e : Int × Value} (he : xs[i]? = some e) : ∃ x t, e.2 = .str x t ∧ (ordOf xs)[i]? = some x := by
  obtain ⟨⟨k, hk, _⟩, _⟩ := h e (List.mem_of_getElem? he)
  obtain ⟨t, ht⟩ := Value.isStrOf_shape hk
  exact ⟨k, t, ht, by rw [ordOf, List.getElem?_map, he, Option.map_some, ht]; rfl⟩
theorem ordOf_mem {prog : Program} {w : World} {xs : List (Int × Value)} (h : ElemsOf (strKind prog w) xs) (x : Str) : x ∈ ordOf xs ↔ ∃ e ∈ xs, (strKind prog w).is x e.2 = true := by
  constructor
  · intro hx
    obtain ⟨e, he, rfl⟩ := List.mem_map.mp hx
    obtain ⟨⟨k, hk, _⟩, _⟩ := h e he
    obtain ⟨t, ht⟩ := Value.isStrOf_shape hk
    refine ⟨e, he, ?_⟩
    rw [ht]; exact strKind_is prog w k t
  · rintro ⟨e, he, hk⟩
    obtain ⟨t, ht⟩ := Value.isStrOf_shape hk
    exact List.mem_map.mpr ⟨e, he, by rw [ht]; rfl⟩
section
variable {prog : Program} {w : World} {A : Around} {E : Value → Shared → Prop} {s : Shared}
def StT (S : Addr) (oS : Obj) (I : Addr) (n ep : Nat) (slotAt : Nat → Int) (i : Nat) (h : Heap) : Prop := IsSetIter h I (.int (slotAt i) 0) i S n ep ∧ h.get? S = some oS
def StD (S : Addr) (oS : Obj) (I T : Addr) (oT : Obj) (n ep : Nat) (i : Nat) (h : Heap) : Prop := IsSetIter h I (.ref T) i S n ep ∧ h.get? S = some oS ∧ h.get? T = some oT
/-- in the table's own road: what setNext answers at each turn is known -/
theorem walksT {S I : Addr} {oS : Obj} {es : Array (Int × Value)} {ep : Nat} {t : SetTable} {xs : List (Int × Value)} {n : Nat} {slotAt : Nat → Int} (hh : A.handled = none) (hSI : S ≠ I) (hd : oS.data = .set es ep t) (hf : t.fits es.size = true) (hn : es.size = n) (hxs : xs.length = n)
    (hnext : ∀ (i : Nat) (s : Shared) (Q : Option (Value × Nat) → Shared → Prop), i ≤ n → s.heap.get? S = some oS → (∀ nx : Nat, (i < n → (nx : Int) = slotAt (i + 1)) → Q ((xs[i]?).map fun e => (e.2, nx)) s) → wpAny (model prog w) A.in1 (setNext S (slotAt i).toNat i ep) Q (fun _ _ => False) s) :
    Walks prog w A I [I, S] [I] n (fun i v => ∃ e, xs[i]? = some e ∧ v = e.2) (StT S oS I n ep slotAt) where
  sub := fun b hb => by simp at hb; simp [hb]
  frame := fun i h h' st hk => ⟨hk I (by simp) _ st.1, hk S (by simp) _ st.2⟩
  item := fun i s Q E hi st hQ => by
    refine setiter_nextT hh st.1 st.2 hd hf hn (hnext i s _ (Nat.le_of_lt hi) st.2 fun nx hnx => ⟨rfl, ?_⟩)
    have hx : xs[i]? = some (xs[i]'(by omega)) := List.getElem?_eq_getElem (by omega)
    rw [hx]
    dsimp only [Option.map_some]
    intro h' hit hk
    rw [hnx hi] at hit
    refine hQ _ h' s.toks ⟨_, hx, rfl⟩ ⟨hit, hk S _ hSI st.2⟩ fun b o hb e => hk b o (fun q => hb (by simp [q])) e
  done := fun s Q E st hQ => by
    refine setiter_nextT hh st.1 st.2 hd hf hn (hnext n s _ (Nat.le_refl _) st.2 fun nx _ => ⟨rfl, ?_⟩)
    have hx : xs[n]? = none := List.getElem?_eq_none (by omega)
    rw [hx]
    dsimp only [Option.map_none]
    intro h' hk
    exact hQ h' s.toks fun b o hb e => hk b o (fun q => hb (by simp [q])) e
  self := fun i s Q E st hQ => setiter_self st.1 hQ
theorem walksD {S I T : Addr} {oS : Obj} {es : Array (Int × Value)} {ep : Nat} {t : SetTable} {ps : List Nat} {n k : Nat} (hh : A.handled = none) (hSI : S ≠ I) (hTI : T ≠ I) (hd : oS.data = .set es ep t) (hf : t.fits es.size = true) (hn : es.size = n) (hps : ps.length = n) (hlt : ∀ p ∈ ps, p < n) :
    Walks prog w A I [I, S, T] [I] n (fun i v => ∃ e, (ps.filterMap (es[·]?))[i]? = some e ∧ v = e.2) (StD S oS I T { cls := .type "tuple", data := .seq (ps.map fun (i : Nat) => rawInt i).toArray k } n ep) where
  sub := fun b hb => by simp at hb; simp [hb]
  frame := fun i h h' st hk => ⟨hk I (by simp) _ st.1, hk S (by simp) _ st.2.1, hk T (by simp) _ st.2.2⟩
  item := fun i s Q E hi st hQ => by
    refine setiter_nextD hh st.1 st.2.1 hd hf hn st.2.2 (fun p hp => ?_) fun hp => ?_
    · have hpn : p < es.size := by rw [hn]; exact hlt p (List.mem_of_getElem? hp)
      have he : es[p]? = some es[p] := Array.getElem?_eq_getElem hpn
      refine ⟨es[p], he, fun h' hit hk => hQ _ h' s.toks ⟨es[p], ?_, rfl⟩ ⟨hit, hk S _ hSI st.2.1, hk T _ hTI st.2.2⟩ fun b o hb e => hk b o (fun q => hb (by simp [q])) e⟩
      have hall : ∀ (l : List Nat), (∀ q ∈ l, q < n) → l.filterMap (es[·]?) = l.map fun q => es.getD q default := by
        intro l
        induction l with
        | nil => intro _; rfl
        | cons q r ih =>
          intro hl
          have hq : q < es.size := by rw [hn]; exact hl q (.head _)
          rw [List.filterMap_cons, Array.getElem?_eq_getElem hq]
          dsimp only
          rw [ih fun z hz => hl z (.tail _ hz), List.map_cons]
          simp [Array.getD, hq]
      rw [hall ps hlt, List.getElem?_map, hp]
      simp [Array.getD, hpn]
    · have : ps[i]? = some (ps[i]'(by omega)) := List.getElem?_eq_getElem (by omega)
      rw [hp] at this; cases this
  done := fun s Q E st hQ => by
    refine setiter_nextD hh st.1 st.2.1 hd hf hn st.2.2 (fun p hp => ?_) fun hp h' hk => ?_
    · have : ps[n]? = none := List.getElem?_eq_none (by omega)
      rw [hp] at this; cases this
    · exact hQ h' s.toks fun b o hb e => hk b o (fun q => hb (by simp [q])) e
  self := fun i s Q E st hQ => setiter_self st.1 hQ
end
end Mine
end
section
open PySem PySem.W PyProof.Rows PySem.Calls
set_option Elab.async false
set_option maxRecDepth 100000
namespace Mine
theorem below_one_lo (j : Nat) : SetTable.below #[j] 0 = 0 := by
  simp [SetTable.below, SetTable.below.go]
theorem below_one_hi (j : Nat) : SetTable.below #[j] (j + 1) = 1 := by
  simp [SetTable.below, SetTable.below.go]
theorem filterMap_range_perm (es : Array (Int × Value)) : (List.range es.size).filterMap (es[·]?) = es.toList := by
  apply List.ext_getElem?
  intro i
  have hall : ∀ (l : List Nat), (∀ q ∈ l, q < es.size) → l.filterMap (es[·]?) = l.map fun q => es.getD q default := by
    intro l
    induction l with
    | nil => intro _; rfl
    | cons q r ih =>
      intro hl
      have hq : q < es.size := hl q (.head _)
      rw [List.filterMap_cons, Array.getElem?_eq_getElem hq]
      dsimp only
      rw [ih fun z hz => hl z (.tail _ hz), List.map_cons]
      simp [Array.getD, hq]
  rw [hall _ fun q hq => List.mem_range.mp hq, List.getElem?_map, Array.getElem?_toList]
  by_cases hi : i < es.size
  · simp [hi, Array.getD]
  · simp [hi]
section
variable {prog : Program} {w : World} {A : Around} {E : Value → Shared → Prop} {s : Shared}
theorem pyIter_strset {S : Addr} {oS : Obj} {ms : List Str} {Q : Value → Shared → Prop} (hh : A.handled = none) (hs : StrSet prog w oS ms) (ho : s.heap.get? S = some oS)
    (h : ∀ (I : Addr) (fp : List Addr) (n : Nat) (P : Nat → Value → Prop) (St : Nat → Heap → Prop) (ord : List Str) (dr : Drawn) (h' : Heap), Walks prog w A I fp [I] n P St → ord.length = n → (∀ x, x ∈ ord ↔ x ∈ ms) →
      (∀ i v, P i v → ∃ x t, v = .str x t ∧ ord[i]? = some x) → (∀ b ∈ fp, b = S ∨ s.heap.objs.size ≤ b) → s.heap.objs.size ≤ I → St 0 h' → (∀ b o, s.heap.get? b = some o → h'.get? b = some o) →
      Q (.ref I) { s with heap := h', drawn := dr }) : wpAny (model prog w) A (pyIter (.ref S)) Q E s := by
  obtain ⟨es, ep, t, hex, hd, hel, hmem, hb, hf, hled, hplain⟩ := hs
  have hT : s.TypeIs (.ref S) "set" := ⟨oS, ho, hex.1⟩
  have hSlt : S < s.heap.objs.size := Heap.lt_size ho
  have hsz : es.size ≤ sizeLine := fits_of_scanBound hb
  refine wpAny_pyIter_slot hT F.slot_set_iter (wpAny_call_entry F.slot_set_iter hT entry_set_iter ?_ (F.args_set_iter_1 _))
  unfold Builtin.«frozenset.__iter__» Builtin.Frozenset.slot0 Builtin.Frozenset.sizeOf Builtin.Frozenset.addrOf
  refine wpAny_bind (wpAny_pure ?_)
  dsimp only
  refine wpAny_bind (wpAny_bind (wpAny_setEntries_of ho hd hf (wpAny_pure ?_)))
  show wpAny _ _ ((do let (es, _, t) ← setState S; let byText ← setsByText; return !byText && (!t.plain && decide (es.size > 1)) : Sem Bool) >>= _) _ _ s
  refine wpAny_bind (wpAny_bind (wpAny_setState_of ho hd hf ?_))
  dsimp only
  unfold setsByText
  refine wpAny_bind (wpAny_bind (wpAny_askSetting (wpAny_pure (wpAny_pure ?_))))
  dsimp only
  have fin : ∀ (xs : List (Int × Value)), List.Perm xs es.toList → ∀ x, x ∈ ordOf xs ↔ x ∈ ms := fun xs hp x => by
    rw [ordOf_mem (hel.perm hp), hmem x]
    exact ⟨fun ⟨e, he, q⟩ => ⟨e, hp.mem_iff.mp he, q⟩, fun ⟨e, he, q⟩ => ⟨e, hp.mem_iff.mpr he, q⟩⟩
  by_cases hdr : (!(model prog w).w.params.followText "set-order" && (!t.plain && decide (es.size > 1))) = true
  · rw [if_pos hdr]
    refine wpAny_bind (drawOrder_any es.size (List.range es.size) (by simp) fun ps dr hp => ?_)
    have hpl : ps.length = es.size := by rw [hp.length_eq, List.length_range]
    refine wpAny_bind (wpAny_newTuple ?_ (by rw [List.length_map, hpl]; exact hsz))
    unfold setEpoch
    have up1 : ∀ b o, s.heap.get? b = some o → (s.heap.push { cls := .type "tuple", data := .seq (ps.map fun (i : Nat) => rawInt i).toArray }).get? b = some o := fun b o e => Heap.get?_push_of_some _ e
    refine wpAny_bind (wpAny_bind (wpAny_setState_of (s := { s with drawn := dr, heap := s.heap.push { cls := .type "tuple", data := .seq (ps.map fun (i : Nat) => rawInt i).toArray } }) (up1 _ _ ho) hd hf (wpAny_pure ?_)))
    refine wpAny_bind (wpAny_newObj_type ?_ (by size_fits))
    dsimp only
    have hz : (s.heap.push { cls := .type "tuple", data := .seq (ps.map fun (i : Nat) => rawInt i).toArray }).objs.size = s.heap.objs.size + 1 := Heap.size_push ..
    rw [hz]
    have hgetI : ((s.heap.push { cls := .type "tuple", data := .seq (ps.map fun (i : Nat) => rawInt i).toArray }).push { cls := .type "set_iterator", dict := none, data := .fields [.ref s.heap.objs.size, rawInt 0, .ref S, rawInt es.size, rawInt ep].toArray }).get? (s.heap.objs.size + 1) =
        some { cls := .type "set_iterator", dict := none, data := .fields [.ref s.heap.objs.size, rawInt 0, .ref S, rawInt es.size, rawInt ep].toArray } := by
      have := Heap.get?_push_size (s.heap.push { cls := .type "tuple", data := .seq (ps.map fun (i : Nat) => rawInt i).toArray }) (o := { cls := .type "set_iterator", dict := none, data := .fields [.ref s.heap.objs.size, rawInt 0, .ref S, rawInt es.size, rawInt ep].toArray }) rfl
      rw [hz] at this; exact this
    refine wpAny_pure ⟨_, rfl, "set_iterator", _, ⟨_, hgetI, rfl⟩, slot_setiter_next.lookup, ?_⟩
    refine h (s.heap.objs.size + 1) _ es.size _ _ (ordOf (ps.filterMap (es[·]?))) dr _ (walksD (T := s.heap.objs.size) (k := 0) hh (Nat.ne_of_lt (Nat.lt_succ_of_lt hSlt)) (Nat.ne_of_lt (Nat.lt_succ_self _)) hd hf rfl hpl (fun p hp' => List.mem_range.mp (hp.mem_iff.mp hp'))) ?_ ?_ ?_ ?_ (Nat.le_succ _) ⟨?_, ?_, ?_⟩ ?_
    · rw [ordOf, List.length_map, (List.Perm.filterMap (es[·]?) hp).length_eq, filterMap_range_perm, Array.length_toList]
    · exact fin _ ((List.Perm.filterMap (es[·]?) hp).trans (filterMap_range_perm es ▸ List.Perm.refl _))
    · rintro i v ⟨e, he, rfl⟩
      exact ordOf_at (prog := prog) (w := w) (hel.perm ((List.Perm.filterMap (es[·]?) hp).trans (filterMap_range_perm es ▸ List.Perm.refl _))) he
    · intro b hb
      simp only [List.mem_cons, List.not_mem_nil, or_false] at hb
      rcases hb with rfl | rfl | rfl
      · exact .inr (Nat.le_succ _)
      · exact .inl rfl
      · exact .inr (Nat.le_refl _)
    · exact hgetI
    · exact Heap.get?_push_of_some _ (up1 _ _ ho)
    · exact Heap.get?_push_of_some _ (Heap.get?_push_size _ rfl)
    · exact fun b o e => Heap.get?_push_of_some _ (up1 _ _ e)
  · rw [if_neg hdr]
    refine wpAny_bind (wpAny_pure ?_)
    unfold setEpoch
    refine wpAny_bind (wpAny_bind (wpAny_setState_of ho hd hf (wpAny_pure ?_)))
    refine wpAny_bind (wpAny_newObj_type ?_ (by size_fits))
    dsimp only
    have hgetI := Heap.get?_push_size s.heap (o := { cls := .type "set_iterator", dict := none, data := .fields [rawInt 0, rawInt 0, .ref S, rawInt es.size, rawInt ep].toArray }) rfl
    refine wpAny_pure ⟨_, rfl, "set_iterator", _, ⟨_, hgetI, rfl⟩, slot_setiter_next.lookup, ?_⟩
    cases hbt : w.params.followText "set-order" with
    | true =>
      have hp := pickOrder_perm (w.params.setOrder S ep) es
      have hxl : (pickOrder (w.params.setOrder S ep) es).toList.length = es.size := by rw [hp.length_eq, Array.length_toList]
      refine h s.heap.objs.size [s.heap.objs.size, S] es.size _ _ (ordOf (pickOrder (w.params.setOrder S ep) es).toList) s.drawn _ (walksT (t := t) (slotAt := fun _ => 0) hh (Nat.ne_of_lt hSlt) hd hf rfl hxl fun i s₁ Q₁ hi hS₁ hQ₁ => ?_) ?_ (fin _ hp) ?_ ?_ (Nat.le_refl _) ⟨hgetI, Heap.get?_push_of_some _ ho⟩ fun b o e => Heap.get?_push_of_some _ e
      · unfold setNext
        refine wpAny_bind (wpAny_setState_of hS₁ hd hf ?_)
        dsimp only
        unfold setsByText
        refine wpAny_bind (wpAny_bind (wpAny_askSetting (wpAny_pure ?_)))
        dsimp only
        rw [if_pos (show (model prog w).w.params.followText "set-order" = true from hbt), if_neg (by simp)]
        unfold setWalk
        refine wpAny_bind (wpAny_bind (wpAny_setState_of hS₁ hd hf ?_))
        dsimp only
        unfold setsByText
        refine wpAny_bind (wpAny_bind (wpAny_askSetting (wpAny_pure ?_)))
        dsimp only
        rw [if_pos (show (model prog w).w.params.followText "set-order" = true from hbt)]
        refine wpAny_bind (wpAny_askSetting (wpAny_pure (wpAny_pure ?_)))
        dsimp only
        rw [← Array.getElem?_toList]
        exact hQ₁ 0 fun _ => rfl
      · rw [ordOf, List.length_map, hxl]
      · rintro i v ⟨e, he, rfl⟩
        exact ordOf_at (prog := prog) (w := w) (hel.perm hp) he
      · intro b hb
        simp only [List.mem_cons, List.not_mem_nil, or_false] at hb
        rcases hb with rfl | rfl
        · exact .inr (Nat.le_refl _)
        · exact .inl rfl
    | false =>
      have hsm : es.size ≤ 1 := by
        refine Nat.not_lt.mp fun hlt => hdr ?_
        rw [show (model prog w).w.params.followText "set-order" = false from hbt, hplain (Nat.le_of_lt hlt)]
        simpa using hlt
      have hpz : t.place.size = es.size := by
        simp only [SetTable.fits, Bool.and_eq_true, beq_iff_eq] at hf
        exact hf.1
      refine h s.heap.objs.size [s.heap.objs.size, S] es.size _ _ (ordOf es.toList) s.drawn _ (walksT (t := t) (xs := es.toList) (slotAt := fun i => if i = 0 then 0 else ((t.place.getD 0 0 + 1 : Nat) : Int)) hh (Nat.ne_of_lt hSlt) hd hf rfl (by simp) fun i s₁ Q₁ hi hS₁ hQ₁ => ?_) ?_ (fin _ (List.Perm.refl _)) ?_ ?_ (Nat.le_refl _) ⟨hgetI, Heap.get?_push_of_some _ ho⟩ fun b o e => Heap.get?_push_of_some _ e
      · unfold setNext
        refine wpAny_bind (wpAny_setState_of hS₁ hd hf ?_)
        dsimp only
        unfold setsByText
        refine wpAny_bind (wpAny_bind (wpAny_askSetting (wpAny_pure ?_)))
        dsimp only
        rw [if_neg (show ¬ (model prog w).w.params.followText "set-order" = true from by rw [show (model prog w).w.params.followText "set-order" = false from hbt]; exact Bool.false_ne_true)]
        have hnd : (!t.plain && decide (es.size > 1)) = false := by
          rw [show decide (es.size > 1) = false from decide_eq_false (Nat.not_lt.mpr hsm), Bool.and_false]
        show wpAny _ _ (if (!t.plain && decide (es.size > 1)) = true then _ else _) _ _ _
        rw [if_neg (by rw [hnd]; exact Bool.false_ne_true)]
        show wpAny _ _ ((if (!t.led && !es.isEmpty) = true then unsupported "set:maker-not-led" else pure ()) >>= _) _ _ _
        rw [if_neg (by
          rcases Nat.eq_zero_or_pos es.size with e0 | e0
          · rw [Array.eq_empty_of_size_eq_zero e0]; simp
          · rw [hled e0 hbt]; simp)]
        refine wpAny_bind (wpAny_pure ?_)
        have e0 : es.size = 0 ∨ es.size = 1 := by omega
        rcases e0 with e0 | e0
        · have hes : es = #[] := Array.eq_empty_of_size_eq_zero e0
          have hi0 : i = 0 := by omega
          subst hi0
          have := hQ₁ 0 (fun hlt => by omega)
          rw [hes] at this ⊢
          simp only [List.getElem?_nil, Option.map_none] at this
          simpa using wpAny_pure this
        · obtain ⟨j, hj⟩ : ∃ j, t.place = #[j] := by
            have h1 : t.place.toList.length = 1 := by rw [Array.length_toList, hpz, e0]
            obtain ⟨j, hj⟩ := List.length_eq_one_iff.mp h1
            exact ⟨j, by rw [← Array.toArray_toList (xs := t.place), hj]⟩
          obtain ⟨e, he⟩ : ∃ e, es = #[e] := by
            have h1 : es.toList.length = 1 := by rw [Array.length_toList, e0]
            obtain ⟨j, hj⟩ := List.length_eq_one_iff.mp h1
            exact ⟨j, by rw [← Array.toArray_toList (xs := es), hj]⟩
          have hi1 : i = 0 ∨ i = 1 := by omega
          rcases hi1 with rfl | rfl
          · have := hQ₁ (j + 1) (fun _ => by simp [hj])
            simp only [if_pos]
            rw [hj, show (0 : Int).toNat = 0 from rfl, below_one_lo]
            rw [he] at this ⊢
            simpa using wpAny_pure this
          · have := hQ₁ 0 (fun hlt => by omega)
            rw [hj]
            simp only [show ¬ (1 : Nat) = 0 from by decide, if_false]
            rw [show ((((#[j] : Array Nat).getD 0 0 + 1 : Nat) : Int)).toNat = j + 1 from by simp, below_one_hi]
            rw [he] at this ⊢
            simpa using wpAny_pure this
      · rw [ordOf, List.length_map, Array.length_toList]
      · rintro i v ⟨e, he, rfl⟩
        exact ordOf_at (prog := prog) (w := w) hel he
      · intro b hb
        simp only [List.mem_cons, List.not_mem_nil, or_false] at hb
        rcases hb with rfl | rfl
        · exact .inr (Nat.le_refl _)
        · exact .inl rfl
end
end Mine
end
section
open PySem PySem.W PyProof.Rows PySem.Calls
set_option Elab.async false
set_option maxRecDepth 100000
namespace Mine
theorem standIn_led (t : SetTable) (n : Nat) : (t.standIn n).led = t.led := rfl
theorem standIn_plain (t : SetTable) (n : Nat) : (t.standIn n).plain = false := rfl
theorem put_led (t : SetTable) (j : Nat) : (t.put j).1.led = t.led := rfl
theorem orStandIn_led (t : SetTable) (n : Nat) : (t.orStandIn n).led = t.led := by
  unfold SetTable.orStandIn
  split <;> rfl
theorem layNew_led (t : SetTable) (es : Array (Int × Value)) (h : Int) (x : Value) : (layNew t es h x).2.1.led = t.led := by
  unfold layNew
  split
  · exact (orStandIn_led _ _).trans rfl
  · rfl
theorem laid_led {mask finger moves : Nat} {led plain : Bool} {hs : Array Int} {r : SetTable × Array Nat} (e : SetTable.laid mask finger moves led plain hs = some r) : r.1.led = led ∧ r.1.plain = plain := by
  unfold SetTable.laid at e
  cases ho : SetTable.layClean mask hs with
  | none => rw [ho] at e; cases e
  | some o =>
    rw [ho] at e
    cases e
    exact ⟨rfl, rfl⟩
theorem relayAll_led (t : SetTable) (es : Array (Int × Value)) (wanted : Nat) (hp : t.plain = false) : (relayAll t es wanted).2.1.led = t.led ∧ (relayAll t es wanted).2.1.plain = false := by
  unfold relayAll
  cases hr : t.relaid (es.map (·.1)) wanted with
  | none => exact ⟨rfl, rfl⟩
  | some r =>
    obtain ⟨t', order⟩ := r
    dsimp only
    have := laid_led hr
    split
    · exact ⟨this.1, this.2.trans hp⟩
    · exact ⟨rfl, rfl⟩
def StrSetN (prog : Program) (w : World) (o : Obj) (ms : List Str) (n : Nat) : Prop :=
  ∃ es ep t, o.ExactSet ∧ o.data = .set es ep t ∧ ElemsOf (strKind prog w) es.toList ∧ (∀ k, k ∈ ms ↔ ∃ e ∈ es.toList, (strKind prog w).is k e.2 = true) ∧ es.size ≤ n ∧ t.fits es.size = true ∧
    (w.params.followText "set-order" = false → t.led = true) ∧ (1 ≤ es.size → t.plain = false)
theorem StrSetN.strSet {prog : Program} {w : World} {o : Obj} {ms : List Str} {n : Nat} (h : StrSetN prog w o ms n) (hn : n < scanBound) : StrSet prog w o ms := by
  obtain ⟨es, ep, t, a, b, c, d, e, f, g, i⟩ := h
  exact ⟨es, ep, t, a, b, c, d, Nat.lt_of_le_of_lt e hn, f, fun _ => g, i⟩
section
variable {prog : Program} {w : World} {A : Around} {E : Value → Shared → Prop} {s : Shared}
theorem strset_add {S : Addr} {oS : Obj} {ms : List Str} {n : Nat} {x : Str} {tk : Tok} {Q : Bool → Shared → Prop} (hs : StrSetN prog w oS ms n) (ho : s.heap.get? S = some oS) (hroom : n + 1 < scanBound)
    (h : ∀ b h' oS', Heap.SameBut S s.heap h' → h'.get? S = some oS' → StrSetN prog w oS' (ms ++ [x]) (n + 1) → Q b { s with heap := h' }) :
    wpAny (model prog w) A (setAddHashed S (.str x tk) ((strKind prog w).hash x)) Q E s := by
  obtain ⟨es, ep, t, hex, hd, hel, hmem, hb, hf, hled, hplain⟩ := hs
  have hkey := strKind_is prog w x tk
  have hsc : (Value.str x tk).scannable = true := rfl
  have hb0 : es.size < scanBound := by omega
  unfold setAddHashed setAddHashedIn
  refine wpAny_holding (wpAny_bind (wpAny_setState_of ho hd hf ?_))
  dsimp only
  rw [byScan_of hsc hb0 hel]
  simp only [↓reduceIte]
  unfold setAddByScan
  refine wpAny_bind ?_
  refine wpAny_bind (wpAny_rule ?_)
  refine wpAny_bind (wpAny_setScan_of hkey ho hd hf hel ?_)
  cases hr : List.findIdx? (fun e => (strKind prog w).is x e.2) es.toList with
  | some j =>
    dsimp only
    obtain ⟨hj, hpj, _⟩ := List.findIdx?_eq_some_iff_getElem.mp hr
    refine wpAny_pure (wpAny_pure ?_)
    have hx : x ∈ ms := (hmem x).mpr ⟨es.toList[j], List.getElem_mem hj, hpj⟩
    refine h false s.heap oS (Heap.SameBut.refl S s.heap) ho ⟨es, ep, t, hex, hd, hel, fun k => ?_, Nat.le_succ_of_le hb, hf, hled, hplain⟩
    rw [List.mem_append, List.mem_singleton, ← hmem k]
    exact ⟨fun hk => hk.elim id fun e => e ▸ hx, .inl⟩
  | none =>
    dsimp only
    have hgw : ∀ (b : Bool) {s₁ : Shared} {Q' : Unit → Shared → Prop}, Q' () s₁ → wpAny (model prog w) A (match b with | true => rule "set.scan.the-table-gave-way" | false => pure ()) Q' E s₁ :=
      fun b s₁ Q' hq => by cases b <;> first | exact wpAny_pure hq | exact wpAny_rule hq
    have hperm := layNew_perm t es ((strKind prog w).hash x) (.str x tk)
    have hfits := layNew_fits t es ((strKind prog w).hash x) (.str x tk)
    have hl1 := layNew_led t es ((strKind prog w).hash x) (.str x tk)
    generalize hL : layNew t es ((strKind prog w).hash x) (.str x tk) = L at hperm hfits hl1 ⊢
    obtain ⟨es1, t1, wasDummy, gave⟩ := L
    dsimp only at hperm hfits hl1 ⊢
    rw [Array.toList_push] at hperm
    have hel1 : ElemsOf (strKind prog w) es1.toList := (hel.push hkey hsc).perm hperm
    have hmem1 : ∀ k, k ∈ ms ++ [x] ↔ ∃ e ∈ es1.toList, (strKind prog w).is k e.2 = true := fun k => by
      have := mem_push_iff (S := fun k => decide (k ∈ ms)) hkey (fun k' => by rw [decide_eq_true_eq]; exact hmem k') hperm k
      rw [← this, Bool.or_eq_true, decide_eq_true_eq, decide_eq_true_eq, List.mem_append, List.mem_singleton]
    have hsz1 : es1.size = es.size + 1 := by rw [← Array.length_toList, hperm.length_eq, List.length_append, Array.length_toList]; rfl
    have hb1 : es1.size < scanBound := by omega
    refine wpAny_bind (hgw _ ?_)
    -- the end, from a table t2 that is not plain
    have tail : ∀ t2 : SetTable, t2.plain = false → t2.led = t.led → t2.fits es1.size = true → wpAny (model prog w) A (do
        storeSet S es1 t2
        if (!wasDummy && t2.tooFull) = true then do
            (match (relayAll t2 es1 (SetTable.grown es1.size)).2.2 with | true => rule "set.scan.the-table-gave-way" | false => pure ())
            storeSet S (relayAll t2 es1 (SetTable.grown es1.size)).1 (relayAll t2 es1 (SetTable.grown es1.size)).2.1
            pure (some true)
          else pure (some true)) (fun a s' => wpAny (model prog w) A (match a with | some added => pure added | none => setAddHashedIn S (.str x tk) ((strKind prog w).hash x) 99999) Q E s') E s := by
      intro t2 hp2 hl2 hf2
      refine wpAny_bind (wpAny_storeSet_of ho hd ?_ (fits_of_scanBound hb1))
      have hg1 : (s.heap.update S (Obj.putSet es1 t2)).get? S = some { oS with data := .set es1 (ep + 1) t2 } := by
        have := Heap.get?_update_self (Obj.putSet es1 t2) ho (by rw [putSet_of es1 t2 hd]; rfl)
        rw [putSet_of es1 t2 hd] at this; exact this
      have hsb1 := Heap.SameBut.update s.heap S (Obj.putSet es1 t2)
      split
      · have hp := relayAll_perm t2 es1 (SetTable.grown es1.size)
        have hfr := relayAll_fits t2 es1 (SetTable.grown es1.size)
        have hlr := relayAll_led t2 es1 (SetTable.grown es1.size) hp2
        generalize hRl : relayAll t2 es1 (SetTable.grown es1.size) = Rl at hp hfr hlr ⊢
        obtain ⟨es2, t3, gave2⟩ := Rl
        dsimp only at hp hfr hlr ⊢
        have hsz : es2.size = es1.size := by rw [← Array.length_toList, hp.length_eq, Array.length_toList]
        refine wpAny_bind (hgw _ ?_)
        refine wpAny_bind (wpAny_storeSet_of hg1 rfl ?_ (fits_of_scanBound (by rw [hsz]; exact hb1)))
        have hg2 : ((s.heap.update S (Obj.putSet es1 t2)).update S (Obj.putSet es2 t3)).get? S = some { oS with data := .set es2 (ep + 1 + 1) t3 } := by
          have := Heap.get?_update_self (Obj.putSet es2 t3) hg1 (by rw [putSet_of es2 t3 rfl]; rfl)
          rw [putSet_of es2 t3 rfl] at this; exact this
        refine wpAny_pure (wpAny_pure (h true _ _ (hsb1.trans (Heap.SameBut.update _ S _)) hg2 ⟨es2, ep + 1 + 1, t3, hex, rfl, hel1.perm hp, fun k => ?_, by omega, hfr, fun q => ?_, fun _ => hlr.2⟩))
        · rw [hmem1 k]
          exact ⟨fun ⟨e, he, q⟩ => ⟨e, hp.mem_iff.mpr he, q⟩, fun ⟨e, he, q⟩ => ⟨e, hp.mem_iff.mp he, q⟩⟩
        · rw [hlr.1, hl2]; exact hled q
      · refine wpAny_pure (wpAny_pure (h true _ _ hsb1 hg1 ⟨es1, ep + 1, t2, hex, rfl, hel1, hmem1, by omega, hf2, fun q => ?_, fun _ => hp2⟩))
        rw [hl2]; exact hled q
    split
    · refine wpAny_bind ?_
      rw [hashByValue_scannable 8 hsc]
      refine wpAny_pure ?_
      exact tail _ rfl hl1 (SetTable.fits_plain_off hfits)
    · rename_i hpl
      refine wpAny_bind (wpAny_pure ?_)
      simp only [↓reduceIte]
      exact tail t1 (by simpa using hpl) hl1 hfits
theorem strset_empty {led : Bool} : StrSet prog w { cls := .type "set", dict := none, data := .set #[] 0 (.fresh 0 0 led) } [] :=
  ⟨#[], 0, _, ⟨rfl, rfl, rfl⟩, rfl, fun e he => by simp at he, fun k => by simp, by decide, by rfl, fun h => by simp at h, fun h => by simp at h⟩
theorem setloop {R : Result → Shared → Prop} {I S : Addr} {fp wr : List Addr} {G : Array GenState → Array GenState → Prop} {n : Nat} {P : Nat → Value → Prop} {St : Nat → Shared → Prop} (W : WalksS prog w A.in1 I fp wr G n P St) (hSf : S ∉ fp)
    (xs : List Str) (hxs : xs.length = n) (hval : ∀ i v, P i v → ∃ t, v = .str (xs.getD i Str.empty) t) (hb : n + 1 < scanBound) :
    ∀ (k i : Nat) (s : Shared) (oS : Obj), n - i = k → i ≤ n → St i s → s.heap.get? S = some oS → StrSetN prog w oS (xs.take i) i →
      (∀ s' oS', Moved (S :: wr) G s s' → s'.heap.get? S = some oS' → StrSetN prog w oS' xs n → R (.ok (.ret .none)) s') →
      codeAny (model prog w) A (.builtin "set.update.loop" ⟨[.ref S, .ref I], []⟩) R s := by
  have hSw : S ∉ wr := fun h => hSf (W.sub _ h)
  have hsub : ∀ b ∈ wr, b ∈ S :: wr := fun b hb => List.mem_cons_of_mem _ hb
  intro k
  induction k with
  | zero =>
    intro i s oS hk hi hst ho hS hR
    have hin : i = n := by omega
    subst hin
    refine codeAny_builtin F.entry_set_update_loop ?_
    rw [Around.under_plainId F.plain_set_update_loop _]
    show wpAny _ A.in1 (pyNext (.ref I) >>= _) _ _ s
    refine wpAny_bind (W.done s _ _ hst fun s' hm => ?_)
    show wpAny _ A.in1 (ret Value.none) _ _ s'
    refine wpAny_pure (hR s' oS (hm.mono hsub) (hm.heap S _ hSw ho) ?_)
    rw [List.take_of_length_le (by omega)] at hS
    exact hS
  | succ k ih =>
    intro i s oS hk hi hst ho hS hR
    have hlt : i < n := by omega
    refine codeAny_builtin F.entry_set_update_loop ?_
    rw [Around.under_plainId F.plain_set_update_loop _]
    show wpAny _ A.in1 (pyNext (.ref I) >>= _) _ _ s
    refine wpAny_bind (W.item i s _ _ hlt hst fun v s' hP hst' hm => ?_)
    obtain ⟨t, rfl⟩ := hval i v hP
    show wpAny _ A.in1 (holding [Value.str (xs.getD i Str.empty) t] (setAdd S (.str (xs.getD i Str.empty) t)) >>= _) _ _ s'
    refine wpAny_bind (wpAny_holding ?_)
    unfold setAdd
    refine wpAny_holding ?_
    refine wpAny_bind ((strKind prog w).pyHash (k := xs.getD i Str.empty) (strKind_is _ _ _ _) ?_)
    refine strset_add (s := { s' with toks := s'.toks + 1 }) hS (hm.heap S _ hSw ho) (by omega) fun b h' oS' hsb ho' hS' => ?_
    have htake : xs.take i ++ [xs.getD i Str.empty] = xs.take (i + 1) := by
      have hil : i < xs.length := by omega
      rw [List.take_add_one, List.getElem?_eq_getElem hil, List.getD_eq_getElem?_getD, List.getElem?_eq_getElem hil]
      rfl
    rw [htake] at hS'
    refine wpAny_pure ⟨plainId_quiet F.plain_set_update_loop _, ih (i + 1) _ oS' (by omega) hlt (W.frame _ s' _ _ hst' (Nat.le_succ _) fun b hb o e => ?_) ho' hS' fun s'' oS'' hm'' ho'' hS'' => ?_⟩
    · rw [hsb.2 b (fun h : b = S => hSf (by rw [← h]; exact hb))]; exact e
    · refine hR s'' oS'' (Moved.trans W.gtrans ((hm.mono hsub).then_heap (Nat.le_succ _) fun b o hb e => ?_) hm'') ho'' hS''
      rw [hsb.2 b (fun h : b = S => hb (by rw [h]; exact List.mem_cons_self))]; exact e
theorem code_set_new_led (a : Value) {Q₁ : Value → Shared → Prop}
    (h : Q₁ (.ref s.heap.objs.size) { s with heap := s.heap.push { cls := .type "set", dict := none, data := .set #[] 0 (.fresh 0 0 (!w.params.followText "set-order")) } }) :
    codeAny (model prog w) A (.call (.builtin "set.__new__") ⟨[.type "set", a], []⟩) (wants Q₁ E) s := by
  refine codeAny_of_tree ?_
  show wpAny _ A.in1 (do checkBuiltinCall "set.__new__" ⟨[.type "set", a], []⟩; again (.builtin "set.__new__" ⟨[.type "set", a], []⟩)) _ _ s
  refine wpAny_bind (wpAny_of_eq (F.newCall_set_1 a) (wpAny_pure ⟨plainId_quiet F.plain_set_new _, codeAny_builtin F.entry_set_new ?_⟩))
  rw [Around.under_plainId F.plain_set_new _]
  unfold Builtin.«set.__new__» Builtin.Frozenset.newClass
  have hsub := sub_set_self
  obtain ⟨hp, g, d, tk, os⟩ := s
  dsimp only
  wp_walk
  refine wpAny_askSetting (wpAny_pure ?_)
  dsimp only
  simp only [newObj]
  refine wpAny_bind (wpAny_alloc (wpAny_pure ?_))
  exact wpAny_pure h
set_option maxHeartbeats 3200000 in
theorem call_set_strs {l : Addr} {items : Array Value} {xs : List Str} {Q : Value → Shared → Prop} (hh : A.handled = none) (hl : s.heap.IsList l items) (hxs : xs.length = items.size)
    (hi : ∀ (i : Nat) (v : Value), items[i]? = some v → ∃ t, v = Value.str (xs.getD i Str.empty) t) (hb : items.size + 1 < scanBound)
    (h : ∀ (h' : Heap) (tk : Nat) oS, h'.get? s.heap.objs.size = some oS → StrSet prog w oS xs → (∀ b o, b < s.heap.objs.size → s.heap.get? b = some o → h'.get? b = some o) → Q (.ref s.heap.objs.size) { s with heap := h', toks := tk }) :
    wpAny (model prog w) A (call (.type "set") [.ref l]) Q E s := by
  obtain ⟨c, tl, hmro⟩ := F.called_set.mro
  have hmade := F.called_set.made
  have hsub := F.called_set.sub
  refine wpAny_call (codeAny_of_tree ?_)
  show wpAny _ _ (callAny (.type "set") _) _ _ _
  refine wpAny_pure ⟨Code.quiet_builtin _ (by decide +kernel), codeAny_builtin F.entry_type_call ?_⟩
  rw [Around.under_plain (weight_type_call_type "set" [.ref l] []) rfl]
  have h1 := F.called_set.notType
  have h2 := F.called_set.canCreate
  have hct := F.typeCall_set_1 (.ref l)
  generalize hled : (!w.params.followText "set-order") = led
  repeat (any_goals (first | assumption | wp_step))
  refine codeAny_mono (code_set_new_led (.ref l) (E := E) (Q₁ := fun obj s₁ => obj = .ref s.heap.objs.size ∧ s₁ = { s with heap := s.heap.push { cls := .type "set", dict := none, data := .set #[] 0 (.fresh 0 0 led) } }) ⟨rfl, by rw [hled]⟩) fun r s₁ hr => ?_
  cases r with
  | error e => exact hr
  | ok fl =>
    cases fl with
    | ret obj =>
      obtain ⟨rfl, rfl⟩ := hr
      have hS : (s.heap.push { cls := .type "set", dict := none, data := .set #[] 0 (.fresh 0 0 led) }).get? s.heap.objs.size = some { cls := .type "set", dict := none, data := .set #[] 0 (.fresh 0 0 led) } := Heap.get?_push_size _ rfl
      have hT : Shared.TypeIs { s with heap := s.heap.push { cls := .type "set", dict := none, data := .set #[] 0 (.fresh 0 0 led) } } (.ref s.heap.objs.size) "set" := ⟨_, hS, rfl⟩
      have hli := F.called_set.init.lookup
      have hbi := F.called_set.init.bind (.ref s.heap.objs.size)
      repeat (any_goals (first | assumption | wp_step))
      refine codeAny_mono (codeAny_call_builtin (R := wants (fun r s₂ => r = .none ∧ ∃ h' tk oS, s₂ = { s with heap := h', toks := tk } ∧ h'.get? s.heap.objs.size = some oS ∧ StrSet prog w oS xs ∧
          (∀ b o, b < s.heap.objs.size → s.heap.get? b = some o → h'.get? b = some o)) E) F.called_set.init.plain F.entry_set_init (check_set_init_1 hT ?_)) fun r₂ s₂ hr₂ => ?_
      · obtain ⟨ol, hol, hcl, nl, hdl⟩ := hl
        obtain ⟨ocls, odict, odata, oslots⟩ := ol
        simp only at hcl hdl
        subst hcl; subst hdl
        have hol' : (s.heap.push { cls := .type "set", dict := none, data := .set #[] 0 (.fresh 0 0 led) }).get? l = some { cls := .type "list", dict := odict, data := .seq items nl, slots := oslots } := Heap.get?_push_of_some _ hol
        have hsls := F.sub_list_set
        have hslf := F.sub_list_frozenset
        have hne : (Value.type "list" == Value.type "dict") = false := by decide
        have hl1 : (s.heap.push { cls := .type "set", dict := none, data := .set #[] 0 (.fresh 0 0 led) }).IsList l items := ⟨_, hol', rfl, nl, rfl⟩
        unfold Builtin.«set.__init__» noKeywords Builtin.Frozenset.updateFrom
        generalize hPI : pyIter = PI
        wp_walk
        subst hPI
        refine wpAny_pyIter_list hl1 ?_
        refine wpAny_bind (wpAny_runValue ?_)
        have hlS : l < s.heap.objs.size := Heap.lt_size hol
        have hh3 : A.in1.in1.in1.handled = none := by simp [hh]
        have hneI : l ≠ (s.heap.push { cls := .type "set", dict := none, data := .set #[] 0 (.fresh 0 0 led) }).objs.size := by
          rw [Heap.size_push]; exact Nat.ne_of_lt (Nat.lt_succ_of_lt hlS)
        have hSf : s.heap.objs.size ∉ [(s.heap.push { cls := .type "set", dict := none, data := .set #[] 0 (.fresh 0 0 led) }).objs.size, l] := by
          rw [Heap.size_push]; simp only [List.mem_cons, List.mem_singleton, List.not_mem_nil, or_false, not_or]
          exact ⟨Nat.ne_of_lt (Nat.lt_succ_self _), Nat.ne_of_gt hlS⟩
        refine setloop ((Walks.list hh3 _ l hneI items).toS) hSf xs hxs hi hb (items.size - 0) 0 _ { cls := .type "set", dict := none, data := .set #[] 0 (.fresh 0 0 led) } (by omega) (Nat.zero_le _)
          ⟨⟨_, Heap.get?_push_size _ rfl, rfl, rfl⟩, (hl1.push _)⟩ (Heap.get?_push_of_some _ hS) ?hS0 ?hR
        case hS0 =>
          exact ⟨#[], 0, _, ⟨rfl, rfl, rfl⟩, rfl, fun e he => by simp at he, fun k => by simp, by simp, by rfl, fun q => by rw [← hled, q]; rfl, fun q => by simp at q⟩
        case hR =>
          intro s' oS hm ho hS'
          obtain ⟨h', g', d', tk', os'⟩ := s'
          have eg : g' = s.gens := hm.gens
          have ed : d' = s.drawn := hm.drawn
          have eo : os' = s.os := hm.os
          subst eg; subst ed; subst eo
          show wpAny _ _ _ _ _ _
          refine wpAny_pure ?_
          show wpAny _ _ (ret Value.none) _ _ _
          refine wpAny_pure ⟨rfl, h', tk', oS, rfl, ho, hS'.strSet (by omega), fun b o hb e => ?_⟩
          have hb1 : b ≠ s.heap.objs.size := Nat.ne_of_lt hb
          have hb2 : b ≠ (s.heap.push { cls := .type "set", dict := none, data := .set #[] 0 (.fresh 0 0 led) }).objs.size := by
            rw [Heap.size_push]; exact Nat.ne_of_lt (Nat.lt_succ_of_lt hb)
          exact hm.heap b o (by simp only [List.mem_cons, List.mem_singleton, List.not_mem_nil, or_false, not_or]; exact ⟨hb1, hb2⟩) (Heap.get?_push_of_some _ (Heap.get?_push_of_some _ e))
      · cases r₂ with
        | error e => exact hr₂
        | ok fl₂ =>
          cases fl₂ with
          | ret r =>
            obtain ⟨rfl, h', tk, oS, rfl, ho', hS', hk'⟩ := hr₂
            repeat (any_goals (first | assumption | wp_step))
            exact h _ _ _ ho' hS' hk'
          | _ => exact hr₂.elim
    | _ => exact hr.elim
end
end Mine
end
section
open PySem PySem.W PyProof.Rows PySem.Calls
set_option Elab.async false
set_option maxRecDepth 100000
namespace Mine
section
variable {prog : Program} {w : World} {A : Around} {E : Value → Shared → Prop} {s : Shared} {h₀ : Heap} {L : Addr} {m : Str → Option Value} {news : List (Addr × Obj)}
theorem call_set_N {l : Addr} {vs : List Value} {xs : List Str} {nn : Nat} {Q : Value → Shared → Prop} (hh : A.handled = none) (F : Fr h₀ L s.heap m) (N : News h₀ L s.heap news) (hl : (l, listOf vs.toArray nn) ∈ news) (hv : StrsAre vs xs) (hb : xs.length ≤ 100)
    (h : ∀ S h' tk oS, Fr h₀ L h' m → News h₀ L h' ((S, oS) :: news) → (∀ p ∈ news, p.1 < S) → StrSet prog w oS xs → Q (.ref S) { s with heap := h', toks := tk }) :
    wpAny (model prog w) A (call (.type "set") [.ref l]) Q E s := by
  have hlen := hv.length
  have hls : s.heap.IsList l vs.toArray := ⟨_, (N _ hl).1, rfl, nn, rfl⟩
  obtain ⟨oL, _, _, hL, _⟩ := F.ns
  have hLlt : L < s.heap.objs.size := Heap.lt_size hL
  refine call_set_strs hh hls (xs := xs) (by simp [hlen]) (fun i v hx => ?_) (by rw [List.size_toArray, hlen]; unfold scanBound; omega) fun h' tk oS ho hS hk => ?_
  · obtain ⟨y, t, rfl, hy⟩ := hv.item i v (by simpa using hx)
    exact ⟨t, by rw [List.getD_eq_getElem?_getD, hy]; rfl⟩
  · have up : ∀ b o, s.heap.get? b = some o → h'.get? b = some o := fun b o e => hk b o (Heap.lt_size e) e
    refine h _ h' tk oS (F.keeps up) (fun p hp => ?_) (fun p hp => Heap.lt_size (N p hp).1) hS
    rcases List.mem_cons.mp hp with rfl | hp
    · refine ⟨ho, Nat.ne_of_gt hLlt, ?_⟩
      cases hq : h₀.get? s.heap.objs.size with
      | none => rfl
      | some o' => exact absurd (Heap.lt_size (F.keep _ _ hq)) (Nat.lt_irrefl _)
    · exact ⟨up _ _ (N p hp).1, (N p hp).2⟩
end
/-- the end of a searching turn: it leaves, or it goes on with everything as it was -/
def SrchPost (h₀ : Heap) (L : Addr) (x : Str) (m₀ : Str → Option Value) (keep : List (Addr × Obj)) (no : Prop) (s₁ : Shared) (Q : Flow → Shared → Prop) (f : Flow) (s₂ : Shared) : Prop :=
  match f with
  | .ret v => Q (.ret v) s₂
  | .brk => Q .next s₂
  | _ => no ∧ ∃ h' tk m' news', s₂ = { s₁ with heap := h', toks := tk } ∧ Fr h₀ L h' m' ∧ News h₀ L h' news' ∧ (∀ p ∈ keep, p ∈ news') ∧ ∀ z, z ≠ x → m' z = m₀ z
theorem srch_next {h₀ : Heap} {L : Addr} {x : Str} {m₀ m' : Str → Option Value} {keep news' : List (Addr × Obj)} {no : Prop} {s₁ : Shared} {Q : Flow → Shared → Prop} {h' : Heap} {tk : Nat} (hno : no) (F : Fr h₀ L h' m') (N : News h₀ L h' news')
    (hk : ∀ p ∈ keep, p ∈ news') (hm : ∀ z, z ≠ x → m' z = m₀ z) : SrchPost h₀ L x m₀ keep no s₁ Q .next { s₁ with heap := h', toks := tk } := ⟨hno, h', tk, m', news', rfl, F, N, hk, hm⟩
section
variable {prog : Program} {w : World} {A : Around} {E : Value → Shared → Prop} {s : Shared} {env : Env} {h₀ : Heap} {x : Str} {body : List Stmt} {Q : Flow → Shared → Prop} {m₀ : Str → Option Value} {news : List (Addr × Obj)}
theorem search_loop {I : Addr} {fp : List Addr} {n : Nat} {P : Nat → Value → Prop} {St : Nat → Heap → Prop} {ord : List Str} (no : Str → Prop) (W : Walks prog w A I fp [I] n P St) (hn : ord.length = n) (hP : ∀ i v, P i v → ∃ y t, v = Value.str y t ∧ ord[i]? = some y)
    (hLf : env.locals ∉ fp) (hI : h₀.get? I = none) (hIn : ∀ p ∈ news, p.1 ≠ I) (hfp : ∀ b ∈ fp, ∀ p ∈ news, b = p.1 → ∃ o, (b, o) ∈ news ∧ ∀ q ∈ news, q.1 = b → q.2 = o)
    (hst : St 0 s.heap) (F : Fr h₀ env.locals s.heap m₀) (N : News h₀ env.locals s.heap news)
    (turn : ∀ y t h tk own (u : Str → Option Value), y ∈ ord → OwnOff own (news.map (·.1)) → Fr h₀ env.locals h (fun z => if z = x then some (.str y t) else m₀ z) → News h₀ env.locals h (news ++ own) →
      wpAny (model prog w) A (execs body env) (SrchPost h₀ env.locals x m₀ (news ++ own) (no y) { s with heap := h, toks := tk } Q) E { s with heap := h, toks := tk })
    (done : (∀ y ∈ ord, no y) → ∀ (u : Str → Option Value) h tk, Fr h₀ env.locals h (fun z => if z = x then u z else m₀ z) → News h₀ env.locals h news → Q .next { s with heap := h, toks := tk }) :
    LoopAtV prog w A h₀ env x body Q E (.ref I) s := by
  refine ⟨I, fp, [I], n, P, St, m₀, news, (fun i m nx => nx = news ∧ (∀ z, z ≠ x → m z = m₀ z) ∧ ∀ y ∈ ord.take i, no y), rfl, W, hLf, ?_, ?_, hst, F, N, ⟨rfl, fun _ _ => rfl, fun y hy => by simp at hy⟩, ?_, ?_⟩
  · intro b hb
    rw [List.mem_singleton.mp hb]; exact hI
  · intro p hp hm
    exact hIn p hp (List.mem_singleton.mp hm)
  · rintro i v m₁ news₁ s₁ own ⟨hh', tk', rfl⟩ hin hPv ⟨rfl, hm, hno⟩ hoff hown hget hmem _ F₁ N₁
    obtain ⟨y, t, rfl, hy⟩ := hP i v hPv
    -- what is the loop's own, off the ledger
    let own' := own.filter fun p => !decide (p.1 ∈ news₁.map (·.1))
    have hsep : OwnOff own' (news₁.map (·.1)) := by
      intro p hp b hb e
      have h1 := (List.mem_filter.mp hp).2
      simp only [Bool.not_eq_true', decide_eq_false_iff_not] at h1
      exact h1 (e ▸ hb)
    have em : (fun z => if z = x then some (Value.str y t) else m₁ z) = fun z => if z = x then some (Value.str y t) else m₀ z := by
      funext z
      by_cases h1 : z = x
      · simp [h1]
      · simp only [if_neg h1]; exact hm z h1
    rw [em] at F₁
    have N₂ : News h₀ env.locals hh' (news₁ ++ own') := fun p hp => N₁ p ((List.mem_append.mp hp).elim (fun h => List.mem_append.mpr (.inr h)) fun h => List.mem_append.mpr (.inl ((List.mem_filter.mp h).1)))
    refine wpAny_mono (turn y t hh' tk' own' m₁ (List.mem_of_getElem? hy) hsep F₁ N₂) (fun f s₂ p => ?_) fun _ _ e => e
    have fin : (no y ∧ ∃ h' tk m' news', s₂ = { s with heap := h', toks := tk } ∧ Fr h₀ env.locals h' m' ∧ News h₀ env.locals h' news' ∧ (∀ p ∈ news₁ ++ own', p ∈ news') ∧ ∀ z, z ≠ x → m' z = m₀ z) →
        LoopStepU h₀ env.locals [I] own (fun m nx => nx = news₁ ∧ (∀ z, z ≠ x → m z = m₀ z) ∧ ∀ y ∈ ord.take (i + 1), no y) { s with heap := hh', toks := tk' } .next s₂ := by
      rintro ⟨hn', h', tk, m', news', e, F', N', hk, hm'⟩
      refine ⟨rfl, h', tk, m', news₁, e, F', fun p hp => ?_, hoff, rfl, hm', fun z hz => ?_⟩
      · rcases List.mem_append.mp hp with h | h
        · by_cases hin : p.1 ∈ news₁.map (·.1)
          · obtain ⟨q, hq, e⟩ := List.mem_map.mp hin
            have h2 : hh'.get? p.1 = some p.2 := hget p h
            have h3 : hh'.get? q.1 = some q.2 := (N₁ q (List.mem_append.mpr (.inr hq))).1
            rw [e] at h3
            rw [h3] at h2
            have h4 : p = q := Prod.ext e.symm (Option.some.inj h2).symm
            rw [h4]
            exact N' q (hk q (List.mem_append.mpr (.inl hq)))
          · exact N' p (hk p (List.mem_append.mpr (.inr (List.mem_filter.mpr ⟨h, by simpa using hin⟩))))
        · exact N' p (hk p (List.mem_append.mpr (.inl h)))
      · rw [List.take_add_one, hy] at hz
        rcases List.mem_append.mp hz with h | h
        · exact hno z h
        · have : z = y := by simpa using h
          rw [this]; exact hn'
    cases f with
    | ret v => exact .ret p
    | brk => exact .brk p
    | next => exact .next (fin p)
    | cont => exact .cont (fin p)
  · rintro h' tk m' news' F' N' _ ⟨rfl, hm, hno⟩
    refine done (fun y hy => hno y (by rw [List.take_of_length_le (Nat.le_of_eq hn)]; exact hy)) m' h' tk ?_ N'
    have e : (fun z => if z = x then m' z else m₀ z) = m' := by
      funext z
      by_cases h1 : z = x
      · simp [h1]
      · simp only [if_neg h1]; exact (hm z h1).symm
    rw [e]; exact F'
theorem search_set {S : Addr} {oS : Obj} {ms : List Str} (no : Str → Prop) (hh : A.handled = none) (hS : (S, oS) ∈ news) (hs : StrSet prog w oS ms) (F : Fr h₀ env.locals s.heap m₀) (N : News h₀ env.locals s.heap news)
    (turn : ∀ y t h tk own dr, y ∈ ms → OwnOff own (news.map (·.1)) → Fr h₀ env.locals h (fun z => if z = x then some (.str y t) else m₀ z) → News h₀ env.locals h (news ++ own) →
      wpAny (model prog w) A (execs body env) (SrchPost h₀ env.locals x m₀ (news ++ own) (no y) { s with heap := h, drawn := dr, toks := tk } Q) E { s with heap := h, drawn := dr, toks := tk })
    (done : (∀ y ∈ ms, no y) → ∀ (u : Str → Option Value) h tk dr, Fr h₀ env.locals h (fun z => if z = x then u z else m₀ z) → News h₀ env.locals h news → Q .next { s with heap := h, drawn := dr, toks := tk }) :
    wpAny (model prog w) A (pyIter (.ref S)) (fun it s₂ => LoopAtV prog w A h₀ env x body Q E it s₂) E s := by
  refine pyIter_strset hh hs (N _ hS).1 fun I fp n P St ord dr h' W hn hord hP hfp hI hst up => ?_
  have notin : ∀ a, s.heap.objs.size ≤ a → s.heap.get? a = none := fun a ha => by
    cases e : s.heap.get? a with
    | none => rfl
    | some o' => exact absurd (Heap.lt_size e) (Nat.not_lt.mpr ha)
  refine search_loop no W hn hP (fun hm => ?_) ?_ (fun p hp e => ?_) (fun b hb p hp e => ?_) hst (F.keeps up) (fun p hp => ⟨up _ _ (N p hp).1, (N p hp).2⟩) (fun y t h tk own u hy hoff F' N' => ?_) (fun hno u h tk F' N' => ?_)
  · rcases hfp _ hm with e | e
    · exact (N _ hS).2.1 e.symm
    · exact absurd F.ns.lt (Nat.not_lt.mpr e)
  · cases e : h₀.get? I with
    | none => rfl
    | some o => have := F.keep I o e; rw [notin I hI] at this; cases this
  · have := (N p hp).1
    rw [e, notin I hI] at this; cases this
  · refine ⟨p.2, by rw [e]; exact hp, fun q hq eq => ?_⟩
    have h1 := (N p hp).1
    have h2 := (N q hq).1
    rw [eq, e, h1] at h2
    exact (Option.some.inj h2).symm
  · exact turn y t h tk own dr ((hord y).mp hy) hoff F' N'
  · exact done (fun y hy => hno y ((hord y).mpr hy)) u h tk dr F' N'
theorem search_list {l : Addr} {vs : List Value} {ds : List Str} {nn : Nat} (no : Str → Prop) (hh : A.handled = none) (hl : (l, listOf vs.toArray nn) ∈ news) (hv : StrsAre vs ds) (F : Fr h₀ env.locals s.heap m₀) (N : News h₀ env.locals s.heap news)
    (turn : ∀ y t h tk own, y ∈ ds → OwnOff own (news.map (·.1)) → Fr h₀ env.locals h (fun z => if z = x then some (.str y t) else m₀ z) → News h₀ env.locals h (news ++ own) →
      wpAny (model prog w) A (execs body env) (SrchPost h₀ env.locals x m₀ (news ++ own) (no y) { s with heap := h, toks := tk } Q) E { s with heap := h, toks := tk })
    (done : (∀ y ∈ ds, no y) → ∀ (u : Str → Option Value) h tk, Fr h₀ env.locals h (fun z => if z = x then u z else m₀ z) → News h₀ env.locals h news → Q .next { s with heap := h, toks := tk }) :
    wpAny (model prog w) A (pyIter (.ref l)) (fun it s₂ => LoopAtV prog w A h₀ env x body Q E it s₂) E s := by
  have hol : s.heap.get? l = some (listOf vs.toArray nn) := (N _ hl).1
  have hls : s.heap.IsList l vs.toArray := ⟨_, hol, rfl, nn, rfl⟩
  have hne : l ≠ s.heap.objs.size := Nat.ne_of_lt (Heap.lt_size hol)
  refine wpAny_pyIter_list hls ?_
  have W := Walks.list (prog := prog) (w := w) hh s.heap.objs.size l hne vs.toArray
  have up : ∀ b o, s.heap.get? b = some o → (s.heap.push { cls := .type "list_iterator", data := .fields #[.ref l, .int 0 0] }).get? b = some o := fun b o e => Heap.get?_push_of_some _ e
  have notin : s.heap.get? s.heap.objs.size = none := by
    cases e : s.heap.get? s.heap.objs.size with
    | none => rfl
    | some o' => exact absurd (Heap.lt_size e) (Nat.lt_irrefl _)
  refine search_loop no W (ord := ds) (by simp [hv.length]) (fun i v hx => ?_) (fun hm => ?_) (next_is_new F) (fun p hp e => ?_) (fun b hb p hp e => ?_) ⟨⟨_, Heap.get?_push_size _ rfl, rfl, rfl⟩, hls.at fun o e => up _ _ e⟩ (F.keeps up) (fun p hp => ⟨up _ _ (N p hp).1, (N p hp).2⟩) (fun y t h tk own u hy hoff F' N' => ?_) (fun hno u h tk F' N' => ?_)
  · exact hv.item i v (by simpa using hx)
  · simp only [List.mem_cons, List.not_mem_nil, or_false] at hm
    rcases hm with e | e
    · exact absurd F.ns.lt (e ▸ Nat.lt_irrefl _)
    · exact (N _ hl).2.1 e.symm
  · have := (N p hp).1
    rw [e, notin] at this; cases this
  · refine ⟨p.2, by rw [e]; exact hp, fun q hq eq => ?_⟩
    have h1 := (N p hp).1
    have h2 := (N q hq).1
    rw [eq, e, h1] at h2
    exact (Option.some.inj h2).symm
  · exact turn y t h tk own hy hoff F' N'
  · exact done hno u h tk F' N'
end
end Mine
end
section
open PySem PySem.W PyProof.Rows PySem.Calls
set_option Elab.async false
set_option maxRecDepth 100000
namespace Mine
def sub (nm y : Str) (z : String) : Bool := PySem.Txt.startswith nm (y ++ Str.ofString z)
/-- what names tells of a name that it was not asked before -/
def due (ms ds : List Str) (nm : Str) (fo : Option Str) : Int :=
  if nm ∈ ms then 1 else if ms.any (fun y => sub nm y ".") then 1 else match fo with
    | none => 1
    | some f => if ds.any (fun y => sub f y "/") then 1 else 0
def nmVal (ms ds : List Str) (c : List (Str × Int)) (nm : Str) (fo : Option Str) : Int := if kdpHas c nm = true then kdpLook c nm 0 else due ms ds nm fo
def nmPut (ms ds : List Str) (c : List (Str × Int)) (nm : Str) (fo : Option Str) : List (Str × Int) := if kdpHas c nm = true then c else kdpPut c nm (due ms ds nm fo)
theorem news_cut {h₀ h : Heap} {L : Addr} {a b c d e : Addr × Obj} {own own2 : List (Addr × Obj)} (N : News h₀ L h (a :: b :: c :: d :: e :: (own ++ own2))) : News h₀ L h (a :: b :: c :: d :: e :: own) := fun p hp => N p (by
  simp only [List.mem_cons, List.mem_append] at hp ⊢
  rcases hp with h | h | h | h | h | h <;> simp [h])
theorem due_mem {ms ds : List Str} {nm : Str} {fo : Option Str} (h : nm ∈ ms) : due ms ds nm fo = 1 := by
  unfold due
  rw [if_pos h]
theorem due_sub {ms ds : List Str} {nm y : Str} {fo : Option Str} (hy : y ∈ ms) (h : sub nm y "." = true) : due ms ds nm fo = 1 := by
  unfold due
  split
  · rfl
  · rw [if_pos (List.any_eq_true.mpr ⟨y, hy, h⟩)]
theorem due_none {ms ds : List Str} {nm : Str} : due ms ds nm none = 1 := by
  unfold due
  split
  · rfl
  · split <;> rfl
theorem due_dir {ms ds : List Str} {nm y f : Str} (hy : y ∈ ds) (h : sub f y "/" = true) : due ms ds nm (some f) = 1 := by
  unfold due
  split
  · rfl
  · split
    · rfl
    · dsimp only
      rw [if_pos (List.any_eq_true.mpr ⟨y, hy, h⟩)]
theorem due_zero {ms ds : List Str} {nm f : Str} (h1 : ¬ nm ∈ ms) (h2 : ∀ y ∈ ms, sub nm y "." = false) (h3 : ∀ y ∈ ds, sub f y "/" = false) : due ms ds nm (some f) = 0 := by
  have e : ∀ {l : List Str} {q : Str} {z : String}, (∀ y ∈ l, sub q y z = false) → ¬ (l.any fun y => sub q y z) = true := fun h q => by
    obtain ⟨y, hy, hs⟩ := List.any_eq_true.mp q
    rw [h y hy] at hs
    cases hs
  unfold due
  rw [if_neg h1, if_neg (e h2)]
  dsimp only
  rw [if_neg (e h3)]
theorem nmVal_old {ms ds : List Str} {c : List (Str × Int)} {nm : Str} {fo : Option Str} (h : kdpHas c nm = true) : kdpLook c nm 0 = nmVal ms ds c nm fo ∧ c = nmPut ms ds c nm fo := by
  unfold nmVal nmPut
  rw [if_pos h, if_pos h]
  exact ⟨rfl, rfl⟩
theorem nmVal_new {ms ds : List Str} {c : List (Str × Int)} {nm : Str} {fo : Option Str} {r : Int} (h : kdpHas c nm = false) (e : due ms ds nm fo = r) : r = nmVal ms ds c nm fo ∧ kdpPut c nm r = nmPut ms ds c nm fo := by
  unfold nmVal nmPut
  rw [h, if_neg Bool.false_ne_true, if_neg Bool.false_ne_true, e]
  exact ⟨rfl, rfl⟩
structure Small (ms ds : List Str) : Prop where
  m3 : ms.length ≤ 3
  d3 : ds.length ≤ 3
  mL : ∀ y ∈ ms, y.length ≤ 20
  dL : ∀ y ∈ ds, y.length ≤ 20
/-- the ledger of an _Ignore -/
abbrev igLed (P : Params) (C x dx S D G : Addr) (t1 t2 t3 : Tok) (nx : Nat) (oS oD oG : Obj) (own : List (Addr × Obj)) : List (Addr × Obj) :=
  (x, instObj C dx) :: (dx, dictOf [⟨PyData.keyHash P (Str.ofString "_mods"), .str (Str.ofString "_mods") t1, .ref S⟩, ⟨PyData.keyHash P (Str.ofString "_dirs"), .str (Str.ofString "_dirs") t2, .ref D⟩, ⟨PyData.keyHash P (Str.ofString "_ignore"), .str (Str.ofString "_ignore") t3, .ref G⟩] nx) ::
    (S, oS) :: (D, oD) :: (G, oG) :: own
def fileV : Option (Str × Tok) → Value
  | none => .none
  | some p => .str p.1 p.2
def NamesTells (prog : Program) (w : World) (K : Frag) (p : Program) (loose : List Str) (mean : ExcName → Option Value) (mg mb : Str → Option Value) (C f : Addr) : Prop :=
  ∀ (dp un : Nat) (gd : Option (List Code)) (cn : Str) (cs : Scope) (a : Addr) (ccd : Value) (cl : List (Str × Addr)) (outer : List Env) (A₀ : Around) (base h₀ : Heap) (L : Addr) (m : Str → Option Value) (s : Shared) (Q E : Value → Shared → Prop)
    (x dx S D G : Addr) (t1 t2 t3 : Tok) (nx : Nat) (oS oG : Obj) (vd : List Value) (nd : Nat) (ms ds : List Str) (kvs : List (Str × Value)) (c : List (Str × Int)) (nm : Str) (tn : Tok) (fo : Option (Str × Tok)) (own : List (Addr × Obj)),
    Below A₀ base outer h₀ → Fr h₀ L s.heap m → K.In h₀ → News h₀ L s.heap (igLed w.params C x dx S D G t1 t2 t3 nx oS (listOf vd.toArray nd) oG own) → Top p loose mean mg mb h₀ → cs.kind = .function →
    (@Ne Nat x dx ∧ @Ne Nat x S ∧ @Ne Nat x D ∧ @Ne Nat x G ∧ @Ne Nat dx S ∧ @Ne Nat dx D ∧ @Ne Nat dx G ∧ @Ne Nat S D ∧ @Ne Nat S G ∧ @Ne Nat D G) → OwnOff own [x, dx, S, D, G] → (G == sysModules) = false → StrSet prog w oS ms → StrsAre vd ds → oG.IsDictOf (PySem.strKind prog w) kvs → PyProof.V.FlatPairs PyData.str kvs (kdpD c) → c.length ≤ 100 → Small ms ds → nm.length ≤ 20 →
    (∀ q, fo = some q → q.1.length ≤ 20) → dp + 5 < recursionLimit → un + 100 < cLine →
    (∀ h' tk dr oG' kvs' t, Fr h₀ L h' m → News h₀ L h' (igLed w.params C x dx S D G t1 t2 t3 nx oS (listOf vd.toArray nd) oG' own) → oG'.IsDictOf (PySem.strKind prog w) kvs' → PyProof.V.FlatPairs PyData.str kvs' (kdpD (nmPut ms ds c nm (fo.map (·.1)))) →
      Q (.int (nmVal ms ds c nm (fo.map (·.1))) t) { s with heap := h', toks := tk, drawn := dr }) →
    wpAny (model prog w) (ktrTop dp un gd cn cs L a ccd cl outer) (call (.ref f) [.ref x, fileV fo, .str nm tn]) Q E s
end Mine
end
section
open PySem PySem.W PyProof.Rows PySem.Calls PyProof.Rows.LCg
set_option Elab.async false
set_option maxRecDepth 100000
namespace Mine
def EnEnd (h₀ : Heap) (L : Addr) (m : Str → Option Value) (s₁ : Shared) (keep : List (Addr × Obj)) (P : Prop) (s₂ : Shared) : Prop :=
  ∃ h' tk news', s₂ = { s₁ with heap := h', toks := tk } ∧ Fr h₀ L h' m ∧ News h₀ L h' news' ∧ (∀ p ∈ keep, p ∈ news') ∧ P
theorem en_end {h₀ : Heap} {L : Addr} {m : Str → Option Value} {s₁ : Shared} {keep news' : List (Addr × Obj)} {P : Prop} {h' : Heap} {tk : Nat} (F : Fr h₀ L h' m) (N : News h₀ L h' news') (hk : ∀ p ∈ keep, p ∈ news') (hP : P) : EnEnd h₀ L m s₁ keep P { s₁ with heap := h', toks := tk } := ⟨h', tk, news', rfl, F, N, hk, hP⟩
section
variable {prog : Program} {w : World} {A : Around} {E : Value → Shared → Prop} {s : Shared} {h₀ : Heap} {L : Addr} {m : Str → Option Value} {env : Env}
def EnTurn (prog : Program) (w : World) (A : Around) (h₀ : Heap) (L : Addr) (m : Str → Option Value) (env : Env) (c elt : PySem.Expr) (a b : Str) (scope : Scope) (cl : List (Str × Addr)) (s : Shared) (news : List (Addr × Obj)) (J : Nat → List Value → Prop) (i : Nat) (v : Value) : Prop :=
  ∀ (t : Tok) e oe it oit C oC D m₂ ys h tk dr (E' : Value → Shared → Prop), J i ys → NsObj oC m₂ → m₂ a = some (.int i t) → m₂ b = some v → Fr h₀ L h m → News h₀ L h ((e, oe) :: (it, oit) :: (C, oC) :: (D, lst ys) :: news) →
    wpAny (model prog w) A (isTrue c (compEnvC scope cl C env) (eval c (compEnvC scope cl C env))) (fun ok s₃ => if ok = true then
      wpAny (model prog w) A (eval elt (compEnvC scope cl C env)) (fun y s₄ => EnEnd h₀ L m { s with heap := h, toks := tk, drawn := dr } ((e, oe) :: (it, oit) :: (C, oC) :: (D, lst ys) :: news) (J (i + 1) (ys ++ [y])) s₄) E' s₃
      else EnEnd h₀ L m { s with heap := h, toks := tk, drawn := dr } ((e, oe) :: (it, oit) :: (C, oC) :: (D, lst ys) :: news) (J (i + 1) ys) s₃) E' { s with heap := h, toks := tk, drawn := dr }
theorem en_block {elt iter c : PySem.Expr} {a b : Str} {pa pb tp : Pos} {kk : Nat} {scope : Scope} {cl : List (Str × Addr)} {pos : Pos} {s₂ : Shared} {e it l : Addr} {items : Array Value} {news : List (Addr × Obj)} {J : Nat → List Value → Prop} {RR : Value → Addr → Result → Shared → Prop}
    (hh : A.handled = none) (hei : e ≠ it) (hle : l ≠ e) (hli : l ≠ it) (hsz : items.size ≤ sizeLine) (he : IsEnum s₂.heap e it 0 .none) (hit : s₂.heap.IsListIter it l 0) (hl : ∃ o, (l, o) ∈ news ∧ o.cls = .type "list" ∧ ∃ n, o.data = .seq items n)
    (hcell : ∀ y ∈ scope.names, y.2 ≠ .cell) (hkind : scope.kind = .function) (hxa : scope.names.lookup a = some .local) (hxb : scope.names.lookup b = some .local) (hab : ¬ a = b)
    (F : Fr h₀ L s₂.heap m) (N : News h₀ L s₂.heap news) (hL : L ≠ e ∧ L ≠ it) (h0 : h₀.get? e = none ∧ h₀.get? it = none) (off : ∀ p ∈ news, p.1 ≠ e ∧ p.1 ≠ it) (hJ : J 0 [])
    (turn : ∀ i v, items[i]? = some v → EnTurn prog w A h₀ L m env c elt a b scope cl s₂ news J i v)
    (hRR : ∀ D C h tk m' ys, Fr h₀ L h m → News h₀ L h ((D, lst ys) :: news) → h.Ns C m' → h₀.get? C = none → h₀.get? D = none → C ≠ L → D ≠ L → C ≠ D → (∀ p ∈ news, p.1 ≠ C ∧ p.1 ≠ D ∧ p.1 < D) → J items.size ys → RR (.ref D) C (.ok .next) { s₂ with heap := h, toks := tk }) :
    wpAny (model prog w) A (newList []) (fun acc s₃ => wpAny (model prog w) A (newFunctionEnv scope env.globals cl [] env.qual none .none (some env)) (fun cenv s₄ =>
      codeAny (model prog w) A (.compStart (.ListComp elt [⟨.Tuple [.Name a pa, .Name b pb] kk tp, iter, [c], 0⟩] scope pos) 0 (.ref e) acc { cenv with scope := relabel scope env }) (RR acc cenv.locals) s₄) E s₃) E s₂ := by
  refine wpAny_newObj_type (wpAny_newFunctionEnv hcell (by intro y hy; simp at hy) (fun h₁ hns₁ hsb₁ => ?_) hkind)
  dsimp only at hns₁ hsb₁ ⊢
  generalize hH2 : s₂.heap.push { cls := .type "list", dict := none, data := .seq ([] : List Value).toArray } = H2 at hns₁ hsb₁ ⊢
  have hC : H2.objs.size = s₂.heap.objs.size + 1 := by rw [← hH2, Heap.size_push]
  have hDC : s₂.heap.objs.size ≠ H2.objs.size := by rw [hC]; exact Nat.ne_of_lt (Nat.lt_succ_self _)
  have below : ∀ b, b < s₂.heap.objs.size → b ≠ H2.objs.size ∧ b ≠ s₂.heap.objs.size := fun b hb => ⟨by rw [hC]; exact Nat.ne_of_lt (Nat.lt_succ_of_lt hb), Nat.ne_of_lt hb⟩
  have helt : e < s₂.heap.objs.size := Heap.lt_size he
  have hitlt : it < s₂.heap.objs.size := by obtain ⟨o, x, _⟩ := id hit; exact Heap.lt_size x
  obtain ⟨ol, hml, hcl, nl, hdl⟩ := hl
  have hls : s₂.heap.IsList l items := ⟨ol, (N _ hml).1, hcl, nl, hdl⟩
  have old : ∀ b o, s₂.heap.get? b = some o → h₁.get? b = some o := fun b o e => hsb₁.extBut b o (below b (Heap.lt_size e)).1 (Heap.get?_push_of_some _ (hH2 ▸ Heap.get?_push_of_some _ e))
  have hacc : h₁.get? s₂.heap.objs.size = some (lst []) := hsb₁.extBut _ _ hDC (Heap.get?_push_of_some _ (hH2 ▸ Heap.get?_push_size _ rfl))
  have fresh : ∀ a, s₂.heap.objs.size ≤ a → s₂.heap.get? a = none := fun a ha => by
    cases e : s₂.heap.get? a with
    | none => rfl
    | some o' => exact absurd (Heap.lt_size e) (Nat.not_lt.mpr ha)
  have fresh₀ : ∀ a, s₂.heap.objs.size ≤ a → h₀.get? a = none := fun a ha => by
    cases e : h₀.get? a with
    | none => rfl
    | some o' => have := F.keep a o' e; rw [fresh a ha] at this; cases this
  have hD₀ : h₀.get? s₂.heap.objs.size = none := fresh₀ _ (Nat.le_refl _)
  have hC₀ : h₀.get? H2.objs.size = none := fresh₀ _ (by rw [hC]; exact Nat.le_succ _)
  have hLlt : L < s₂.heap.objs.size := F.ns.lt
  have hDL : s₂.heap.objs.size ≠ L := Ne.symm (below L hLlt).2
  have hCL : H2.objs.size ≠ L := Ne.symm (below L hLlt).1
  have hCe : e ≠ H2.objs.size := (below e helt).1
  have hCi : it ≠ H2.objs.size := (below it hitlt).1
  have hDe : e ≠ s₂.heap.objs.size := (below e helt).2
  have hDi : it ≠ s₂.heap.objs.size := (below it hitlt).2
  have offCD : ∀ p ∈ news, p.1 ≠ H2.objs.size ∧ p.1 ≠ s₂.heap.objs.size ∧ p.1 < s₂.heap.objs.size := fun p hp => ⟨(below _ (Heap.lt_size (N p hp).1)).1, (below _ (Heap.lt_size (N p hp).1)).2, Heap.lt_size (N p hp).1⟩
  have W := WalksT.enumerate (prog := prog) (w := w) hh e it l hei hle hli items
  have St0 : ∀ h : Heap, (∀ b o, s₂.heap.get? b = some o → h.get? b = some o) → (∃ old, IsEnum h e it ((0 : Nat) : Int) old) ∧ h.IsListIter it l 0 ∧ h.IsList l items := fun h k => ⟨⟨.none, k _ _ he⟩, hit.at fun o x => k _ o x, hls.at fun o x => k _ o x⟩
  have loop : ∀ s₃ : Shared, s₃ = { s₂ with heap := h₁, toks := s₂.toks + ([] : List (Str × Value)).length } →
      codeAny (model prog w) A (.compLoop (.ListComp elt [⟨.Tuple [.Name a pa, .Name b pb] kk tp, iter, [c], 0⟩] scope pos) 0 (.ref e) (.ref s₂.heap.objs.size) (compEnvC scope cl H2.objs.size env))
        (RR (.ref s₂.heap.objs.size) H2.objs.size) s₃ := by
    rintro s₃ rfl
    refine kct_loop
      (fun k s' => ∃ h' tk i ys m', s' = { s₂ with heap := h', toks := tk } ∧ i ≤ items.size ∧ k = items.size + 1 - i ∧ ys.length ≤ i ∧ ((∃ old, IsEnum h' e it i old) ∧ h'.IsListIter it l i ∧ h'.IsList l items) ∧ Fr h₀ L h' m ∧ h'.Ns H2.objs.size m' ∧
        News h₀ L h' ((s₂.heap.objs.size, lst ys) :: news) ∧ J i ys) ?_ (items.size + 1)
      ⟨h₁, _, 0, [], _, rfl, Nat.zero_le _, rfl, Nat.le_refl _, St0 _ old, F.keeps old, hns₁, fun p hp => ?_, hJ⟩
    · rintro k s' ⟨h', tk, i, ys, m', rfl, hi, rfl, hyl, hst', F', hn', N', hJ'⟩
      have wr : ∀ c, c ≠ e → c ≠ it → c ∉ [e, it] := fun c h1 h2 => by simp [h1, h2]
      by_cases hlt : i < items.size
      · refine W.item i _ _ _ hlt hst' fun T vals h₂ tk₂ hPt hTle hT hMid hk₂ => ?_
        have hTw := W.apart i T h₂ hMid
        refine W.go _ _ _ i T _ _ _ hMid fun h₃ hst₃ hk₃ => ?_
        obtain ⟨t, v, hv, rfl⟩ := hPt
        have hT₃ : h₃.IsTuple T #[.int i t, v] := hT.at fun o x => hk₃ _ o hTw x
        have up₃ : ∀ c o, c ≠ e → c ≠ it → h'.get? c = some o → h₃.get? c = some o := fun c o h1 h2 x => hk₃ c o (wr c h1 h2) (hk₂ c o (wr c h1 h2) x)
        refine kcp_assign (env := compEnvC scope cl H2.objs.size env) hh hT₃ (lookup_relabel_local hxa) (lookup_relabel_local hxb) (by simp [compEnvC, relabel, hkind]) (hn'.at' fun o x => up₃ _ o (Ne.symm hCe) (Ne.symm hCi) x) fun h₄ tk₄ hn₄ hs₄ => ?_
        have up : ∀ c o, c ≠ e → c ≠ it → c ≠ H2.objs.size → h'.get? c = some o → h₄.get? c = some o := fun c o h1 h2 h3 x => hs₄ c o h3 (up₃ c o h1 h2 x)
        obtain ⟨⟨old₃, he₃⟩, hit₃, hl₃⟩ := hst₃
        have he₄ : IsEnum h₄ e it ((i + 1 : Nat) : Int) old₃ := hs₄ e _ hCe he₃
        obtain ⟨oit, hoit, hcit, hdit⟩ := id hit₃
        have hoit₄ : h₄.get? it = some oit := hs₄ it _ hCi hoit
        obtain ⟨oe, hoe, hoeP⟩ : ∃ oe : Obj, h₄.get? e = some oe ∧ ∀ h : Heap, h.get? e = some oe → IsEnum h e it ((i + 1 : Nat) : Int) old₃ := ⟨_, he₄, fun _ x => x⟩
        obtain ⟨oC, heC, hoC⟩ := ns_obj hn₄
        have F₄ : Fr h₀ L h₄ m := ⟨F'.ns.at' fun o x => up _ o hL.1 hL.2 (Ne.symm hCL) x, fun c o x => up c o (fun q => by rw [q, h0.1] at x; cases x) (fun q => by rw [q, h0.2] at x; cases x) (fun q => by rw [q, hC₀] at x; cases x) (F'.keep c o x), F'.above⟩
        have N₄ : News h₀ L h₄ ((e, oe) :: (it, oit) :: (H2.objs.size, oC) :: (s₂.heap.objs.size, lst ys) :: news) := fun q hq => by
          rcases List.mem_cons.mp hq with rfl | hq
          · exact ⟨hoe, Ne.symm hL.1, h0.1⟩
          rcases List.mem_cons.mp hq with rfl | hq
          · exact ⟨hoit₄, Ne.symm hL.2, h0.2⟩
          rcases List.mem_cons.mp hq with rfl | hq
          · exact ⟨heC, hCL, hC₀⟩
          · have z := N' q hq
            refine ⟨up _ _ ?_ ?_ ?_ z.1, z.2⟩
            · rcases List.mem_cons.mp hq with rfl | hq
              · exact Ne.symm hDe
              · exact (off q hq).1
            · rcases List.mem_cons.mp hq with rfl | hq
              · exact Ne.symm hDi
              · exact (off q hq).2
            · rcases List.mem_cons.mp hq with rfl | hq
              · exact hDC
              · exact (offCD q hq).1
        have fin : ∀ (ys' : List Value) (h₅ : Heap) (tk₅ : Nat), ys'.length ≤ i + 1 → Fr h₀ L h₅ m → News h₀ L h₅ ((e, oe) :: (it, oit) :: (H2.objs.size, oC) :: (s₂.heap.objs.size, lst ys') :: news) → J (i + 1) ys' →
            ∃ q', q' < items.size + 1 - i ∧ (∃ h' tk i ys m', ({ s₂ with heap := h₅, toks := tk₅ } : Shared) = { s₂ with heap := h', toks := tk } ∧ i ≤ items.size ∧ q' = items.size + 1 - i ∧ ys.length ≤ i ∧ ((∃ old, IsEnum h' e it i old) ∧ h'.IsListIter it l i ∧ h'.IsList l items) ∧ Fr h₀ L h' m ∧ h'.Ns H2.objs.size m' ∧
              News h₀ L h' ((s₂.heap.objs.size, lst ys) :: news) ∧ J i ys) := by
          intro ys' h₅ tk₅ hl F₅ N₅ hJ₅
          have ze := (N₅ (e, oe) (.head _)).1
          have zi := (N₅ (it, oit) (.tail _ (.head _))).1
          have zC := (N₅ (H2.objs.size, oC) (.tail _ (.tail _ (.head _)))).1
          have zl := (N₅ (l, ol) (.tail _ (.tail _ (.tail _ (.tail _ hml))))).1
          exact ⟨items.size + 1 - (i + 1), by omega, h₅, tk₅, i + 1, ys', _, rfl, hlt, rfl, hl, ⟨⟨_, hoeP h₅ ze⟩, ⟨oit, zi, hcit, hdit⟩, ⟨ol, zl, hcl, nl, hdl⟩⟩, F₅, hoC.ns zC, fun q hq => N₅ q (.tail _ (.tail _ (.tail _ hq))), hJ₅⟩
        refine wpAny_mono (turn i v hv t e oe it oit H2.objs.size oC s₂.heap.objs.size _ ys h₄ _ s₂.drawn _ hJ' hoC (by simp [hab]) (by simp) F₄ N₄) (fun ok s₅ h₅ => ?_) fun _ _ x => x
        cases ok with
        | false =>
          simp only [Bool.false_eq_true, if_false] at h₅ ⊢
          obtain ⟨h₅, tk₅, news₅, rfl, F₅, N₅, hk₅, hJ₅⟩ := h₅
          exact fin ys h₅ tk₅ (Nat.le_succ_of_le hyl) F₅ (fun q hq => N₅ q (hk₅ q hq)) hJ₅
        | true =>
          simp only [if_true] at h₅ ⊢
          refine wpAny_mono h₅ (fun y s₆ h₆ => ?_) fun _ _ x => x
          obtain ⟨h₅, tk₅, news₅, rfl, F₅, N₅', hk₅, hJ₅⟩ := h₆
          have N₅ : News h₀ L h₅ ((e, oe) :: (it, oit) :: (H2.objs.size, oC) :: (s₂.heap.objs.size, lst ys) :: news) := fun q hq => N₅' q (hk₅ q hq)
          have zD := (N₅ (s₂.heap.objs.size, lst ys) (.tail _ (.tail _ (.tail _ (.head _))))).1
          refine append_at (hsz := by show ys.toArray.size ≤ sizeLine; rw [List.size_toArray]; exact Nat.le_trans hyl (Nat.le_trans hi hsz)) zD fun h₆ hs₆ hD₆ => ?_
          refine fin (ys ++ [y]) h₆ _ (by rw [List.length_append, List.length_singleton]; exact Nat.succ_le_succ hyl) (F₅.change hs₆ hDL hD₀) (fun q hq => ?_) hJ₅
          rcases List.mem_cons.mp hq with rfl | hq
          · exact ⟨hs₆.extBut e oe hDe (N₅ _ (.head _)).1, Ne.symm hL.1, h0.1⟩
          rcases List.mem_cons.mp hq with rfl | hq
          · exact ⟨hs₆.extBut it oit hDi (N₅ _ (.tail _ (.head _))).1, Ne.symm hL.2, h0.2⟩
          rcases List.mem_cons.mp hq with rfl | hq
          · exact ⟨hs₆.extBut _ oC (Ne.symm hDC) (N₅ _ (.tail _ (.tail _ (.head _)))).1, hCL, hC₀⟩
          rcases List.mem_cons.mp hq with rfl | hq
          · exact ⟨hD₆.trans (congrArg some (lst_snoc ys y)), hDL, hD₀⟩
          · have z := N₅ q (.tail _ (.tail _ (.tail _ (.tail _ hq))))
            exact ⟨hs₆.extBut _ _ (offCD q hq).2.1 z.1, z.2⟩
      · have hin : i = items.size := Nat.le_antisymm hi (Nat.not_lt.mp hlt)
        subst hin
        refine W.done _ _ _ hst' fun h₂ tk₂ hk₂ => ?_
        have up : ∀ c o, c ≠ e → c ≠ it → h'.get? c = some o → h₂.get? c = some o := fun c o h1 h2 x => hk₂ c o (wr c h1 h2) x
        refine hRR _ _ h₂ tk₂ m' ys ⟨F'.ns.at' fun o x => up _ o hL.1 hL.2 x, fun c o x => up c o (fun q => by rw [q, h0.1] at x; cases x) (fun q => by rw [q, h0.2] at x; cases x) (F'.keep c o x), F'.above⟩ (fun q hq => ?_) (hn'.at' fun o x => up _ o (Ne.symm hCe) (Ne.symm hCi) x) hC₀ hD₀ hCL hDL (Ne.symm hDC) offCD hJ'
        have z := N' q hq
        refine ⟨up _ _ ?_ ?_ z.1, z.2⟩
        · rcases List.mem_cons.mp hq with rfl | hq
          · exact Ne.symm hDe
          · exact (off q hq).1
        · rcases List.mem_cons.mp hq with rfl | hq
          · exact Ne.symm hDi
          · exact (off q hq).2
    · rcases List.mem_cons.mp hp with rfl | hp
      · exact ⟨hacc, hDL, hD₀⟩
      · exact ⟨old _ _ (N p hp).1, (N p hp).2⟩
  exact codeAny_compStart_list (loop _ rfl) (W.self 0 _ _ _ (St0 _ old) (loop _ rfl))
def EnDone (h₀ : Heap) (L : Addr) (m : Str → Option Value) (s : Shared) (news : List (Addr × Obj)) (J : Nat → List Value → Prop) (n : Nat) (y : Str) (Q : Flow → Shared → Prop) : Prop :=
  ∀ D h tk ys, Fr h₀ L h (fun z => if z = y then some (.ref D) else m z) → News h₀ L h ((D, lst ys) :: news) → (∀ p ∈ news, p.1 < D) → J n ys → Q .next { s with heap := h, toks := tk }
def EnSrc (prog : Program) (w : World) (A : Around) (h₀ : Heap) (L : Addr) (m : Str → Option Value) (env : Env) (c elt : PySem.Expr) (a b : Str) (scope : Scope) (cl : List (Str × Addr)) (J : Nat → List Value → Prop) (y : Str) (Q : Flow → Shared → Prop) (xv : Value) (s₁ : Shared) : Prop :=
  ∃ e it l items news, xv = .ref e ∧ A.handled = none ∧ e ≠ it ∧ l ≠ e ∧ l ≠ it ∧ items.size ≤ sizeLine ∧ IsEnum s₁.heap e it 0 .none ∧ s₁.heap.IsListIter it l 0 ∧ (∃ o, (l, o) ∈ news ∧ o.cls = .type "list" ∧ ∃ n, o.data = .seq items n) ∧ Fr h₀ L s₁.heap m ∧ News h₀ L s₁.heap news ∧
    (L ≠ e ∧ L ≠ it) ∧ (h₀.get? e = none ∧ h₀.get? it = none) ∧ (∀ p ∈ news, p.1 ≠ e ∧ p.1 ≠ it) ∧ J 0 [] ∧ (∀ i v, items[i]? = some v → EnTurn prog w A h₀ L m env c elt a b scope cl s₁ news J i v) ∧ EnDone h₀ L m s₁ news J items.size y Q
theorem en_Assign {elt iter c : PySem.Expr} {a b y : Str} {pa pb tp py : Pos} {kk : Nat} {scope : Scope} {cl : List (Str × Addr)} {pos spos : Pos} {Q : Flow → Shared → Prop} (J : Nat → List Value → Prop) (hF0 : Fr h₀ L s.heap m) (hLe : env.locals = L)
    (hsw : swapsWith (.ListComp elt [⟨.Tuple [.Name a pa, .Name b pb] kk tp, iter, [c], 0⟩] scope pos) (some (.Name y py)) spos.line env = pure true)
    (hclos : closureFor scope env = pure cl) (hcell : ∀ z ∈ scope.names, z.2 ≠ .cell) (hkind : scope.kind = .function)
    (hnames : ∀ z ∈ scope.names, z.2 = .local → scope.names.lookup z.1 = some .local) (hxa : scope.names.lookup a = some .local) (hxb : scope.names.lookup b = some .local) (hab : ¬ a = b)
    (hy : env.kindOf y = some .local) (hp : (env.scope.kind == .class || (env.scope.kind == .module && env.locals != env.globals)) = false)
    (h : wpAny (model prog w) A (eval iter env) (EnSrc prog w A h₀ L m env c elt a b scope cl J y Q) E s)
    (hs : ∀ x, foldedSetIterable iter env x = pure x := by intro _; rfl) :
    wpAny (model prog w) A (exec (.Assign [.Name y py] (.ListComp elt [⟨.Tuple [.Name a pa, .Name b pb] kk tp, iter, [c], 0⟩] scope pos) spos) env) Q E s := by
  subst hLe
  rw [exec_Assign_Name_used _ _ _ _ hsw]
  refine wpAny_bind (wpAny_standAt (wpAny_bind ?_))
  show wpAny _ A (do let _ ← comprehension (.ListComp elt [⟨.Tuple [.Name a pa, .Name b pb] kk tp, iter, [c], 0⟩] scope pos) scope env _ (newList []) false (eval iter env) (some (assign (.Name y py) env))) _ _ s
  refine wpAny_bind (wpAny_mono (wpAny_comprehension_free (use := some (assign (.Name y py) env)) (Q := fun _ s' => Q .next s') rfl hs hclos hkind hnames
    (wpAny_mono h (fun xv s₁ h₁ => ?_) fun _ _ e => e)) (fun _ s' hq => wpAny_pure (wpAny_pure hq)) fun _ _ e => e)
  obtain ⟨e, it, l, items, news, rfl, hh, hei, hle, hli, hsz, he, hit, hl, F, N, hL, h0, off, hJ, turn, done⟩ := h₁
  have W := WalksT.enumerate (prog := prog) (w := w) hh e it l hei hle hli items
  refine W.self 0 _ _ _ ⟨⟨_, he⟩, hit, by obtain ⟨o, hm, hc, n, hd⟩ := hl; exact ⟨o, (N _ hm).1, hc, n, hd⟩⟩ ?_
  refine en_block hh hei hle hli hsz he hit hl hcell hkind hxa hxb hab F N hL h0 off hJ turn ?_
  intro D C h' tk m' ys F' N' hn hC₀ hD₀ hCL hDL hCD offC fin
  show wpAny _ A (assign (.Name y py) env (.ref D)) _ _ _
  refine wpAny_assign_Name (wpAny_storeName_local hy F'.ns (fun h₂ hn₂ hs₂ => ?_) hp)
  have hL₀ : h₀.get? env.locals = none := Heap.get?_none_of_le F'.above
  have F₂ : Fr h₀ env.locals h₂ (fun z => if z = y then some (.ref D) else m z) := ⟨hn₂, fun b o e => hs₂.extBut b o (fun q => by rw [q, hL₀] at e; cases e) (F'.keep b o e), F'.above⟩
  refine ⟨m', hn.sameBut hs₂ hCL, fun h'' hs'' => done D h'' _ ys (F₂.change hs'' hCL hC₀) (fun p hp => ?_) (fun p hp => (offC p hp).2.2) fin⟩
  have z : h₂.get? p.1 = some p.2 := hs₂.extBut _ _ (N' p hp).2.1 (N' p hp).1
  refine ⟨hs''.extBut _ _ ?_ z, (N' p hp).2⟩
  rcases List.mem_cons.mp hp with rfl | hp
  · exact Ne.symm hCD
  · exact (offC p hp).1
theorem en_call {c elt : PySem.Expr} {a b y : Str} {scope : Scope} {cl : List (Str × Addr)} {J : Nat → List Value → Prop} {Q : Flow → Shared → Prop} {l : Addr} {vs : List Value} {nl : Nat} {news : List (Addr × Obj)} (hh : A.handled = none) (F : Fr h₀ L s.heap m) (N : News h₀ L s.heap news)
    (hl : (l, listOf vs.toArray nl) ∈ news) (hsz : vs.length ≤ sizeLine) (hJ : J 0 []) (turn : ∀ i v, vs[i]? = some v → EnTurn prog w A h₀ L m env c elt a b scope cl s news J i v) (done : EnDone h₀ L m s news J vs.length y Q) :
    wpAny (model prog w) A (call (.type "enumerate") [.ref l]) (EnSrc prog w A h₀ L m env c elt a b scope cl J y Q) E s := by
  have hol := (N _ hl).1
  have hls : s.heap.IsList l vs.toArray := ⟨_, hol, rfl, nl, rfl⟩
  have hllt : l < s.heap.objs.size := Heap.lt_size hol
  have hLlt : L < s.heap.objs.size := F.ns.lt
  have fresh₀ : ∀ a, s.heap.objs.size ≤ a → h₀.get? a = none := fun a ha => by
    cases e : h₀.get? a with
    | none => rfl
    | some o' => exact absurd (Heap.lt_size (F.keep a o' e)) (Nat.not_lt.mpr ha)
  refine call_enumerate_list hls fun h' he hit _ hk => ?_
  refine ⟨s.heap.objs.size + 1, s.heap.objs.size, l, vs.toArray, news, rfl, hh, Nat.succ_ne_self _, Nat.ne_of_lt (Nat.lt_succ_of_lt hllt), Nat.ne_of_lt hllt, by rw [List.size_toArray]; exact hsz, he, hit, ⟨_, hl, rfl, nl, rfl⟩, F.keeps hk, fun p hp => ⟨hk _ _ (N p hp).1, (N p hp).2⟩,
    ⟨Nat.ne_of_lt (Nat.lt_succ_of_lt hLlt), Nat.ne_of_lt hLlt⟩, ⟨fresh₀ _ (Nat.le_succ _), fresh₀ _ (Nat.le_refl _)⟩, fun p hp => ⟨Nat.ne_of_lt (Nat.lt_succ_of_lt (Heap.lt_size (N p hp).1)), Nat.ne_of_lt (Heap.lt_size (N p hp).1)⟩, hJ, fun i v hv => turn i v (by simpa using hv), ?_⟩
  rw [List.size_toArray]
  exact done
def Jn (nms : List Str) (i : Nat) (ys : List Value) : Prop := ∃ ms, StrsAre ys ms ∧ ms.length ≤ i ∧ ∀ x ∈ ms, x ∈ nms
theorem jn_nil (nms : List Str) : Jn nms 0 [] := ⟨[], .nil, Nat.le_refl _, fun _ h => nomatch h⟩
theorem jn_push {nms : List Str} {i : Nat} {ys : List Value} {x : Str} {t : Tok} (h : Jn nms i ys) (hx : x ∈ nms) : Jn nms (i + 1) (ys ++ [.str x t]) := by
  obtain ⟨ms, a, b, c⟩ := h
  refine ⟨ms ++ [x], StrsAre.append' a (.cons x t .nil), by rw [List.length_append]; exact Nat.succ_le_succ b, fun z hz => ?_⟩
  rcases List.mem_append.mp hz with h | h
  · exact c z h
  · rw [List.mem_singleton.mp h]; exact hx
theorem jn_keep {nms : List Str} {i : Nat} {ys : List Value} (h : Jn nms i ys) : Jn nms (i + 1) ys := by
  obtain ⟨ms, a, b, c⟩ := h
  exact ⟨ms, a, Nat.le_succ_of_le b, c⟩
theorem en_call3 {c elt : PySem.Expr} {a b y : Str} {scope : Scope} {cl : List (Str × Addr)} {J : Nat → List Value → Prop} {Q : Flow → Shared → Prop} {l : Addr} {v0 v1 v2 : Value} {nl : Nat} {news : List (Addr × Obj)} (hh : A.handled = none) (F : Fr h₀ L s.heap m) (N : News h₀ L s.heap news)
    (hl : (l, listOf [v0, v1, v2].toArray nl) ∈ news) (hJ : J 0 []) (t0 : EnTurn prog w A h₀ L m env c elt a b scope cl s news J 0 v0) (t1 : EnTurn prog w A h₀ L m env c elt a b scope cl s news J 1 v1) (t2 : EnTurn prog w A h₀ L m env c elt a b scope cl s news J 2 v2) (done : EnDone h₀ L m s news J 3 y Q) :
    wpAny (model prog w) A (call (.type "enumerate") [.ref l]) (EnSrc prog w A h₀ L m env c elt a b scope cl J y Q) E s :=
  en_call hh F N hl (Nat.le_of_ble_eq_true rfl) hJ (fun i v hv => by
    match i, hv with
    | 0, hv => cases hv; exact t0
    | 1, hv => cases hv; exact t1
    | 2, hv => cases hv; exact t2
    | i + 3, hv => simp at hv) done
end
def modsAll : List Str := [Str.ofString "a", Str.ofString "a.b", Str.ofString "c"]
def dirsAll : List Str := [Str.ofString "/x", Str.ofString "/x/y", Str.ofString "z"]
end Mine
end
section
open PySem PySem.W PyProof.Rows PySem.Calls PyProof.Rows.LCg
set_option Elab.async false
set_option maxRecDepth 100000
namespace Mine
def ElEnd (y : Str) (h₀ : Heap) (L : Addr) (m : Str → Option Value) (s₁ : Shared) (keep : List (Addr × Obj)) (r : Value) (s₂ : Shared) : Prop := (∃ t, r = .str y t) ∧ EnEnd h₀ L m s₁ keep True s₂
theorem el_end {y x : Str} {t : Tok} {h₀ : Heap} {L : Addr} {m : Str → Option Value} {s₁ : Shared} {keep news' : List (Addr × Obj)} {h' : Heap} {tk : Nat} (hx : x = y) (F : Fr h₀ L h' m) (N : News h₀ L h' news') (hk : ∀ p ∈ keep, p ∈ news') : ElEnd y h₀ L m s₁ keep (.str x t) { s₁ with heap := h', toks := tk } :=
  ⟨⟨t, by rw [hx]⟩, h', tk, news', rfl, F, N, hk, True.intro⟩
section
variable {prog : Program} {w : World} {A : Around} {h₀ : Heap} {L : Addr} {m : Str → Option Value} {env : Env}
theorem rest_strs {elt : PySem.Expr} {x : Str} {scope : Scope} {cl : List (Str × Addr)} {s : Shared} {S : List (Addr × Obj) → Prop} {Fin : List Value → List (Addr × Obj) → Prop} {vs : List Value} {ds : List Str} {news : List (Addr × Obj)} (hS : S news) (hv : StrsAre vs ds)
    (turn : ∀ y t I oI C oC D m₂ ys h tk (E' : Value → Shared → Prop), y ∈ ds → NsObj oC m₂ → m₂ x = some (.str y t) → Fr h₀ L h m → News h₀ L h ((I, oI) :: (C, oC) :: (D, lst ys) :: news) →
      wpAny (model prog w) A (eval elt (compEnvC scope cl C env)) (ElEnd y h₀ L m { s with heap := h, toks := tk } ((I, oI) :: (C, oC) :: (D, lst ys) :: news)) E' { s with heap := h, toks := tk })
    (fin : ∀ ys, StrsAre ys ds → Fin ys news) : CompRest prog w A h₀ L m env elt x scope cl s S (fun i v => vs.toArray[i]? = some v) Fin vs.toArray.size 0 [] news := by
  have hlen := hv.length
  have key : ∀ (j i : Nat) (ys : List Value), i + j = ds.length → StrsAre ys (ds.take i) → CompRest prog w A h₀ L m env elt x scope cl s S (fun i v => vs.toArray[i]? = some v) Fin j i ys news := by
    intro j
    induction j with
    | zero =>
      intro i ys hi hy
      rw [List.take_of_length_le (by omega)] at hy
      exact CompRest.zero (fin ys hy)
    | succ j ih =>
      intro i ys hi hy
      refine CompRest.succ ?_
      intro v I oI C oC D m₂ h tk E' hvi hC hx F N off ne
      obtain ⟨y, t, rfl, hyi⟩ := hv.item i v (by simpa using hvi)
      refine wpAny_mono (turn y t I oI C oC D m₂ ys h tk E' (List.mem_of_getElem? hyi) hC hx F N) (fun r s₂ hr => ?_) fun _ _ e => e
      obtain ⟨⟨t', rfl⟩, h', tk', news', e, F', N', hk, _⟩ := hr
      refine ⟨h', tk', news, e, F', fun p hp => N' p (hk p hp), off, hS, ih (i + 1) _ (by omega) ?_⟩
      rw [List.take_add_one, hyi]
      exact StrsAre.append' hy (.cons y t' .nil)
  rw [List.size_toArray, hlen]
  exact key ds.length 0 [] (by omega) .nil
theorem truthy_strsL {E : Value → Shared → Prop} {s : Shared} {l : Addr} {vs : List Value} {nn : Nat} {xs : List Str} {news : List (Addr × Obj)} {Q : Bool → Shared → Prop} (N : News h₀ L s.heap news) (hl : (l, listOf vs.toArray nn) ∈ news) (hv : StrsAre vs xs) (hb : xs.length ≤ 100)
    (h1 : xs = [] → Q false { s with toks := s.toks + 1 + 1 }) (h2 : xs ≠ [] → Q true { s with toks := s.toks + 1 + 1 }) : wpAny (model prog w) A (truthy (.ref l)) Q E s := by
  have hls : s.heap.IsList l vs.toArray := ⟨_, (N _ hl).1, rfl, nn, rfl⟩
  have hlen := hv.length
  refine wpAny_truthy_list hls (by rw [List.size_toArray, hlen]; omega) ?_
  cases hv with
  | nil => exact h1 rfl
  | cons y t _ => exact h2 (by simp)
end
end Mine
end
section
open PySem PySem.W PyProof.Rows PySem.Calls
set_option Elab.async false
set_option maxRecDepth 100000
namespace Mine
/-- what an outer turn hands on -/
def OutPost {σ : Type} (h₀ : Heap) (L : Addr) (x : Str) (stored : List Str) (m₀ : Str → Option Value) (Led : σ → List (Addr × Obj)) (Facts : σ → Prop) (it : Addr × Obj) (s₁ : Shared) (Q : Flow → Shared → Prop) (f : Flow) (s₂ : Shared) : Prop :=
  match f with
  | .ret v => Q (.ret v) s₂
  | .brk => Q .next s₂
  | _ => ∃ (c : σ) (h' : Heap) (tk : Nat) (dr : Drawn) (m' : Str → Option Value) (news' : List (Addr × Obj)), s₂ = { s₁ with heap := h', toks := tk, drawn := dr } ∧ Fr h₀ L h' m' ∧ News h₀ L h' news' ∧ (∀ p ∈ Led c, p ∈ news') ∧ it ∈ news' ∧ Facts c ∧ ∀ z, z ≠ x → stored.contains z = false → m' z = m₀ z
theorem out_next {σ : Type} {h₀ : Heap} {L : Addr} {x : Str} {stored : List Str} {m₀ m' : Str → Option Value} {Led : σ → List (Addr × Obj)} {Facts : σ → Prop} {it : Addr × Obj} {s₁ : Shared} {Q : Flow → Shared → Prop} {h' : Heap} {tk : Nat} {dr : Drawn} {news' : List (Addr × Obj)} (c : σ)
    (F : Fr h₀ L h' m') (N : News h₀ L h' news') (hl : ∀ p ∈ Led c, p ∈ news') (hi : it ∈ news') (hf : Facts c) (hm : ∀ z, z ≠ x → stored.contains z = false → m' z = m₀ z) : OutPost h₀ L x stored m₀ Led Facts it s₁ Q .next { s₁ with heap := h', toks := tk, drawn := dr } :=
  ⟨c, h', tk, dr, m', news', rfl, F, N, hl, hi, hf, hm⟩
section
variable {prog : Program} {w : World} {A : Around} {E : Value → Shared → Prop} {s : Shared} {env : Env} {h₀ : Heap} {x : Str} {body : List Stmt} {Q : Flow → Shared → Prop} {m₀ : Str → Option Value}
def OutAt (prog : Program) (w : World) (A : Around) (h₀ : Heap) (env : Env) (x : Str) (body : List Stmt) (Q : Flow → Shared → Prop) (E : Value → Shared → Prop) (xv : Value) (s : Shared) : Prop :=
  ∃ (σ : Type) (stored : List Str) (m₀ : Str → Option Value) (Led : σ → List (Addr × Obj)) (Facts : Nat → σ → Prop) (c₀ : σ) (adr : List Addr) (l : Addr) (vs : List Value) (ns : List Int) (nn : Nat),
    xv = .ref l ∧ A.handled = none ∧ (∀ c, (Led c).map (·.1) = adr) ∧ (∀ c, (l, listOf vs.toArray nn) ∈ Led c) ∧ IntsAre vs ns ∧ Fr h₀ env.locals s.heap m₀ ∧ News h₀ env.locals s.heap (Led c₀) ∧ Facts 0 c₀ ∧
    (∀ i (c : σ) n t (u : Str → Option Value) h tk dr I oI, i < ns.length → n ∈ ns → Facts i c → Fr h₀ env.locals h (fun z => if z = x then some (.int n t) else if stored.contains z then u z else m₀ z) → News h₀ env.locals h (Led c ++ [(I, oI)]) → (∀ b ∈ adr, @LT.lt Nat _ b I) →
      wpAny (model prog w) A (execs body env) (OutPost h₀ env.locals x stored m₀ Led (Facts (i + 1)) (I, oI) { s with heap := h, toks := tk, drawn := dr } Q) E { s with heap := h, toks := tk, drawn := dr }) ∧
    (∀ (c : σ) (u : Str → Option Value) h tk dr, Facts ns.length c → Fr h₀ env.locals h (fun z => if z = x then u z else if stored.contains z then u z else m₀ z) → News h₀ env.locals h (Led c) → Q .next { s with heap := h, toks := tk, drawn := dr })
theorem out_fr {L : Addr} {h : Heap} {stored : List Str} {m₁ : Str → Option Value} {v : Value} (h2 : ∀ z, z ≠ x → stored.contains z = false → m₁ z = m₀ z) (F : Fr h₀ L h (fun y => if y = x then some v else m₁ y)) :
    Fr h₀ L h (fun z => if z = x then some v else if stored.contains z then m₁ z else m₀ z) := by
  have em : (fun z => if z = x then some v else if stored.contains z then m₁ z else m₀ z) = fun y => if y = x then some v else m₁ y := by
    funext z
    by_cases hz : z = x
    · rw [if_pos hz, if_pos hz]
    · rw [if_neg hz, if_neg hz]
      cases hc : stored.contains z with
      | true => simp
      | false => simp only [Bool.false_eq_true, if_false]; exact (h2 z hz hc).symm
  rw [em]; exact F
theorem out_frEnd {L : Addr} {h : Heap} {stored : List Str} {m₁ : Str → Option Value} (h2 : ∀ z, z ≠ x → stored.contains z = false → m₁ z = m₀ z) (F : Fr h₀ L h m₁) :
    Fr h₀ L h (fun z => if z = x then m₁ z else if stored.contains z then m₁ z else m₀ z) := by
  have em : (fun z => if z = x then m₁ z else if stored.contains z then m₁ z else m₀ z) = m₁ := by
    funext z
    by_cases hz : z = x
    · rw [if_pos hz]
    · rw [if_neg hz]
      cases hc : stored.contains z with
      | true => simp
      | false => simp only [Bool.false_eq_true, if_false]; exact (h2 z hz hc).symm
  rw [em]; exact F
theorem for_out {px pos : Pos} {iter : PySem.Expr} (hF0 : Fr h₀ env.locals s.heap m₀) (hx : env.kindOf x = some .local)
    (hp : (env.scope.kind == .class || (env.scope.kind == .module && env.locals != env.globals)) = false)
    (h : wpAny (model prog w) A (eval iter env) (OutAt prog w A h₀ env x body Q E) E s)
    (hs : ∀ x, foldedSetIterable iter env x = pure x := by intro _; rfl)
    (hE : PassesOwn (model prog w) A env E := by passes_own) :
    wpAny (model prog w) A (exec (.For (.Name x px) iter body [] pos) env) Q E s := by
  refine wpAny_For (wpAny_mono h (fun xv s₁ h₁ => ?_) fun _ _ e => e) hs
  obtain ⟨σ, stored, m₀, Led, Facts, c₀, adr, l, vs, ns, nn, rfl, hh, hadr, hl, hi, F, N, hf, turn, done⟩ := h₁
  have hol : s₁.heap.get? l = some (listOf vs.toArray nn) := (N _ (hl c₀)).1
  have hls : s₁.heap.IsList l vs.toArray := ⟨_, hol, rfl, nn, rfl⟩
  have hlI : l ≠ s₁.heap.objs.size := Nat.ne_of_lt (Heap.lt_size hol)
  have hlen : vs.toArray.size = ns.length := by simp [hi.length]
  have hLlt : env.locals < s₁.heap.objs.size := F.ns.lt
  have hI₀ : h₀.get? s₁.heap.objs.size = none := by
    cases e : h₀.get? s₁.heap.objs.size with
    | none => rfl
    | some o' => exact absurd (Heap.lt_size (F.keep _ o' e)) (Nat.lt_irrefl _)
  have hltI : ∀ b ∈ adr, @LT.lt Nat _ b s₁.heap.objs.size := fun b hb => by
    rw [← hadr c₀] at hb
    obtain ⟨p, hp', rfl⟩ := List.mem_map.mp hb
    exact Heap.lt_size (N p hp').1
  have offI : ∀ (c : σ), ∀ p ∈ Led c, p.1 ≠ s₁.heap.objs.size := fun c p hp' => Nat.ne_of_lt (hltI _ (by rw [← hadr c]; exact List.mem_map.mpr ⟨p, hp', rfl⟩))
  refine wpAny_pyIter_list hls ?_
  refine codeAny_forLoop (fun k s' => ∃ (c : σ) (h' : Heap) (tk : Nat) (dr : Drawn) (m' : Str → Option Value) (i : Nat) (oI : Obj), s' = { s₁ with heap := h', toks := tk, drawn := dr } ∧ i ≤ ns.length ∧ k = ns.length + 1 - i ∧ h'.get? s₁.heap.objs.size = some oI ∧ oI.cls = .type "list_iterator" ∧ oI.data = .fields #[.ref l, .int (i : Int) 0] ∧
      Fr h₀ env.locals h' m' ∧ News h₀ env.locals h' (Led c) ∧ Facts i c ∧ ∀ z, z ≠ x → stored.contains z = false → m' z = m₀ z) ?_ (ns.length + 1)
    ⟨c₀, _, s₁.toks, s₁.drawn, m₀, 0, _, rfl, Nat.zero_le _, rfl, Heap.get?_push_size _ rfl, rfl, rfl, F.push _, (fun p hp' => ⟨Heap.get?_push_of_some _ (N p hp').1, (N p hp').2⟩), hf, fun _ _ _ => rfl⟩
  rintro k s' ⟨c, h', tk, dr, m', i, oI, rfl, hile, rfl, hoI, hcI, hdI, F', N', hf', hm'⟩
  have hit : h'.IsListIter s₁.heap.objs.size l i := ⟨oI, hoI, hcI, hdI⟩
  have hl' : h'.IsList l vs.toArray := ⟨_, (N' _ (hl c)).1, rfl, nn, rfl⟩
  by_cases hlt : i < ns.length
  · obtain ⟨t, hx'⟩ := hi.get i ns[i] (by simp [hlt])
    refine wpAny_pyNext_list_item hit hl' (x := .int ns[i] t) (by simpa using hx') fun h₁ hit₁ hs₁ => ?_
    have up : ∀ b o, b ≠ s₁.heap.objs.size → h'.get? b = some o → h₁.get? b = some o := fun b o hb e => hs₁.extBut b o hb e
    have F₁ : Fr h₀ env.locals h₁ m' := ⟨F'.ns.at' fun o e => up _ o (Nat.ne_of_lt hLlt) e, fun b o e => up b o (fun q => by rw [q, hI₀] at e; cases e) (F'.keep b o e), F'.above⟩
    have N₁ : News h₀ env.locals h₁ (Led c) := fun p hp' => ⟨up _ _ (offI c p hp') (N' p hp').1, (N' p hp').2⟩
    refine wpAny_assign_Name (wpAny_storeName_local hx F₁.ns (fun h₂ hn₂ hs₂ => ?_) hp)
    have F₂ := F₁.set hn₂ hs₂
    have N₂ := N₁.set hs₂
    obtain ⟨oI₁, hoI₁, hcI₁, hdI₁⟩ := id hit₁
    have hoI₂ : h₂.get? s₁.heap.objs.size = some oI₁ := (hs₂.2 _ (Nat.ne_of_gt hLlt)).trans hoI₁
    have N₃ : News h₀ env.locals h₂ (Led c ++ [(s₁.heap.objs.size, oI₁)]) := fun p hp' => by
      rcases List.mem_append.mp hp' with h3 | h3
      · exact N₂ p h3
      · rw [List.mem_singleton.mp h3]
        exact ⟨hoI₂, Nat.ne_of_gt hLlt, hI₀⟩
    refine wpAny_mono (wpAny_passesOwn hE (turn i c ns[i] t m' h₂ _ dr s₁.heap.objs.size oI₁ hlt (List.getElem_mem hlt) hf' (out_fr hm' F₂) N₃ hltI)) (fun f s₃ h₃ => ?_) fun _ _ e => e
    cases f with
    | ret v => exact h₃
    | brk => exact h₃
    | next =>
      obtain ⟨c', h₃', tk₃, dr₃, m₃, news₃, rfl, F₃, N₃', hl₃, hi₃, hf₃, hm₃⟩ := h₃
      exact ⟨ns.length + 1 - (i + 1), by omega, c', h₃', tk₃, dr₃, m₃, i + 1, oI₁, rfl, hlt, rfl, (N₃' _ hi₃).1, hcI₁, hdI₁, F₃, fun p hp' => N₃' p (hl₃ p hp'), hf₃, hm₃⟩
    | cont =>
      obtain ⟨c', h₃', tk₃, dr₃, m₃, news₃, rfl, F₃, N₃', hl₃, hi₃, hf₃, hm₃⟩ := h₃
      exact ⟨ns.length + 1 - (i + 1), by omega, c', h₃', tk₃, dr₃, m₃, i + 1, oI₁, rfl, hlt, rfl, (N₃' _ hi₃).1, hcI₁, hdI₁, F₃, fun p hp' => N₃' p (hl₃ p hp'), hf₃, hm₃⟩
  · have hin : i = ns.length := by omega
    subst hin
    refine wpAny_pyNext_list_end hh hit hl' (by simp [hi.length]) fun h₁ hk₁ => wpAny_execs_nil ?_
    have up : ∀ b o, b ≠ s₁.heap.objs.size → h'.get? b = some o → h₁.get? b = some o := fun b o hb e => hk₁ b o hb e
    have F₁ : Fr h₀ env.locals h₁ m' := ⟨F'.ns.at' fun o e => up _ o (Nat.ne_of_lt hLlt) e, fun b o e => up b o (fun q => by rw [q, hI₀] at e; cases e) (F'.keep b o e), F'.above⟩
    exact done c m' h₁ _ dr hf' (out_frEnd hm' F₁) fun p hp' => ⟨up _ _ (offI c p hp') (N' p hp').1, (N' p hp').2⟩
end
end Mine
end
section
open PySem PySem.W PyProof.Rows PySem.Calls
set_option Elab.async false
namespace Mine
local macro_rules | `(tactic| walk_at "exec For Name Attribute cons nil") => `(tactic| (k_here; (rename Fr _ _ _ _ => lF'); (with_unfolding_all refine' For_invVF lF' ?k1 ?k2 ?_; (case k1 => exact rfl); (case k2 => exact rfl); k_whole)))
local macro_rules | `(tactic| walk_at "SrchPost next") => `(tactic| (k_here; refine' srch_next ?k1 ?k2 ?k3 ?k4 ?k5; (case k1 => with_unfolding_all assumption); (case k2 => k_asm); (case k3 => k_asm); (case k4 => (intro p9 h9; exact h9)); (case k5 => (intro z9 h9; exact if_neg h9))))
local macro_rules | `(tactic| walk_at "SrchPost ret") => `(tactic| (k_here; dsimp only [SrchPost]))
set_option maxRecDepth 100000 in
set_option maxHeartbeats 800000 in
theorem names_tells (w : World) (p : Program) (loose : List Str) (mean : ExcName → Option Value) (mg mb : Str → Option Value) : NamesTells PySem.Challenge.rw_xb0048_01.row.prog w (hd.heap_39 w.params) p loose mean mg mb 86 83 := by
  w_top off
  k_fill
  intro dp un gd cn cs a ccd cl outer A₀ base h₀ L m s Q E x dx S D G t1 t2 t3 nx oS oG vd nd ms ds kvs c nm tn fo own B F X N T hk hne hoff hlo hS hv hd hf hc hsm hnl hfl hdp hun hret
  obtain ⟨n1, n2, n3, n4, n5, n6, n7, n8, n9, n10⟩ := hne
  obtain ⟨nS, hnS, hSo⟩ := hS.objOf
  unfold scanBound at hnS
  have hret' : ∀ (r : Int) (cc : List (Str × Int)) (h' : Heap) (tk : Nat) (dr : Drawn) (oG' : Obj) (kvs' : List (Str × Value)) (t : Tok), Fr h₀ L h' m → News h₀ L h' (igLed w.params 86 x dx S D G t1 t2 t3 nx oS (listOf vd.toArray nd) oG' own) → oG'.IsDictOf (PySem.strKind PySem.Challenge.rw_xb0048_01.row.prog w) kvs' → PyProof.V.FlatPairs PyData.str kvs' (kdpD cc) → r = nmVal ms ds c nm (fo.map (·.1)) ∧ cc = nmPut ms ds c nm (fo.map (·.1)) → Q (.int r t) { s with heap := h', toks := tk, drawn := dr } :=
    fun r cc h' tk dr oG' kvs' t a1 a2 a3 a4 ⟨e1, e2⟩ => by subst e1; subst e2; exact hret h' tk dr oG' kvs' t a1 a2 a3 a4
  clear hret
  unfold igLed at N hret'
  cases fo with
  | none =>
    dsimp only [fileV, Option.map] at *
    refine wpAny_call ?_
    k_dflt ktr_enter
    k_steps
    any_goals (first | (with_reducible show wpAny _ _ _ _ _ _) | (refine' hret' _ _ _ _ _ _ _ _ ?k1 ?k2 ?k3 ?k4 ?k5; (case k1 => k_asm); (case k2 => first | k_asm | exact news_cut (by assumption)); (case k3 => k_asm); (case k4 => k_asm); (case k5 => first | exact nmVal_old (by assumption) | exact nmVal_new (by assumption) (due_mem (by assumption)) | exact nmVal_new (by assumption) (due_sub (by assumption) (by assumption)) | exact nmVal_new (by assumption) due_none | exact nmVal_new (by assumption) (due_dir (by assumption) (by assumption)) | exact nmVal_new (by assumption) (due_zero (by assumption) (by assumption) (by assumption)))))
    refine' search_set (fun y => sub nm y "." = false) (by rfl) ?hm hS (by assumption) (by assumption) ?turn ?done
    case hm => k_mem
    case turn =>
      intro y ty h2 tk2 own2 dr2 hy hoff2 F2 N2
      have hyl := hsm.mL y hy
      simp only [List.cons_append] at N2
      simp only [List.map_cons] at hoff2
      have hoff3 : OwnOff (own ++ own2) [x, dx, S, D, G] := fun p hp => (List.mem_append.mp hp).elim (hoff p) fun h b hb => hoff2 p h b (by simp only [List.mem_cons, List.not_mem_nil, or_false] at hb ⊢; rcases hb with hb | hb | hb | hb | hb <;> simp [hb])
      (show wpAny _ _ _ _ _ _)
      k_fold
      k_steps
      all_goals (refine' hret' _ _ _ _ _ _ _ _ ?k1 ?k2 ?k3 ?k4 ?k5; (case k1 => k_asm); (case k2 => first | k_asm | exact news_cut (by assumption)); (case k3 => k_asm); (case k4 => k_asm); (case k5 => first | exact nmVal_old (by assumption) | exact nmVal_new (by assumption) (due_mem (by assumption)) | exact nmVal_new (by assumption) (due_sub (by assumption) (by assumption)) | exact nmVal_new (by assumption) due_none | exact nmVal_new (by assumption) (due_dir (by assumption) (by assumption)) | exact nmVal_new (by assumption) (due_zero (by assumption) (by assumption) (by assumption))))
    case done => 
      intro hno u h2 tk2 dr2 F2 N2
      k_steps
      all_goals (refine' hret' _ _ _ _ _ _ _ _ ?k1 ?k2 ?k3 ?k4 ?k5; (case k1 => k_asm); (case k2 => first | k_asm | exact news_cut (by assumption)); (case k3 => k_asm); (case k4 => k_asm); (case k5 => first | exact nmVal_old (by assumption) | exact nmVal_new (by assumption) (due_mem (by assumption)) | exact nmVal_new (by assumption) (due_sub (by assumption) (by assumption)) | exact nmVal_new (by assumption) due_none | exact nmVal_new (by assumption) (due_dir (by assumption) (by assumption)) | exact nmVal_new (by assumption) (due_zero (by assumption) (by assumption) (by assumption))))
  | some q =>
    obtain ⟨f, tf⟩ := q
    have hfl := hfl _ rfl
    dsimp only [fileV, Option.map] at *
    refine wpAny_call ?_
    k_dflt ktr_enter
    k_steps
    any_goals (first | (with_reducible show wpAny _ _ _ _ _ _) | (refine' hret' _ _ _ _ _ _ _ _ ?k1 ?k2 ?k3 ?k4 ?k5; (case k1 => k_asm); (case k2 => first | k_asm | exact news_cut (by assumption)); (case k3 => k_asm); (case k4 => k_asm); (case k5 => first | exact nmVal_old (by assumption) | exact nmVal_new (by assumption) (due_mem (by assumption)) | exact nmVal_new (by assumption) (due_sub (by assumption) (by assumption)) | exact nmVal_new (by assumption) due_none | exact nmVal_new (by assumption) (due_dir (by assumption) (by assumption)) | exact nmVal_new (by assumption) (due_zero (by assumption) (by assumption) (by assumption)))))
    refine' search_set (fun y => sub nm y "." = false) (by rfl) ?hm hS (by assumption) (by assumption) ?turn ?done
    case hm => k_mem
    case turn =>
      intro y ty h2 tk2 own2 dr2 hy hoff2 F2 N2
      have hyl := hsm.mL y hy
      simp only [List.cons_append] at N2
      simp only [List.map_cons] at hoff2
      have hoff3 : OwnOff (own ++ own2) [x, dx, S, D, G] := fun p hp => (List.mem_append.mp hp).elim (hoff p) fun h b hb => hoff2 p h b (by simp only [List.mem_cons, List.not_mem_nil, or_false] at hb ⊢; rcases hb with hb | hb | hb | hb | hb <;> simp [hb])
      (show wpAny _ _ _ _ _ _)
      k_fold
      k_steps
      all_goals (refine' hret' _ _ _ _ _ _ _ _ ?k1 ?k2 ?k3 ?k4 ?k5; (case k1 => k_asm); (case k2 => first | k_asm | exact news_cut (by assumption)); (case k3 => k_asm); (case k4 => k_asm); (case k5 => first | exact nmVal_old (by assumption) | exact nmVal_new (by assumption) (due_mem (by assumption)) | exact nmVal_new (by assumption) (due_sub (by assumption) (by assumption)) | exact nmVal_new (by assumption) due_none | exact nmVal_new (by assumption) (due_dir (by assumption) (by assumption)) | exact nmVal_new (by assumption) (due_zero (by assumption) (by assumption) (by assumption))))
    case done => 
      intro hno u h2 tk2 dr2 F2 N2
      k_steps
      refine' search_list (fun y => sub f y "/" = false) (by rfl) ?hm hv (by assumption) (by assumption) ?turn ?done
      case hm => k_mem
      case turn =>
        intro y ty h2 tk2 own2 hy hoff2 F2 N2
        have hyl := hsm.dL y hy
        simp only [List.cons_append] at N2
        simp only [List.map_cons] at hoff2
        have hoff3 : OwnOff (own ++ own2) [x, dx, S, D, G] := fun p hp => (List.mem_append.mp hp).elim (hoff p) fun h b hb => hoff2 p h b (by simp only [List.mem_cons, List.not_mem_nil, or_false] at hb ⊢; rcases hb with hb | hb | hb | hb | hb <;> simp [hb])
        (show wpAny _ _ _ _ _ _)
        k_fold
        k_steps
        all_goals (refine' hret' _ _ _ _ _ _ _ _ ?k1 ?k2 ?k3 ?k4 ?k5; (case k1 => k_asm); (case k2 => first | k_asm | exact news_cut (by assumption)); (case k3 => k_asm); (case k4 => k_asm); (case k5 => first | exact nmVal_old (by assumption) | exact nmVal_new (by assumption) (due_mem (by assumption)) | exact nmVal_new (by assumption) (due_sub (by assumption) (by assumption)) | exact nmVal_new (by assumption) due_none | exact nmVal_new (by assumption) (due_dir (by assumption) (by assumption)) | exact nmVal_new (by assumption) (due_zero (by assumption) (by assumption) (by assumption))))
      case done =>
        intro hno2 u3 h3 tk3 F3 N3
        k_steps
        all_goals (refine' hret' _ _ _ _ _ _ _ _ ?k1 ?k2 ?k3 ?k4 ?k5; (case k1 => k_asm); (case k2 => first | k_asm | exact news_cut (by assumption)); (case k3 => k_asm); (case k4 => k_asm); (case k5 => first | exact nmVal_old (by assumption) | exact nmVal_new (by assumption) (due_mem (by assumption)) | exact nmVal_new (by assumption) (due_sub (by assumption) (by assumption)) | exact nmVal_new (by assumption) due_none | exact nmVal_new (by assumption) (due_dir (by assumption) (by assumption)) | exact nmVal_new (by assumption) (due_zero (by assumption) (by assumption) (by assumption))))
end Mine
end
section
open PySem PySem.W PyProof.Rows PySem.Calls
set_option Elab.async false
namespace Mine
local macro_rules | `(tactic| walk_at "nothing") => `(tactic| fail "nothing")
local macro_rules | `(tactic| k_room) => `(tactic| ktr_room)
local macro_rules | `(tactic| k_units) => `(tactic| ktr_units)
theorem unr_end {h₀ : Heap} {L I : Addr} {it : Obj} {rest : (Str → Option Value) → List (Addr × Obj) → Prop} {s₁ : Shared} {h' : Heap} {tk : Nat} {m' : Str → Option Value} {news' : List (Addr × Obj)} (F : Fr h₀ L h' m') (N : News h₀ L h' ((I, it) :: news'))
    (off : ∀ p ∈ news', p.1 ≠ I) (r : rest m' news') : UnrEnd h₀ L s₁ I it rest { s₁ with heap := h', toks := tk } :=
  UnrEnd.intro F N news' (fun p hp => hp) off r
local macro_rules | `(tactic| walk_at "exec For Name Name cons nil") => `(tactic| (k_here; (rename Fr _ _ _ _ => lF'); (with_unfolding_all refine' For_invVF lF' ?k1 ?k2 ?_; (case k1 => exact rfl); (case k2 => exact rfl); k_whole)))
local macro_rules | `(tactic| walk_at "pyIter ref") => `(tactic| ((with_reducible show wpAny _ _ (pyIter (Value.ref _)) (fun it s₂ => LoopAtV _ _ _ _ _ _ _ _ _ it s₂) _ _); (rename Fr _ _ _ _ => lF'); (rename News _ _ _ _ => lN'); (with_unfolding_all refine' iter_listUnr (by rfl) lF' lN' ?km ?kc ?kd ?kr); (case km => k_mem); (case kc => exact rfl); (case kd => exact rfl); clear lF' lN'; intro i' l1; (k_lt l1)))
local macro_rules | `(tactic| walk_at "UnrEnd") => `(tactic| (refine' unr_end ?k1 ?k2 ?k3 ⟨?k4, ?_⟩; (case k1 => k_asm); (case k2 => k_asm); (case k3 => k_all); (case k4 => k_mem)))
theorem news_sub {h₀ h : Heap} {L : Addr} {l l' : List (Addr × Obj)} (N : News h₀ L h l) (hs : ∀ p ∈ l', p ∈ l) : News h₀ L h l' := fun p hp => N p (hs p hp)
def NormTells (prog : Program) (w : World) (K : Frag) (p : Program) (loose : List Str) (mean : ExcName → Option Value) (mg mb : Str → Option Value) (f : Addr) (d : Str) : Prop :=
  ∀ (dp un : Nat) (gd : Option (List Code)) (cn : Str) (nms : List (Str × NameKind)) (ig ic : Bool) (mr : List (Str × Const)) (a : Addr) (ccd : Value) (cl : List (Str × Addr)) (outer : List Env) (A₀ : Around) (base h₀ : Heap) (L : Addr) (m : Str → Option Value) (s : Shared) (Q E : Value → Shared → Prop)
    (td : Tok) (own : List (Addr × Obj)),
    Below A₀ base outer h₀ → Fr h₀ L s.heap m → K.In h₀ → News h₀ L s.heap own → Top p loose mean mg mb h₀ → dp + 15 < recursionLimit → un + 200 < cLine →
    (∀ h' tk t, Fr h₀ L h' m → News h₀ L h' own → Q (.str d t) { s with heap := h', toks := tk }) →
    wpAny (model prog w) (ktrTop dp un gd cn { kind := .function, names := nms, isGenerator := ig, isCoroutine := ic, more := mr } L a ccd cl outer) (call (.ref f) [.str d td]) Q E s
set_option maxRecDepth 100000 in
set_option maxHeartbeats 1600000 in
theorem norm1 (w : World) (p : Program) (loose : List Str) (mean : ExcName → Option Value) (mg mb : Str → Option Value) : NormTells PySem.Challenge.rw_xb0048_01.row.prog w (hd.heap_39 w.params) p loose mean mg mb 63 (Str.ofString "/x") := by
  w_top off
  k_fill
  have hMk := kstMark
  intro dp un gd cn nms ig ic mr a ccd cl outer A₀ base h₀ L m s Q E td own B F X N T hdp hun hret
  have hret' : ∀ (h' : Heap) (tk : Nat) (x : Str) (t : Tok), x = Str.ofString "/x" → Fr h₀ L h' m → News h₀ L h' own → Q (.str x t) { s with heap := h', toks := tk } := fun h' tk x t e a1 a2 => by subst e; exact hret h' tk t a1 a2
  clear hret
  k_steps
  all_goals (refine' hret' _ _ _ _ ?k0 ?k1 ?k2; (case k0 => decide +kernel); (case k1 => k_asm); (case k2 => exact news_sub (by assumption) (by intro p9 h9; simp [h9])))
set_option maxRecDepth 100000 in
set_option maxHeartbeats 1600000 in
theorem norm2 (w : World) (p : Program) (loose : List Str) (mean : ExcName → Option Value) (mg mb : Str → Option Value) : NormTells PySem.Challenge.rw_xb0048_01.row.prog w (hd.heap_39 w.params) p loose mean mg mb 63 (Str.ofString "/x/y") := by
  w_top off
  k_fill
  have hMk := kstMark
  intro dp un gd cn nms ig ic mr a ccd cl outer A₀ base h₀ L m s Q E td own B F X N T hdp hun hret
  have hret' : ∀ (h' : Heap) (tk : Nat) (x : Str) (t : Tok), x = Str.ofString "/x/y" → Fr h₀ L h' m → News h₀ L h' own → Q (.str x t) { s with heap := h', toks := tk } := fun h' tk x t e a1 a2 => by subst e; exact hret h' tk t a1 a2
  clear hret
  k_steps
  all_goals (refine' hret' _ _ _ _ ?k0 ?k1 ?k2; (case k0 => decide +kernel); (case k1 => k_asm); (case k2 => exact news_sub (by assumption) (by intro p9 h9; simp [h9])))
set_option maxRecDepth 100000 in
set_option maxHeartbeats 1600000 in
theorem norm3 (w : World) (p : Program) (loose : List Str) (mean : ExcName → Option Value) (mg mb : Str → Option Value) : NormTells PySem.Challenge.rw_xb0048_01.row.prog w (hd.heap_39 w.params) p loose mean mg mb 63 (Str.ofString "z") := by
  w_top off
  k_fill
  have hMk := kstMark
  intro dp un gd cn nms ig ic mr a ccd cl outer A₀ base h₀ L m s Q E td own B F X N T hdp hun hret
  have hret' : ∀ (h' : Heap) (tk : Nat) (x : Str) (t : Tok), x = Str.ofString "z" → Fr h₀ L h' m → News h₀ L h' own → Q (.str x t) { s with heap := h', toks := tk } := fun h' tk x t e a1 a2 => by subst e; exact hret h' tk t a1 a2
  clear hret
  k_steps
  all_goals (refine' hret' _ _ _ _ ?k0 ?k1 ?k2; (case k0 => decide +kernel); (case k1 => k_asm); (case k2 => exact news_sub (by assumption) (by intro p9 h9; simp [h9])))
end Mine
end
section
open PySem PySem.W PyProof.Rows PySem.Calls
set_option Elab.async false
set_option maxRecDepth 100000
namespace Mine
theorem norm_any (w : World) (p : Program) (loose : List Str) (mean : ExcName → Option Value) (mg mb : Str → Option Value) {y : Str} (hy : y ∈ dirsAll) : NormTells PySem.Challenge.rw_xb0048_01.row.prog w (hd.heap_39 w.params) p loose mean mg mb 63 y := by
  unfold dirsAll at hy
  simp only [List.mem_cons, List.not_mem_nil, or_false] at hy
  rcases hy with rfl | rfl | rfl
  · exact norm1 w p loose mean mg mb
  · exact norm2 w p loose mean mg mb
  · exact norm3 w p loose mean mg mb
theorem norm_use {w : World} {p : Program} {loose : List Str} {mean : ExcName → Option Value} {mg mb : Str → Option Value} {y : Str} {dp un : Nat} {gd : Option (List Code)} {cn : Str} {nms : List (Str × NameKind)} {ig ic : Bool} {mr : List (Str × Const)} {a : Addr} {ccd : Value} {cl : List (Str × Addr)} {outer : List Env} {A₀ : Around} {base h₀ : Heap} {L : Addr} {m : Str → Option Value} {s : Shared} {Q E : Value → Shared → Prop}
    {td : Tok} {own : List (Addr × Obj)}
    (B : Below A₀ base outer h₀) (F : Fr h₀ L s.heap m) (X : (hd.heap_39 w.params).In h₀) (N : News h₀ L s.heap own) (T : Top p loose mean mg mb h₀) (hy : y ∈ dirsAll) (hdp : dp + 15 < recursionLimit) (hun : un + 200 < cLine)
    (hret : ∀ h' tk t, Fr h₀ L h' m → News h₀ L h' own → Q (.str y t) { s with heap := h', toks := tk }) :
    wpAny (model PySem.Challenge.rw_xb0048_01.row.prog w) (ktrTop dp un gd cn { kind := .function, names := nms, isGenerator := ig, isCoroutine := ic, more := mr } L a ccd cl outer) (call (.ref 63) [.str y td]) Q E s :=
  norm_any w p loose mean mg mb hy dp un gd cn nms ig ic mr a ccd cl outer A₀ base h₀ L m s Q E td own B F X N T hdp hun hret
local macro_rules | `(tactic| k_room) => `(tactic| ktr_room)
local macro_rules | `(tactic| k_units) => `(tactic| ktr_units)
local macro_rules | `(tactic| walk_at "call type:set") => `(tactic| (k_here; (with_reducible show wpAny _ _ (call (Value.type "set") [Value.ref _] _) _ _ _); k_dflt (refine' call_set_N ?hh ?F ?N ?hl ?hv ?hb ?_; (case hh => rfl); (case F => k_asm); (case N => k_asm); (case hl => k_mem); (case hv => assumption); (case hb => omega)); intro d' h' tk' oS' F' N' l1 hS'; (k_lt l1)))
local macro_rules | `(tactic| walk_at "call ref") => `(tactic| (k_here; (with_reducible show wpAny _ _ (call (Value.ref 63) [Value.str _ _] _) _ _ _); k_dflt (refine' norm_use ?B ?F ?X ?N ?T ?hy ?hdp ?hun ?_; (case B => k_asm); (case F => k_asm); (case X => k_asm); (case N => k_asm); (case T => k_asm); (case hy => exact (by assumption : ∀ x ∈ _, x ∈ dirsAll) _ (by assumption)); (case hdp => ktr_room); (case hun => ((have hcL9 := cLine_is); (simp only [units_in1, units_deeper, units_under_make, Around.mark_units, units_caller] at *); (try dsimp only [ktrTop] at *); omega))); intro h' tk' t' F' N'))
local macro_rules | `(tactic| walk_at "ElEnd") => `(tactic| (k_here; k_dflt (refine' el_end ?k0 ?k1 ?k2 ?k3; (case k0 => rfl); (case k1 => k_asm); (case k2 => k_asm); (case k3 => (intro p9 h9; exact h9)))))
local macro_rules | `(tactic| walk_at "truthy ref") => `(tactic| (k_here; k_dflt (refine' truthy_strsL ?N ?hl ?hv ?hb (fun _ => ?_) (fun _ => ?_); (case N => k_asm); (case hl => k_mem); (case hv => assumption); (case hb => omega))))
local macro_rules | `(tactic| walk_at "eval ListComp") => `(tactic| (k_here; k_dflt (refine' LCg.ListComp_U ?F ?h1 ?h2 ?h3 ?h4 ?h5 ?_ ?h6; (case F => k_asm); (case h1 => rfl); (case h2 => decide); (case h3 => rfl); (case h4 => decide); (case h5 => rfl); (case h6 => (intro _; with_unfolding_all rfl)))))
local macro_rules | `(tactic| walk_at "CompSrc") => `(tactic| (k_here; k_dflt (refine' LCg.CompSrc.ledger ?hh ?F ?N ?hm ?hz ?_; (case hh => rfl); (case F => k_asm); (case N => k_asm); (case hm => k_mem); (case hz => ((have hl9 := StrsAre.length (by assumption)); rw [List.size_toArray, PySem.sizeLine_eq]; omega)); intro g'; refine' rest_strs ?hS ?hv ?_ ?_; (case hS => exact .inr ⟨_, by k_mem, rfl, _, rfl⟩); (case hv => assumption))))
theorem off1_mem {D : Addr} : ∀ {l : List (Addr × Obj)}, LCg.Off1 D l → ∀ p ∈ l, p.1 ≠ D
  | [], _, _, h => nomatch h
  | _ :: _, x, p, h => by
    rcases List.mem_cons.mp h with rfl | h
    · exact x.1
    · exact off1_mem x.2 p h
theorem below_lt {D D' : Addr} {l : List (Addr × Obj)} (h : AllLt D l) (hd : D < D') : ∀ p ∈ l, p.1 ≠ D' := fun p hp => Nat.ne_of_lt (Nat.lt_trans (kst_ltOf h p hp) hd)
def IgTells (prog : Program) (w : World) (K : Frag) (p : Program) (loose : List Str) (mean : ExcName → Option Value) (mg mb : Str → Option Value) (C : Addr) : Prop :=
  ∀ (dp un : Nat) (gd : Option (List Code)) (cn : Str) (nms : List (Str × NameKind)) (ig ic : Bool) (mr : List (Str × Const)) (a : Addr) (ccd : Value) (cl : List (Str × Addr)) (outer : List Env) (A₀ : Around) (base h₀ : Heap) (L : Addr) (m : Str → Option Value) (s : Shared) (Q E : Value → Shared → Prop)
    (lm ld : Addr) (vm vd : List Value) (cm cd : Nat) (ms ds : List Str) (own : List (Addr × Obj)),
    Below A₀ base outer h₀ → Fr h₀ L s.heap m → K.In h₀ → News h₀ L s.heap ((lm, listOf vm.toArray cm) :: (ld, listOf vd.toArray cd) :: own) → Top p loose mean mg mb h₀ →
    StrsAre vm ms → StrsAre vd ds → ms.length ≤ 3 → ds.length ≤ 3 → (∀ x ∈ ds, x ∈ dirsAll) → dp + 30 < recursionLimit → un + 400 < cLine →
    (∀ h' tk x dx S D G t1 t2 t3 nx oS oG vD nD kvs, Fr h₀ L h' m → News h₀ L h' (igLed w.params C x dx S D G t1 t2 t3 nx oS (listOf vD.toArray nD) oG ((lm, listOf vm.toArray cm) :: (ld, listOf vd.toArray cd) :: own)) →
      OwnOff ((lm, listOf vm.toArray cm) :: (ld, listOf vd.toArray cd) :: own) [x, dx, S, D, G] → (@Ne Nat x dx ∧ @Ne Nat x S ∧ @Ne Nat x D ∧ @Ne Nat x G ∧ @Ne Nat dx S ∧ @Ne Nat dx D ∧ @Ne Nat dx G ∧ @Ne Nat S D ∧ @Ne Nat S G ∧ @Ne Nat D G) → (G == sysModules) = false →
      StrSet prog w oS ms → StrsAre vD ds → oG.IsDictOf (PySem.strKind prog w) kvs → PyProof.V.FlatPairs PyData.str kvs (kdpD [(Str.ofString "<string>", 1)]) → Q (.ref x) { s with heap := h', toks := tk }) →
    wpAny (model prog w) (ktrTop dp un gd cn { kind := .function, names := nms, isGenerator := ig, isCoroutine := ic, more := mr } L a ccd cl outer) (call (.ref C) [.ref lm, .ref ld]) Q E s
set_option maxRecDepth 100000 in
set_option maxHeartbeats 1600000 in
theorem ig_tells (w : World) (p : Program) (loose : List Str) (mean : ExcName → Option Value) (mg mb : Str → Option Value) : IgTells PySem.Challenge.rw_xb0048_01.row.prog w (hd.heap_39 w.params) p loose mean mg mb 86 := by
  w_top off
  k_fill
  have hMk := kstMark
  intro dp un gd cn nms ig ic mr a ccd cl outer A₀ base h₀ L m s Q E lm ld vm vd cm cd ms ds own B F X N T hvm hvd hm3 hd3 hdd hdp hun hret
  have hret' : ∀ (h' : Heap) (tk : Nat) (x dx S D G : Addr) (t1 t2 t3 : Tok) (nx : Nat) (oS oG : Obj) (vD : List Value) (nD : Nat) (kvs : List (Str × Value)), Fr h₀ L h' m →
      News h₀ L h' ((G, oG) :: (D, listOf vD.toArray nD) :: (S, oS) :: (x, instObj 86 dx) :: (dx, dictOf [⟨PyData.keyHash w.params (Str.ofString "_mods"), .str (Str.ofString "_mods") t1, .ref S⟩, ⟨PyData.keyHash w.params (Str.ofString "_dirs"), .str (Str.ofString "_dirs") t2, .ref D⟩, ⟨PyData.keyHash w.params (Str.ofString "_ignore"), .str (Str.ofString "_ignore") t3, .ref G⟩] nx) :: (lm, listOf vm.toArray cm) :: (ld, listOf vd.toArray cd) :: own) →
      ((∀ b ∈ [x, dx, S, D, G], lm ≠ b) ∧ (∀ b ∈ [x, dx, S, D, G], ld ≠ b) ∧ ∀ b ∈ [x, dx, S, D, G], ∀ p ∈ own, p.1 ≠ b) → (@Ne Nat x dx ∧ @Ne Nat x S ∧ @Ne Nat x D ∧ @Ne Nat x G ∧ @Ne Nat dx S ∧ @Ne Nat dx D ∧ @Ne Nat dx G ∧ @Ne Nat S D ∧ @Ne Nat S G ∧ @Ne Nat D G) → (G == sysModules) = false →
      StrSet PySem.Challenge.rw_xb0048_01.row.prog w oS ms → StrsAre vD ds → oG.IsDictOf (PySem.strKind PySem.Challenge.rw_xb0048_01.row.prog w) kvs → PyProof.V.FlatPairs PyData.str kvs (kdpD [(Str.ofString "<string>", 1)]) → Q (.ref x) { s with heap := h', toks := tk } := by
    intro h' tk x dx S D G t1 t2 t3 nx oS oG vD nD kvs a1 a2 a3 a4 a5 a6 a7 a8 a9
    refine hret h' tk x dx S D G t1 t2 t3 nx oS oG vD nD kvs a1 (fun p hp => a2 p ?_) (fun p hp => ?_) a4 a5 a6 a7 a8 a9
    · simp only [igLed, List.mem_cons] at hp ⊢
      rcases hp with h | h | h | h | h | h | h | h <;> simp [h]
    · rcases List.mem_cons.mp hp with rfl | hp
      · exact a3.1
      rcases List.mem_cons.mp hp with rfl | hp
      · exact a3.2.1
      · exact fun b hb => a3.2.2 b hb p hp
  clear hret
  k_steps
  all_goals (refine' hret' _ _ _ _ _ _ _ _ _ _ _ _ _ _ _ _ ?k1 ?k2 ?k3 ?k4 ?k5 ?k6 ?k7 ?k8 ?k9; (case k1 => k_asm); (case k2 => k_asm); (case k3 => refine ⟨?_, ?_, ?_⟩; (refine List.forall_mem_cons.mpr ⟨neN ?_, List.forall_mem_cons.mpr ⟨neN ?_, List.forall_mem_cons.mpr ⟨neN ?_, List.forall_mem_cons.mpr ⟨neN ?_, List.forall_mem_cons.mpr ⟨neN ?_, List.forall_mem_nil _⟩⟩⟩⟩⟩ <;> omega); (refine List.forall_mem_cons.mpr ⟨neN ?_, List.forall_mem_cons.mpr ⟨neN ?_, List.forall_mem_cons.mpr ⟨neN ?_, List.forall_mem_cons.mpr ⟨neN ?_, List.forall_mem_cons.mpr ⟨neN ?_, List.forall_mem_nil _⟩⟩⟩⟩⟩ <;> omega); (refine List.forall_mem_cons.mpr ⟨?_, List.forall_mem_cons.mpr ⟨?_, List.forall_mem_cons.mpr ⟨?_, List.forall_mem_cons.mpr ⟨?_, List.forall_mem_cons.mpr ⟨?_, List.forall_mem_nil _⟩⟩⟩⟩⟩ <;> first | k_all | exact off1_mem (And.right (And.right (And.right (And.right (And.right (by assumption)))))) | exact below_lt (And.right (And.right (by assumption))) (by omega))); (case k4 => refine ⟨neN ?_, neN ?_, neN ?_, neN ?_, neN ?_, neN ?_, neN ?_, neN ?_, neN ?_, neN ?_⟩ <;> omega); (case k5 => k_asm); (case k6 => first | assumption | (rw [(by assumption : ms = [])]; exact strset_empty)); (case k7 => first | assumption | (rw [(by assumption : ds = [])]; exact .nil)); (case k8 => k_asm); (case k9 => with_unfolding_all assumption))
end Mine
end
section
open PySem PySem.W PyProof.Rows PySem.Calls PyProof.Rows.LCg
set_option Elab.async false
set_option maxRecDepth 100000
namespace Mine
/-- the letter of a filter -/
structure PredBox (k : Nat) (p : Str → Bool) : Prop where
  intro ::
def ElNo (y : Str) (p : Str → Bool) (h₀ : Heap) (L : Addr) (m : Str → Option Value) (s₁ : Shared) (keep : List (Addr × Obj)) (s₂ : Shared) : Prop := EnEnd h₀ L m s₁ keep (p y = false) s₂
def ElYes (y : Str) (p : Str → Bool) (h₀ : Heap) (L : Addr) (m : Str → Option Value) (s₁ : Shared) (keep : List (Addr × Obj)) (r : Value) (s₂ : Shared) : Prop := (∃ t, r = .str y t) ∧ EnEnd h₀ L m s₁ keep (p y = true) s₂
theorem el_no {y : Str} {p : Str → Bool} {h₀ : Heap} {L : Addr} {m : Str → Option Value} {s₁ : Shared} {keep news' : List (Addr × Obj)} {h' : Heap} {tk : Nat} (hp : p y = false) (F : Fr h₀ L h' m) (N : News h₀ L h' news') (hk : ∀ p ∈ keep, p ∈ news') : ElNo y p h₀ L m s₁ keep { s₁ with heap := h', toks := tk } :=
  ⟨h', tk, news', rfl, F, N, hk, hp⟩
theorem el_yes {y x : Str} {t : Tok} {p : Str → Bool} {h₀ : Heap} {L : Addr} {m : Str → Option Value} {s₁ : Shared} {keep news' : List (Addr × Obj)} {h' : Heap} {tk : Nat} (hx : x = y) (hp : p y = true) (F : Fr h₀ L h' m) (N : News h₀ L h' news') (hk : ∀ p ∈ keep, p ∈ news') : ElYes y p h₀ L m s₁ keep (.str x t) { s₁ with heap := h', toks := tk } :=
  ⟨⟨t, by rw [hx]⟩, h', tk, news', rfl, F, N, hk, hp⟩
section
variable {prog : Program} {w : World} {A : Around} {h₀ : Heap} {L : Addr} {m : Str → Option Value} {env : Env}
theorem rest_filter {ct elt : PySem.Expr} {x : Str} {scope : Scope} {cl : List (Str × Addr)} {s : Shared} {S : List (Addr × Obj) → Prop} {Fin : List Value → List (Addr × Obj) → Prop} {vs : List Value} {ds : List Str} {news : List (Addr × Obj)} {p : Str → Bool} {k : Nat} (_ : PredBox k p) (hS : S news) (hv : StrsAre vs ds) (hb : ∀ y ∈ ds, y.length ≤ 20)
    (turn : ∀ y t I oI C oC D m₂ ys h tk (E' : Value → Shared → Prop), y ∈ ds → y.length ≤ 20 → NsObj oC m₂ → m₂ x = some (.str y t) → Fr h₀ L h m → News h₀ L h ((I, oI) :: (C, oC) :: (D, lst ys) :: news) →
      wpAny (model prog w) A (isTrue ct (compEnvC scope cl C env) (eval ct (compEnvC scope cl C env))) (fun ok s₃ => if ok = true then
        wpAny (model prog w) A (eval elt (compEnvC scope cl C env)) (ElYes y p h₀ L m { s with heap := h, toks := tk } ((I, oI) :: (C, oC) :: (D, lst ys) :: news)) E' s₃
        else ElNo y p h₀ L m { s with heap := h, toks := tk } ((I, oI) :: (C, oC) :: (D, lst ys) :: news) s₃) E' { s with heap := h, toks := tk })
    (fin : ∀ ys, StrsAre ys (ds.filter p) → Fin ys news) : LCt.CompRestT prog w A h₀ L m env ct elt x scope cl s S (fun i v => vs.toArray[i]? = some v) Fin vs.toArray.size 0 [] news := by
  have hlen := hv.length
  have key : ∀ (j i : Nat) (ys : List Value), i + j = ds.length → StrsAre ys ((ds.take i).filter p) → LCt.CompRestT prog w A h₀ L m env ct elt x scope cl s S (fun i v => vs.toArray[i]? = some v) Fin j i ys news := by
    intro j
    induction j with
    | zero =>
      intro i ys hi hy
      rw [List.take_of_length_le (by omega)] at hy
      exact LCt.CompRestT.zero (fin ys hy)
    | succ j ih =>
      intro i ys hi hy
      refine LCt.CompRestT.succ ?_
      intro v I oI C oC D m₂ h tk E' hvi hC hx F N off ne
      obtain ⟨y, t, rfl, hyi⟩ := hv.item i v (by simpa using hvi)
      refine wpAny_mono (turn y t I oI C oC D m₂ ys h tk E' (List.mem_of_getElem? hyi) (hb y (List.mem_of_getElem? hyi)) hC hx F N) (fun ok s₂ hq => ?_) fun _ _ e => e
      cases ok with
      | true =>
        simp only [if_true] at hq ⊢
        refine wpAny_mono hq (fun r s₃ hr => ?_) fun _ _ e => e
        obtain ⟨⟨t', rfl⟩, h', tk', news', e, F', N', hk, hp⟩ := hr
        refine ⟨h', tk', news, e, F', fun q hq => N' q (hk q hq), off, hS, ih (i + 1) _ (by omega) ?_⟩
        rw [List.take_add_one, hyi, List.filter_append]
        simp only [Option.toList, List.filter_cons, hp, if_true, List.filter_nil]
        exact StrsAre.append' hy (.cons y t' .nil)
      | false =>
        simp only [Bool.false_eq_true, if_false] at hq ⊢
        obtain ⟨h', tk', news', e, F', N', hk, hp⟩ := hq
        refine ⟨h', tk', news, e, F', fun q hq => N' q (hk q hq), off, hS, ih (i + 1) _ (by omega) ?_⟩
        rw [List.take_add_one, hyi, List.filter_append]
        simp only [Option.toList, List.filter_cons, hp, Bool.false_eq_true, if_false, List.filter_nil, List.append_nil]
        exact hy
  rw [List.size_toArray, hlen]
  exact key ds.length 0 [] (by omega) .nil
theorem ok_filter {ds : List Str} {p : Str → Bool} (h : ∀ y ∈ ds, PyData.strOk y = true) : ∀ y ∈ ds.filter p, PyData.strOk y = true := fun y hy => h y (List.mem_filter.mp hy).1
theorem shaped_strs (xs : List Str) (hok : ∀ y ∈ xs, PyData.strOk y = true) : SeqAt.shaped (.list (xs.map PyData.str)) = true := by
  have h1 : ∀ xs : List Str, (∀ y ∈ xs, PyData.strOk y = true) → PyData.canLayAll0 (xs.map PyData.str) = true := by
    intro xs
    induction xs with
    | nil => intro _; rfl
    | cons a r ih => intro h; simp [PyData.canLayAll0, PyData.canLay0, ih fun y hy => h y (.tail _ hy), h a (.head _)]
  have h2 : ∀ xs : List Str, PyData.depthAll (xs.map PyData.str) = 0 := by
    intro xs
    induction xs with
    | nil => rfl
    | cons a r ih => simp [PyData.depthAll, PyData.depth, ih]
  simp [SeqAt.shaped, PyData.canLay0, PyData.depth, h1 xs hok, h2]
theorem same_strs_nil : ∀ xs : List Str, PySem.Spec.same (.list (xs.map PyData.str)) (.list (([] : List Str).map PyData.str)) = decide (xs = [])
  | [] => by simp [PySem.Spec.same, PySem.Spec.sameAll]
  | _ :: _ => by simp [PySem.Spec.same, PySem.Spec.sameAll]
theorem ne_strs_nil {E : Value → Shared → Prop} {s : Shared} {a b : Addr} {vs : List Value} {nb : Nat} {xs : List Str} {news : List (Addr × Obj)} {Q : Value → Shared → Prop} (N : News h₀ L s.heap news) (ha : (a, lst vs) ∈ news) (hb : (b, listOf [].toArray nb) ∈ news) (hv : StrsAre vs xs) (hok : ∀ y ∈ xs, PyData.strOk y = true) (hu : A.units + 64 < cLine)
    (h1 : xs = [] → Q (.bool false) s) (h2 : xs ≠ [] → Q (.bool true) s) : wpAny (model prog w) A (compareOp .NotEq (.ref a) (.ref b)) Q E s := by
  refine ne_dataH_same (reads_newData (ys := vs) ⟨_, (N _ ha).1, rfl, _, rfl⟩ hv.carried) (reads_newData (ys := []) ⟨_, (N _ hb).1, rfl, nb, rfl⟩ StrsAre.nil.carried) (shaped_strs _ hok) (shaped_strs [] fun _ h => nomatch h) hu (SeqAt.noMix_of_shape (.list .str) rfl _ _ (list_map_has fun _ => rfl) (list_map_has fun _ => rfl)) ?_
  rw [same_strs_nil]
  by_cases e : xs = []
  · rw [decide_eq_true e]; exact h1 e
  · rw [decide_eq_false e]; exact h2 e
end
theorem slice_pre {nm Y : Str} {k : Nat} (hk : Y.length = k + 1) : (Txt.slice nm none (some ((k : Int) + 1)) == Y) = PySem.Txt.startswith nm Y := by
  have la : nm.cps.toList.length = nm.length := Array.length_toList
  unfold PySem.Txt.startswith
  by_cases h : k + 1 ≤ nm.length
  · have e : Txt.slice nm none (some ((k : Int) + 1)) = ⟨(nm.cps.toList.take (k + 1)).toArray⟩ := by
      show StrLaws.sliceText nm none (some ((k : Int) + 1)) = _
      rw [StrLaws.sliceText_to ⟨by omega, by rw [la]; omega⟩, List.drop_zero, show ((k : Int) + 1 - 0).toNat = k + 1 by omega]
    have d : decide (0 + Y.length ≤ nm.length) = true := decide_eq_true (by omega)
    rw [e, d, Bool.true_and, StrLaws.subAt_eq, List.drop_zero, hk, Bool.eq_iff_iff, beq_iff_eq, beq_iff_eq]
    constructor
    · intro q; rw [← q]
    · intro q; rw [q]
  · have d : decide (0 + Y.length ≤ nm.length) = false := decide_eq_false (by omega)
    rw [d, Bool.false_and, beq_eq_false_iff_ne]
    intro q
    have := Txt.slice_le nm none (some ((k : Int) + 1))
    rw [q] at this
    omega
theorem sub_slice {nm y : Str} {b : Bool} {z : String} (h : (Txt.slice nm none (some ((y.length : Int) + 1)) == y ++ Str.ofString z) = b) (hz : (Str.ofString z).length = 1 := by rfl) : sub nm y z = b := by
  unfold sub
  rw [← slice_pre (k := y.length) (by rw [PySem.Str.length_append, hz])]
  exact h
theorem small_list {vs : List Value} {ds : List Str} (h : StrsAre vs ds) (hd : ds.length ≤ 3) : vs.toArray.size ≤ sizeLine := by
  rw [List.size_toArray, h.length, PySem.sizeLine_eq]; omega
theorem filt_nil {ds : List Str} {p : Str → Bool} (h : ds.filter p = []) : ∀ y ∈ ds, p y = false := fun y hy => by
  cases e : p y with
  | false => rfl
  | true => have := List.mem_filter.mpr ⟨hy, e⟩; rw [h] at this; cases this
theorem filt_some {ds : List Str} {p : Str → Bool} (h : ds.filter p ≠ []) : ∃ y ∈ ds, p y = true := by
  cases e : ds.filter p with
  | nil => exact absurd e h
  | cons y r => exact ⟨y, List.mem_filter.mp (e ▸ List.mem_cons_self)⟩
theorem due_mem' {ms ds : List Str} {nm : Str} {fo : Option Str} (h : (ms.any fun x => x == nm) = true) : due ms ds nm fo = 1 := by
  obtain ⟨y, hy, e⟩ := List.any_eq_true.mp h
  exact due_mem (eq_of_beq e ▸ hy)
theorem due_sub' {ms ds : List Str} {nm : Str} {fo : Option Str} (h : ms.filter (fun y => sub nm y ".") ≠ []) : due ms ds nm fo = 1 := by
  obtain ⟨y, hy, e⟩ := filt_some h
  exact due_sub hy e
theorem due_dir' {ms ds : List Str} {nm f : Str} (h : ds.filter (fun y => sub f y "/") ≠ []) : due ms ds nm (some f) = 1 := by
  obtain ⟨y, hy, e⟩ := filt_some h
  exact due_dir hy e
theorem due_zero' {ms ds : List Str} {nm f : Str} (h1 : (ms.any fun x => x == nm) = false) (h2 : ms.filter (fun y => sub nm y ".") = []) (h3 : ds.filter (fun y => sub f y "/") = []) : due ms ds nm (some f) = 0 :=
  due_zero (fun h => by have : (ms.any fun x => x == nm) = true := List.any_eq_true.mpr ⟨nm, h, beq_self_eq_true nm⟩; rw [h1] at this; cases this) (filt_nil h2) (filt_nil h3)
end Mine
end
section
open PySem PySem.W PyProof.Rows PySem.Calls
set_option Elab.async false
set_option maxRecDepth 100000
namespace Mine
local macro_rules | `(tactic| walk_at "nothing") => `(tactic| fail "nothing")
local macro_rules | `(tactic| k_room) => `(tactic| ktr_room)
local macro_rules | `(tactic| k_units) => `(tactic| ktr_units)
local macro_rules | `(tactic| walk_at "eval ListComp") => `(tactic| (k_here; k_dflt (refine' LCt.ListComp_T ?F ?h1 ?h2 ?h3 ?h4 ?h5 ?_ ?h6; (case F => k_asm); (case h1 => rfl); (case h2 => decide); (case h3 => rfl); (case h4 => decide); (case h5 => rfl); (case h6 => (intro _; with_unfolding_all rfl)))))
local macro_rules | `(tactic| walk_at "CompSrcT") => `(tactic| (k_here; (with_reducible show LCt.CompSrcT _ _ _ _ _ _ _ _ (Expr.Name (Str.ofString "mod") _) _ _ _ _ _ _); k_dflt (refine' LCt.CompSrcT.ledger ?hh ?F ?N ?hm ?hz ?_; (case hh => rfl); (case F => k_asm); (case N => k_asm); (case hm => k_mem); (case hz => exact small_list (by assumption) (by assumption)); intro g'; refine' rest_filter (by assumption : PredBox 1 _) ?hS ?hv ?hb ?_ ?_; (case hS => exact .inr ⟨_, by k_mem, rfl, _, rfl⟩); (case hv => assumption); (case hb => assumption))))
local macro_rules | `(tactic| walk_at "CompSrcT") => `(tactic| (k_here; (with_reducible show LCt.CompSrcT _ _ _ _ _ _ _ _ (Expr.Name (Str.ofString "one") _) _ _ _ _ _ _); k_dflt (refine' LCt.CompSrcT.ledger ?hh ?F ?N ?hm ?hz ?_; (case hh => rfl); (case F => k_asm); (case N => k_asm); (case hm => k_mem); (case hz => exact small_list (by assumption) (by assumption)); intro g'; refine' rest_filter (by assumption : PredBox 2 _) ?hS ?hv ?hb ?_ ?_; (case hS => exact .inr ⟨_, by k_mem, rfl, _, rfl⟩); (case hv => assumption); (case hb => assumption))))
local macro_rules | `(tactic| walk_at "compareOp NotEq ref ref") => `(tactic| (k_here; k_dflt (refine' ne_strs_nil ?N ?ha ?hb ?hv ?hok ?hu ?_ ?_; (case N => k_asm); (case ha => k_mem); (case hb => k_mem); (case hv => assumption); (case hok => exact ok_filter (by assumption)); (case hu => ktr_units))))
local macro_rules | `(tactic| walk_at "ElYes") => `(tactic| (k_here; k_dflt (refine' el_yes ?k0 ?k1 ?k2 ?k3 ?k4; (case k0 => rfl); (case k1 => exact sub_slice (by assumption)); (case k2 => k_asm); (case k3 => k_asm); (case k4 => (intro p9 h9; exact h9)))))
local macro_rules | `(tactic| walk_at "ElNo") => `(tactic| (k_here; k_dflt (refine' el_no ?k1 ?k2 ?k3 ?k4; (case k1 => exact sub_slice (by assumption)); (case k2 => k_asm); (case k3 => k_asm); (case k4 => (intro p9 h9; exact h9)))))
def DueTells (prog : Program) (w : World) (K : Frag) (p : Program) (loose : List Str) (mean : ExcName → Option Value) (mg mb : Str → Option Value) (f : Addr) : Prop :=
  ∀ (dp un : Nat) (gd : Option (List Code)) (cn : Str) (nms : List (Str × NameKind)) (ig ic : Bool) (mr : List (Str × Const)) (a : Addr) (ccd : Value) (cl : List (Str × Addr)) (outer : List Env) (A₀ : Around) (base h₀ : Heap) (L : Addr) (m : Str → Option Value) (s : Shared) (Q E : Value → Shared → Prop)
    (lm ld : Addr) (vm vd : List Value) (cm cd : Nat) (ms ds : List Str) (nm : Str) (tn : Tok) (fo : Option (Str × Tok)) (own : List (Addr × Obj)),
    Below A₀ base outer h₀ → Fr h₀ L s.heap m → K.In h₀ → News h₀ L s.heap ((lm, listOf vm.toArray cm) :: (ld, listOf vd.toArray cd) :: own) → Top p loose mean mg mb h₀ →
    StrsAre vm ms → StrsAre vd ds → Small ms ds → (∀ y ∈ ms, PyData.strOk y = true) → (∀ y ∈ ds, PyData.strOk y = true) → nm.length ≤ 20 → (∀ q, fo = some q → q.1.length ≤ 20) → dp + 30 < recursionLimit → un + 400 < cLine →
    (∀ h' tk t, Fr h₀ L h' m → News h₀ L h' ((lm, listOf vm.toArray cm) :: (ld, listOf vd.toArray cd) :: own) → Q (.int (due ms ds nm (fo.map (·.1))) t) { s with heap := h', toks := tk }) →
    wpAny (model prog w) (ktrTop dp un gd cn { kind := .function, names := nms, isGenerator := ig, isCoroutine := ic, more := mr } L a ccd cl outer) (call (.ref f) [.ref lm, .ref ld, .str nm tn, fileV fo]) Q E s
set_option maxHeartbeats 400000 in
theorem due_tells (w : World) (p : Program) (loose : List Str) (mean : ExcName → Option Value) (mg mb : Str → Option Value) : DueTells PySem.Challenge.rw_xb0048_01.row.prog w (hd.heap_39 w.params) p loose mean mg mb 95 := by
  w_top off
  k_fill
  have hMk := kstMark
  intro dp un gd cn nms ig ic mr a ccd cl outer A₀ base h₀ L m s Q E lm ld vm vd cm cd ms ds nm tn fo own B F X N T hvm hvd hsm hokm hokd hnl hfl hdp hun hret
  obtain ⟨hm3, hd3, hmL, hdL⟩ := id hsm
  have hret' : ∀ (r : Int) (h' : Heap) (tk : Nat) (t : Tok), Fr h₀ L h' m → News h₀ L h' ((lm, listOf vm.toArray cm) :: (ld, listOf vd.toArray cd) :: own) → due ms ds nm (fo.map (·.1)) = r → Q (.int r t) { s with heap := h', toks := tk } :=
    fun r h' tk t a1 a2 e => by subst e; exact hret h' tk t a1 a2
  clear hret
  cases fo with
  | none =>
    dsimp only [fileV, Option.map] at *
    have bx : PredBox 1 (fun y => sub nm y ".") := .intro
    k_steps
    all_goals (first | (with_reducible show wpAny _ _ _ _ _ _) | (refine' hret' _ _ _ _ ?k1 ?k2 ?k3; (case k1 => k_asm); (case k2 => first | k_asm | (refine' fun p9 h9 => (?nn : News _ _ _ _) p9 ?mm; (case nn => assumption); (case mm => repeat (first | exact h9 | refine .tail _ ?_)))); (case k3 => first | exact due_mem' (by assumption) | exact due_sub' (by assumption) | exact due_none | exact due_dir' (by assumption) | exact due_zero' (by assumption) (by assumption) (by assumption))))
  | some q =>
    obtain ⟨f, tf⟩ := q
    have hfl := hfl _ rfl
    dsimp only [fileV, Option.map] at *
    have bx : PredBox 1 (fun y => sub nm y ".") := .intro
    have by' : PredBox 2 (fun y => sub f y "/") := .intro
    k_steps
    all_goals (first | (with_reducible show wpAny _ _ _ _ _ _) | (refine' hret' _ _ _ _ ?k1 ?k2 ?k3; (case k1 => k_asm); (case k2 => first | k_asm | (refine' fun p9 h9 => (?nn : News _ _ _ _) p9 ?mm; (case nn => assumption); (case mm => repeat (first | exact h9 | refine .tail _ ?_)))); (case k3 => first | exact due_mem' (by assumption) | exact due_sub' (by assumption) | exact due_none | exact due_dir' (by assumption) | exact due_zero' (by assumption) (by assumption) (by assumption))))
end Mine
end
section
open PySem PySem.W PyProof.Rows PySem.Calls PyProof.Rows.LCg
set_option Elab.async false
set_option maxRecDepth 100000
namespace Mine
theorem ig_use {w : World} {p : Program} {loose : List Str} {mean : ExcName → Option Value} {mg mb : Str → Option Value} {dp un : Nat} {gd : Option (List Code)} {cn : Str} {nms : List (Str × NameKind)} {ig ic : Bool} {mr : List (Str × Const)} {a : Addr} {ccd : Value} {cl : List (Str × Addr)} {outer : List Env} {A₀ : Around} {base h₀ : Heap} {L : Addr} {m : Str → Option Value} {s : Shared} {Q E : Value → Shared → Prop}
    {lm ld Dm Dd : Addr} {vm vd : List Value} {cm cd : Nat} {ms ds : List Str} {news : List (Addr × Obj)}
    (B : Below A₀ base outer h₀) (F : Fr h₀ L s.heap m) (X : (hd.heap_39 w.params).In h₀) (N : News h₀ L s.heap news) (T : Top p loose mean mg mb h₀)
    (hfm : m (Str.ofString "mods") = some (.ref Dm)) (hfd : m (Str.ofString "dirs") = some (.ref Dd)) (hDm : (Dm, lst vm) ∈ news) (hDd : (Dd, lst vd) ∈ news) (hlm : (lm, listOf vm.toArray cm) ∈ news) (hld : (ld, listOf vd.toArray cd) ∈ news)
    (hvm : StrsAre vm ms) (hvd : StrsAre vd ds) (hm3 : ms.length ≤ 3) (hd3 : ds.length ≤ 3) (hmm : ∀ x ∈ ms, x ∈ modsAll) (hdd : ∀ x ∈ ds, x ∈ dirsAll) (hdp : dp + 30 < recursionLimit) (hun : un + 400 < cLine)
    (hret : ∀ h' tk x dx S D G t1 t2 t3 nx oS oG vD nD kvs, Fr h₀ L h' m → News h₀ L h' (igLed w.params 86 x dx S D G t1 t2 t3 nx oS (listOf vD.toArray nD) oG [(Dm, lst vm), (Dd, lst vd)]) →
      OwnOff [(Dm, lst vm), (Dd, lst vd)] [x, dx, S, D, G] → (@Ne Nat x dx ∧ @Ne Nat x S ∧ @Ne Nat x D ∧ @Ne Nat x G ∧ @Ne Nat dx S ∧ @Ne Nat dx D ∧ @Ne Nat dx G ∧ @Ne Nat S D ∧ @Ne Nat S G ∧ @Ne Nat D G) → (G == sysModules) = false →
      StrSet PySem.Challenge.rw_xb0048_01.row.prog w oS ms → StrsAre vD ds → oG.IsDictOf (PySem.strKind PySem.Challenge.rw_xb0048_01.row.prog w) kvs → PyProof.V.FlatPairs PyData.str kvs (kdpD [(Str.ofString "<string>", 1)]) → Small ms ds ∧ (∀ y ∈ ms, PyData.strOk y = true) ∧ (∀ y ∈ ds, PyData.strOk y = true) → Q (.ref x) { s with heap := h', toks := tk }) :
    wpAny (model PySem.Challenge.rw_xb0048_01.row.prog w) (ktrTop dp un gd cn { kind := .function, names := nms, isGenerator := ig, isCoroutine := ic, more := mr } L a ccd cl outer) (call (.ref 86) [.ref lm, .ref ld]) Q E s := by
  have big : ∀ l : List Str, (∀ x ∈ l, x.length ≤ 20 ∧ PyData.strOk x = true) → ∀ ks : List Str, (∀ x ∈ ks, x ∈ l) → (∀ x ∈ ks, x.length ≤ 20) ∧ (∀ x ∈ ks, PyData.strOk x = true) := fun l h ks hk => ⟨fun x hx => (h x (hk x hx)).1, fun x hx => (h x (hk x hx)).2⟩
  have bm := big modsAll (by
    intro x hx
    simp only [modsAll, List.mem_cons, List.not_mem_nil, or_false] at hx
    rcases hx with rfl | rfl | rfl <;> exact ⟨by decide, by kernel_rfl⟩) ms hmm
  have bd := big dirsAll (by
    intro x hx
    simp only [dirsAll, List.mem_cons, List.not_mem_nil, or_false] at hx
    rcases hx with rfl | rfl | rfl <;> exact ⟨by decide, by kernel_rfl⟩) ds hdd
  refine ig_tells w p loose mean mg mb dp un gd cn nms ig ic mr a ccd cl outer A₀ base h₀ L m s Q E lm ld vm vd cm cd ms ds [(Dm, lst vm), (Dd, lst vd)] B F X (fun p hp => N p ?_) T hvm hvd hm3 hd3 hdd hdp hun ?_
  · simp only [List.mem_cons, List.not_mem_nil, or_false] at hp
    rcases hp with rfl | rfl | rfl | rfl <;> assumption
  · intro h' tk x dx S D G t1 t2 t3 nx oS oG vD nD kvs F' N' O' ne hg hS hD hk hfp
    refine hret h' tk x dx S D G t1 t2 t3 nx oS oG vD nD kvs F' (fun p hp => N' p ?_) (fun p hp => O' p (.tail _ (.tail _ hp))) ne hg hS hD hk hfp ⟨⟨hm3, hd3, bm.1, bd.1⟩, bm.2, bd.2⟩
    simp only [igLed, List.mem_cons, List.not_mem_nil, or_false] at hp ⊢
    rcases hp with h | h | h | h | h | h | h <;> simp [h]
end Mine
end
section
open PySem PySem.W PyProof.Rows PySem.Calls PyProof.Rows.LCg
set_option Elab.async false
set_option maxRecDepth 100000
namespace Mine
structure St where
  oT : Obj
  kT : List (Str × Value)
  oG : Obj
  kG : List (Str × Value)
  c : List (Str × Int)
abbrev lPg : Program := PySem.Challenge.rw_xb0048_01.row.prog
structure LawBox (w : World) (x dx S D G l Tt Dm Dd I : Addr) (t1 t2 t3 : Tok) (nx : Nat) (oS : Obj) (vD : List Value) (nD : Nat) (vm vd : List Value) (ms ds : List Str) : Prop where
  ne : (@Ne Nat x dx ∧ @Ne Nat x S ∧ @Ne Nat x D ∧ @Ne Nat x G ∧ @Ne Nat dx S ∧ @Ne Nat dx D ∧ @Ne Nat dx G ∧ @Ne Nat S D ∧ @Ne Nat S G ∧ @Ne Nat D G)
  off : ∀ a ∈ [l, Tt, Dm, Dd, I], ∀ b ∈ [x, dx, S, D, G], @Ne Nat a b
  sys : (G == sysModules) = false
  set : StrSet lPg w oS ms
  dirs : StrsAre vD ds
  mods' : StrsAre vm ms
  dirs' : StrsAre vd ds
  small : Small ms ds
  okm : ∀ y ∈ ms, PyData.strOk y = true
  okd : ∀ y ∈ ds, PyData.strOk y = true
/-- the ledger of a turn -/
abbrev turnLed (P : Params) (x dx S D G l Tt Dm Dd I : Addr) (t1 t2 t3 : Tok) (nx : Nat) (oS : Obj) (vD : List Value) (nD : Nat) (vm vd : List Value) (oL oT oG oI : Obj) : List (Addr × Obj) :=
  [(l, oL), (Tt, oT), (x, instObj 86 dx), (dx, dictOf [⟨PyData.keyHash P (Str.ofString "_mods"), .str (Str.ofString "_mods") t1, .ref S⟩, ⟨PyData.keyHash P (Str.ofString "_dirs"), .str (Str.ofString "_dirs") t2, .ref D⟩, ⟨PyData.keyHash P (Str.ofString "_ignore"), .str (Str.ofString "_ignore") t3, .ref G⟩] nx),
    (S, oS), (D, listOf vD.toArray nD), (G, oG), (Dm, lst vm), (Dd, lst vd), (I, oI)]
section
variable {w : World} {p : Program} {loose : List Str} {mean : ExcName → Option Value} {mg mb : Str → Option Value} {dp un : Nat} {gd : Option (List Code)} {cn : Str} {nms : List (Str × NameKind)} {ig ic : Bool} {mr : List (Str × Const)} {a : Addr} {ccd : Value} {cl : List (Str × Addr)} {outer : List Env} {A₀ : Around} {base h₀ : Heap} {L : Addr} {m : Str → Option Value} {s : Shared} {Q E : Value → Shared → Prop}
  {x dx S D G l Tt Dm Dd I : Addr} {t1 t2 t3 : Tok} {nx : Nat} {oS : Obj} {vD : List Value} {nD : Nat} {vm vd : List Value} {ms ds : List Str} {oL oT oG oI : Obj} {news : List (Addr × Obj)} {kvs : List (Str × Value)} {c : List (Str × Int)} {nm : Str} {tn : Tok} {fo : Option (Str × Tok)}
theorem names_call (bx : LawBox w x dx S D G l Tt Dm Dd I t1 t2 t3 nx oS vD nD vm vd ms ds) (B : Below A₀ base outer h₀) (F : Fr h₀ L s.heap m) (X : (hd.heap_39 w.params).In h₀) (N : News h₀ L s.heap news) (T : Top p loose mean mg mb h₀)
    (hin : ∀ q ∈ turnLed w.params x dx S D G l Tt Dm Dd I t1 t2 t3 nx oS vD nD vm vd oL oT oG oI, q ∈ news) (hk : oG.IsDictOf (PySem.strKind lPg w) kvs) (hf : PyProof.V.FlatPairs PyData.str kvs (kdpD c)) (hc : c.length ≤ 100) (hnl : nm.length ≤ 20) (hfl : ∀ q, fo = some q → q.1.length ≤ 20) (hdp : dp + 5 < recursionLimit) (hun : un + 100 < cLine)
    (hret : ∀ h' tk dr oG' kvs' t, Fr h₀ L h' m → News h₀ L h' (turnLed w.params x dx S D G l Tt Dm Dd I t1 t2 t3 nx oS vD nD vm vd oL oT oG' oI) → oG'.IsDictOf (PySem.strKind lPg w) kvs' → PyProof.V.FlatPairs PyData.str kvs' (kdpD (nmPut ms ds c nm (fo.map (·.1)))) →
      Q (.int (nmVal ms ds c nm (fo.map (·.1))) t) { s with heap := h', toks := tk, drawn := dr }) :
    wpAny (model lPg w) (ktrTop dp un gd cn { kind := .function, names := nms, isGenerator := ig, isCoroutine := ic, more := mr } L a ccd cl outer) (call (.ref 83) [.ref x, fileV fo, .str nm tn]) Q E s := by
  have ho : ∀ b ∈ [l, Tt, Dm, Dd, I], ∀ z ∈ [x, dx, S, D, G], b ≠ z := fun b hb z hz => bx.off b hb z hz
  refine names_tells w p loose mean mg mb dp un gd cn _ a ccd cl outer A₀ base h₀ L m s Q E x dx S D G t1 t2 t3 nx oS oG vD nD ms ds kvs c nm tn fo [(l, oL), (Tt, oT), (Dm, lst vm), (Dd, lst vd), (I, oI)] B F X (fun q hq => N q (hin q ?_)) T rfl bx.ne (fun q hq => ?_) bx.sys bx.set bx.dirs hk hf hc bx.small hnl hfl hdp hun ?_
  · simp only [igLed, turnLed, List.mem_cons, List.not_mem_nil, or_false] at hq ⊢
    rcases hq with h | h | h | h | h | h | h | h | h | h <;> simp [h]
  · simp only [List.mem_cons, List.not_mem_nil, or_false] at hq
    rcases hq with rfl | rfl | rfl | rfl | rfl <;> exact ho _ (by simp)
  · intro h' tk dr oG' kvs' t F' N' hk' hf'
    refine hret h' tk dr oG' kvs' t F' (fun q hq => N' q ?_) hk' hf'
    simp only [igLed, turnLed, List.mem_cons, List.not_mem_nil, or_false] at hq ⊢
    rcases hq with h | h | h | h | h | h | h | h | h | h <;> simp [h]
theorem names_old {r : Int} (bx : LawBox w x dx S D G l Tt Dm Dd I t1 t2 t3 nx oS vD nD vm vd ms ds) (B : Below A₀ base outer h₀) (F : Fr h₀ L s.heap m) (X : (hd.heap_39 w.params).In h₀) (N : News h₀ L s.heap news) (T : Top p loose mean mg mb h₀)
    (hin : ∀ q ∈ turnLed w.params x dx S D G l Tt Dm Dd I t1 t2 t3 nx oS vD nD vm vd oL oT oG oI, q ∈ news) (hk : oG.IsDictOf (PySem.strKind lPg w) kvs) (hf : PyProof.V.FlatPairs PyData.str kvs (kdpD c)) (hc : c.length ≤ 100) (hnl : nm.length ≤ 20) (hfl : ∀ q, fo = some q → q.1.length ≤ 20) (hdp : dp + 5 < recursionLimit) (hun : un + 100 < cLine)
    (has : kdpHas c nm = true) (hr : kdpLook c nm 0 = r)
    (hret : ∀ h' tk dr oG' kvs' t, Fr h₀ L h' m → News h₀ L h' (turnLed w.params x dx S D G l Tt Dm Dd I t1 t2 t3 nx oS vD nD vm vd oL oT oG' oI) → oG'.IsDictOf (PySem.strKind lPg w) kvs' → PyProof.V.FlatPairs PyData.str kvs' (kdpD c) → Q (.int r t) { s with heap := h', toks := tk, drawn := dr }) :
    wpAny (model lPg w) (ktrTop dp un gd cn { kind := .function, names := nms, isGenerator := ig, isCoroutine := ic, more := mr } L a ccd cl outer) (call (.ref 83) [.ref x, fileV fo, .str nm tn]) Q E s := by
  refine names_call bx B F X N T hin hk hf hc hnl hfl hdp hun fun h' tk dr oG' kvs' t a1 a2 a3 a4 => ?_
  obtain ⟨e1, e2⟩ := nmVal_old (ms := ms) (ds := ds) (fo := fo.map (·.1)) has
  rw [← e2] at a4
  rw [← e1, hr]
  exact hret h' tk dr oG' kvs' t a1 a2 a3 a4
theorem names_new (bx : LawBox w x dx S D G l Tt Dm Dd I t1 t2 t3 nx oS vD nD vm vd ms ds) (B : Below A₀ base outer h₀) (F : Fr h₀ L s.heap m) (X : (hd.heap_39 w.params).In h₀) (N : News h₀ L s.heap news) (T : Top p loose mean mg mb h₀)
    (hin : ∀ q ∈ turnLed w.params x dx S D G l Tt Dm Dd I t1 t2 t3 nx oS vD nD vm vd oL oT oG oI, q ∈ news) (hk : oG.IsDictOf (PySem.strKind lPg w) kvs) (hf : PyProof.V.FlatPairs PyData.str kvs (kdpD c)) (hc : c.length ≤ 100) (hnl : nm.length ≤ 20) (hfl : ∀ q, fo = some q → q.1.length ≤ 20) (hdp : dp + 5 < recursionLimit) (hun : un + 100 < cLine)
    (has : kdpHas c nm = false)
    (hret : ∀ h' tk dr oG' kvs' t, Fr h₀ L h' m → News h₀ L h' (turnLed w.params x dx S D G l Tt Dm Dd I t1 t2 t3 nx oS vD nD vm vd oL oT oG' oI) → oG'.IsDictOf (PySem.strKind lPg w) kvs' → PyProof.V.FlatPairs PyData.str kvs' (kdpD (kdpPut c nm (due ms ds nm (fo.map (·.1))))) →
      Q (.int (due ms ds nm (fo.map (·.1))) t) { s with heap := h', toks := tk, drawn := dr }) :
    wpAny (model lPg w) (ktrTop dp un gd cn { kind := .function, names := nms, isGenerator := ig, isCoroutine := ic, more := mr } L a ccd cl outer) (call (.ref 83) [.ref x, fileV fo, .str nm tn]) Q E s := by
  refine names_call bx B F X N T hin hk hf hc hnl hfl hdp hun fun h' tk dr oG' kvs' t a1 a2 a3 a4 => ?_
  obtain ⟨e1, e2⟩ := nmVal_new (ms := ms) (ds := ds) (fo := fo.map (·.1)) has rfl
  rw [← e2] at a4
  rw [← e1]
  exact hret h' tk dr oG' kvs' t a1 a2 a3 a4
theorem due_use (bx : LawBox w x dx S D G l Tt Dm Dd I t1 t2 t3 nx oS vD nD vm vd ms ds) (B : Below A₀ base outer h₀) (F : Fr h₀ L s.heap m) (X : (hd.heap_39 w.params).In h₀) (N : News h₀ L s.heap news) (T : Top p loose mean mg mb h₀)
    (hm : (Dm, lst vm) ∈ news) (hd' : (Dd, lst vd) ∈ news) (hnl : nm.length ≤ 20) (hfl : ∀ q, fo = some q → q.1.length ≤ 20) (hdp : dp + 30 < recursionLimit) (hun : un + 400 < cLine)
    (hret : ∀ h' tk t, Fr h₀ L h' m → News h₀ L h' news → Q (.int (due ms ds nm (fo.map (·.1))) t) { s with heap := h', toks := tk }) :
    wpAny (model lPg w) (ktrTop dp un gd cn { kind := .function, names := nms, isGenerator := ig, isCoroutine := ic, more := mr } L a ccd cl outer) (call (.ref 95) [.ref Dm, .ref Dd, .str nm tn, fileV fo]) Q E s := by
  refine due_tells w p loose mean mg mb dp un gd cn nms ig ic mr a ccd cl outer A₀ base h₀ L m s Q E Dm Dd vm vd vm.length vd.length ms ds nm tn fo news B F X (fun q hq => ?_) T bx.mods' bx.dirs' bx.small bx.okm bx.okd hnl hfl hdp hun fun h' tk t a1 a2 => hret h' tk t a1 fun q hq => a2 q (.tail _ (.tail _ hq))
  rcases List.mem_cons.mp hq with rfl | hq
  · exact N _ hm
  rcases List.mem_cons.mp hq with rfl | hq
  · exact N _ hd'
  · exact N q hq
end
section
variable {prog : Program} {w : World} {A : Around} {E : Value → Shared → Prop} {s : Shared} {h₀ : Heap} {L : Addr} {value slice : PySem.Expr} {l : Addr} {vs : List Value} {nn : Nat} {i : Int} {u : Tok} {news : List (Addr × Obj)} {Q : Value → Shared → Prop}
theorem pick_str {ws : List Str} (N : News h₀ L s.heap news) (hl : (l, listOf vs.toArray nn) ∈ news) (hw : StrsAre vs ws) (h0 : 0 ≤ i) (h1 : i < (ws.length : Int)) (hfit : i < 2 ^ 63) (hb : ∀ y ∈ ws, y.length ≤ 20) (h : ∀ nm t', nm.length ≤ 20 → Q (.str nm t') s)
    (hs : subscripted slice false (.ref l) (.int i u) = operate [.ref l, .int i u] (getItem (.ref l) (.int i u)) := by with_unfolding_all rfl) :
    wpAny (model prog w) A (subscriptTail value slice (.ref l) (.int i u)) Q E s := by
  refine KTb.item_list ⟨_, (N _ hl).1, rfl, nn, rfl⟩ hw h0 h1 hfit (fun t' hlt => h _ t' (hb _ ?_)) hs
  rw [List.getD_eq_getElem?_getD, List.getElem?_eq_getElem hlt]
  exact List.getElem_mem hlt
theorem pick_file (N : News h₀ L s.heap news) (hl : (l, listOf vs.toArray nn) ∈ news) (h0 : 0 ≤ i) (h1 : i < (vs.length : Int)) (hfit : i < 2 ^ 63) (hb : ∀ v ∈ vs, ∃ fo, v = fileV fo ∧ ∀ q, fo = some q → q.1.length ≤ 20) (h : ∀ fo, (∀ q, fo = some q → q.1.length ≤ 20) → Q (fileV fo) s)
    (hs : subscripted slice false (.ref l) (.int i u) = operate [.ref l, .int i u] (getItem (.ref l) (.int i u)) := by with_unfolding_all rfl) :
    wpAny (model prog w) A (subscriptTail value slice (.ref l) (.int i u)) Q E s := by
  have hls : s.heap.IsList l vs.toArray := ⟨_, (N _ hl).1, rfl, nn, rfl⟩
  have hlt : i.toNat < vs.length := by omega
  obtain ⟨fo, e, hq⟩ := hb _ (List.getElem_mem hlt)
  exact tail_any hls.typeIs slot_list_getitem.lookup (wpAny_getItem_list hls h0 hfit (x := fileV fo) (by simp [hlt, e]) (h fo hq)) hs
end
end Mine
end
section
open PySem PySem.W PyProof.Rows PySem.Calls PyProof.Rows.LCg
set_option Elab.async false
set_option maxRecDepth 100000
namespace Mine
abbrev lawLed (P : Params) (x dx S D G l Tt Dm Dd : Addr) (t1 t2 t3 : Tok) (nx : Nat) (oS : Obj) (vD : List Value) (nD : Nat) (vm vd : List Value) (oL : Obj) (q : St) : List (Addr × Obj) :=
  [(l, oL), (Tt, q.oT), (x, instObj 86 dx), (dx, dictOf [⟨PyData.keyHash P (Str.ofString "_mods"), .str (Str.ofString "_mods") t1, .ref S⟩, ⟨PyData.keyHash P (Str.ofString "_dirs"), .str (Str.ofString "_dirs") t2, .ref D⟩, ⟨PyData.keyHash P (Str.ofString "_ignore"), .str (Str.ofString "_ignore") t3, .ref G⟩] nx),
    (S, oS), (D, listOf vD.toArray nD), (G, q.oG), (Dm, lst vm), (Dd, lst vd)]
structure lawFacts (w : World) (i : Nat) (q : St) : Prop where
  dT : q.oT.IsDictOf (PySem.strKind lPg w) q.kT
  fT : PyProof.V.FlatPairs PyData.str q.kT (kdpD q.c)
  dG : q.oG.IsDictOf (PySem.strKind lPg w) q.kG
  fG : PyProof.V.FlatPairs PyData.str q.kG (kdpD q.c)
  len : q.c.length ≤ i + 1
  has : kdpHas q.c (Str.ofString "<string>") = true
  one : kdpLook q.c (Str.ofString "<string>") 0 = 1
abbrev lawStored : List Str := [Str.ofString "name", Str.ofString "file"]
theorem stored_ne {z : Str} (h : lawStored.contains z = false) : z ≠ Str.ofString "name" ∧ z ≠ Str.ofString "file" := by
  constructor <;> rintro rfl <;> revert h <;> decide
theorem put_has (c : List (Str × Int)) (k : Str) (v : Int) : kdpHas (kdpPut c k v) k = true := by rw [kdpHas_put]; simp
theorem put_look {c : List (Str × Int)} {k : Str} (v : Int) (h : kdpHas c k = false) : kdpLook (kdpPut c k v) k 0 = v := by
  unfold kdpHas at h
  unfold kdpLook kdpPut
  rw [if_neg (by rw [h]; exact Bool.false_ne_true)]
  have hn : c.find? (fun p => decide (p.1 = k)) = none := by
    rw [List.find?_eq_none]
    intro q hq
    have := List.any_eq_false.mp h q hq
    exact this
  rw [List.find?_append, hn]
  simp
theorem put_keep {c : List (Str × Int)} {k j : Str} {v : Int} {r : Int} (h : kdpHas c k = false) (hj : kdpHas c j = true) (e : kdpLook c j 0 = r) : kdpLook (kdpPut c k v) j 0 = r := by
  rw [← e]
  unfold kdpLook kdpPut
  unfold kdpHas at h hj
  rw [if_neg (by rw [h]; exact Bool.false_ne_true)]
  rw [List.find?_append]
  cases hf : c.find? (fun p => decide (p.1 = j)) with
  | some q => rfl
  | none =>
    rw [List.find?_eq_none] at hf
    obtain ⟨q, hq, hd⟩ := List.any_eq_true.mp hj
    exact absurd hd (hf q hq)
theorem put_has' {c : List (Str × Int)} {k j : Str} {v : Int} (hj : kdpHas c j = true) : kdpHas (kdpPut c k v) j = true := by rw [kdpHas_put, hj, Bool.or_true]
theorem start_has : kdpHas [(Str.ofString "<string>", 1)] (Str.ofString "<string>") = true := by decide
theorem start_one : kdpLook [(Str.ofString "<string>", 1)] (Str.ofString "<string>") 0 = 1 := by decide
section
variable {w : World} {A : Around} {E : Value → Shared → Prop} {s : Shared} {env : Env} {h₀ : Heap} {body : List Stmt} {Q : Flow → Shared → Prop} {m₀ : Str → Option Value}
  {x dx S D G l Tt Dm Dd : Addr} {t1 t2 t3 : Tok} {nx : Nat} {oS : Obj} {vD : List Value} {nD : Nat} {vm vd : List Value} {ms ds : List Str} {oT oG : Obj} {news : List (Addr × Obj)} {kT kG : List (Str × Value)} {vs : List Value} {nn : Nat} {ns : List Int}
theorem law_out {L : Addr} (hL : env.locals = L) (hh : A.handled = none) (F : Fr h₀ L s.heap m₀) (N : News h₀ L s.heap news)
    (hin : ∀ p ∈ lawLed w.params x dx S D G l Tt Dm Dd t1 t2 t3 nx oS vD nD vm vd (listOf vs.toArray nn) ⟨oT, kT, oG, kG, [(Str.ofString "<string>", 1)]⟩, p ∈ news)
    (hi : IntsAre vs ns) (hlen : ns.length ≤ 63) (hkT : oT.IsDictOf (PySem.strKind lPg w) kT) (hfT : PyProof.V.FlatPairs PyData.str kT (kdpD [(Str.ofString "<string>", 1)])) (hkG : oG.IsDictOf (PySem.strKind lPg w) kG) (hfG : PyProof.V.FlatPairs PyData.str kG (kdpD [(Str.ofString "<string>", 1)]))
    (hO : OwnOff [(Dm, lst vm), (Dd, lst vd)] [x, dx, S, D, G]) (hne : (@Ne Nat x dx ∧ @Ne Nat x S ∧ @Ne Nat x D ∧ @Ne Nat x G ∧ @Ne Nat dx S ∧ @Ne Nat dx D ∧ @Ne Nat dx G ∧ @Ne Nat S D ∧ @Ne Nat S G ∧ @Ne Nat D G)) (hsys : (G == sysModules) = false)
    (hset : StrSet lPg w oS ms) (hdirs : StrsAre vD ds) (hmods' : StrsAre vm ms) (hdirs' : StrsAre vd ds) (hsm : Small ms ds ∧ (∀ y ∈ ms, PyData.strOk y = true) ∧ (∀ y ∈ ds, PyData.strOk y = true))
    (lT : (@LT.lt Nat _ x Tt) ∧ (@LT.lt Nat _ dx Tt) ∧ (@LT.lt Nat _ S Tt) ∧ (@LT.lt Nat _ D Tt) ∧ (@LT.lt Nat _ G Tt) ∧ (@LT.lt Nat _ Dm Tt) ∧ (@LT.lt Nat _ Dd Tt)) (ll : (@LT.lt Nat _ Tt l))
    (turn : ∀ (i : Nat) n t (u : Str → Option Value) h tk dr I oI oT kT oG kG c, LawBox w x dx S D G l Tt Dm Dd I t1 t2 t3 nx oS vD nD vm vd ms ds →
      ((@LT.lt Nat _ l I) ∧ (@LT.lt Nat _ Tt I) ∧ (@LT.lt Nat _ x I) ∧ (@LT.lt Nat _ dx I) ∧ (@LT.lt Nat _ S I) ∧ (@LT.lt Nat _ D I) ∧ (@LT.lt Nat _ G I) ∧ (@LT.lt Nat _ Dm I) ∧ (@LT.lt Nat _ Dd I)) →
      ((@LT.lt Nat _ Tt l) ∧ (@LT.lt Nat _ x l) ∧ (@LT.lt Nat _ dx l) ∧ (@LT.lt Nat _ S l) ∧ (@LT.lt Nat _ D l) ∧ (@LT.lt Nat _ G l) ∧ (@LT.lt Nat _ Dm l) ∧ (@LT.lt Nat _ Dd l)) →
      oT.IsDictOf (PySem.strKind lPg w) kT → PyProof.V.FlatPairs PyData.str kT (kdpD c) → oG.IsDictOf (PySem.strKind lPg w) kG → PyProof.V.FlatPairs PyData.str kG (kdpD c) → c.length ≤ i + 1 → i < 63 → c.length ≤ 90 → kdpHas c (Str.ofString "<string>") = true → kdpLook c (Str.ofString "<string>") 0 = 1 →
      Fr h₀ L h (fun z => if z = Str.ofString "number" then some (.int n t) else if z = Str.ofString "name" then u z else if z = Str.ofString "file" then u z else m₀ z) →
      News h₀ L h (turnLed w.params x dx S D G l Tt Dm Dd I t1 t2 t3 nx oS vD nD vm vd (listOf vs.toArray nn) oT oG oI) →
      wpAny (model lPg w) A (execs body env) (OutPost h₀ L (Str.ofString "number") lawStored m₀ (lawLed w.params x dx S D G l Tt Dm Dd t1 t2 t3 nx oS vD nD vm vd (listOf vs.toArray nn)) (lawFacts w (i + 1)) (I, oI) { s with heap := h, toks := tk, drawn := dr } Q) E { s with heap := h, toks := tk, drawn := dr })
    (done : ∀ (u : Str → Option Value) h tk dr oT kT oG kG c, LawBox w x dx S D G l Tt Dm Dd l t1 t2 t3 nx oS vD nD vm vd ms ds → oG.IsDictOf (PySem.strKind lPg w) kG → PyProof.V.FlatPairs PyData.str kG (kdpD c) → c.length ≤ 90 → kdpHas c (Str.ofString "<string>") = true → kdpLook c (Str.ofString "<string>") 0 = 1 →
      oT.IsDictOf (PySem.strKind lPg w) kT →
      Fr h₀ L h (fun z => if z = Str.ofString "number" then u z else if z = Str.ofString "name" then u z else if z = Str.ofString "file" then u z else m₀ z) →
      News h₀ L h (turnLed w.params x dx S D G l Tt Dm Dd l t1 t2 t3 nx oS vD nD vm vd (listOf vs.toArray nn) oT oG (listOf vs.toArray nn)) → Q .next { s with heap := h, toks := tk, drawn := dr }) :
    OutAt lPg w A h₀ env (Str.ofString "number") body Q E (.ref l) s := by
  subst hL
  obtain ⟨l1, l2, l3, l4, l5, l6, l7⟩ := lT
  have hll : ((@LT.lt Nat _ Tt l) ∧ (@LT.lt Nat _ x l) ∧ (@LT.lt Nat _ dx l) ∧ (@LT.lt Nat _ S l) ∧ (@LT.lt Nat _ D l) ∧ (@LT.lt Nat _ G l) ∧ (@LT.lt Nat _ Dm l) ∧ (@LT.lt Nat _ Dd l)) := by
    refine ⟨ll, Nat.lt_trans l1 ll, Nat.lt_trans l2 ll, Nat.lt_trans l3 ll, Nat.lt_trans l4 ll, Nat.lt_trans l5 ll, Nat.lt_trans l6 ll, Nat.lt_trans l7 ll⟩
  have hOm : ∀ b ∈ [x, dx, S, D, G], @Ne Nat Dm b := fun b hb => hO _ (.head _) b hb
  have hOd : ∀ b ∈ [x, dx, S, D, G], @Ne Nat Dd b := fun b hb => hO _ (.tail _ (.head _)) b hb
  have hlt5 : ∀ I : Addr, (∀ b ∈ [x, dx, S, D, G], @LT.lt Nat _ b I) → ∀ b ∈ [x, dx, S, D, G], @Ne Nat I b := fun I h b hb => Nat.ne_of_gt (h b hb)
  have hT5 : ∀ b ∈ [x, dx, S, D, G], @LT.lt Nat _ b Tt := by
    intro b hb
    simp only [List.mem_cons, List.not_mem_nil, or_false] at hb
    rcases hb with rfl | rfl | rfl | rfl | rfl <;> assumption
  have hl5 : ∀ b ∈ [x, dx, S, D, G], @LT.lt Nat _ b l := fun b hb => Nat.lt_trans (hT5 b hb) ll
  have box : ∀ I : Addr, (∀ b ∈ [x, dx, S, D, G], @LT.lt Nat _ b I) → LawBox w x dx S D G l Tt Dm Dd I t1 t2 t3 nx oS vD nD vm vd ms ds := fun I hI =>
    { ne := hne, off := by
        intro a ha
        simp only [List.mem_cons, List.not_mem_nil, or_false] at ha
        rcases ha with rfl | rfl | rfl | rfl | rfl
        · exact hlt5 _ hl5
        · exact hlt5 _ hT5
        · exact hOm
        · exact hOd
        · exact hlt5 _ hI
      sys := hsys, set := hset, dirs := hdirs, mods' := hmods', dirs' := hdirs', small := hsm.1, okm := hsm.2.1, okd := hsm.2.2 }
  have fr2 : ∀ (u : Str → Option Value) (v : Str → Option Value), (fun z => if z = Str.ofString "number" then v z else if lawStored.contains z then u z else m₀ z) = fun z => if z = Str.ofString "number" then v z else if z = Str.ofString "name" then u z else if z = Str.ofString "file" then u z else m₀ z := by
    intro u v
    funext z
    by_cases h1 : z = Str.ofString "number"
    · rw [if_pos h1, if_pos h1]
    · rw [if_neg h1, if_neg h1]
      by_cases h2 : z = Str.ofString "name"
      · rw [if_pos h2, if_pos (by rw [h2]; decide)]
      · rw [if_neg h2]
        by_cases h3 : z = Str.ofString "file"
        · rw [if_pos h3, if_pos (by rw [h3]; decide)]
        · rw [if_neg h3, if_neg (by simp [h2, h3])]
  refine ⟨St, lawStored, m₀, lawLed w.params x dx S D G l Tt Dm Dd t1 t2 t3 nx oS vD nD vm vd (listOf vs.toArray nn), lawFacts w, ⟨oT, kT, oG, kG, [(Str.ofString "<string>", 1)]⟩, [l, Tt, x, dx, S, D, G, Dm, Dd], l, vs, ns, nn, rfl, hh, fun _ => rfl, fun _ => .head _, hi, F, fun p hp => N p (hin p hp),
    ⟨hkT, hfT, hkG, hfG, Nat.le_refl _, start_has, start_one⟩, ?_, ?_⟩
  · intro i q n t u h tk dr I oI hilt hn hq F' N' hI
    rw [fr2 u (fun _ => some (.int n t))] at F'
    have i63 : i < 63 := Nat.lt_of_lt_of_le hilt hlen
    refine turn i n t u h tk dr I oI q.oT q.kT q.oG q.kG q.c (box I fun b hb => hI b ?_) ⟨hI _ (by simp), hI _ (by simp), hI _ (by simp), hI _ (by simp), hI _ (by simp), hI _ (by simp), hI _ (by simp), hI _ (by simp), hI _ (by simp)⟩ hll hq.dT hq.fT hq.dG hq.fG hq.len i63 ?_ hq.has hq.one F' N'
    · simp only [List.mem_cons, List.not_mem_nil, or_false] at hb ⊢
      rcases hb with h | h | h | h | h <;> simp [h]
    · have := hq.len
      omega
  · intro q u h tk dr hq F' N'
    rw [fr2 u u] at F'
    refine done u h tk dr q.oT q.kT q.oG q.kG q.c (box l hl5) hq.dG hq.fG ?_ hq.has hq.one hq.dT F' fun p hp => N' p ?_
    · have := hq.len
      omega
    · simp only [lawLed, turnLed, List.mem_cons, List.not_mem_nil, or_false] at hp ⊢
      rcases hp with h | h | h | h | h | h | h | h | h | h <;> simp [h]
theorem law_next {m' : Str → Option Value} {h' : Heap} {tk : Nat} {dr : Drawn} {news' : List (Addr × Obj)} {I : Addr} {oI oL : Obj} {L : Addr} {c : List (Str × Int)} {i : Nat} {s₁ : Shared}
    (F : Fr h₀ L h' m') (N : News h₀ L h' news') (hin : ∀ p ∈ turnLed w.params x dx S D G l Tt Dm Dd I t1 t2 t3 nx oS vD nD vm vd oL oT oG oI, p ∈ news')
    (dT : oT.IsDictOf (PySem.strKind lPg w) kT) (dG : oG.IsDictOf (PySem.strKind lPg w) kG) (fT : PyProof.V.FlatPairs PyData.str kT (kdpD c)) (fG : PyProof.V.FlatPairs PyData.str kG (kdpD c)) (len : c.length ≤ i + 1) (has : kdpHas c (Str.ofString "<string>") = true) (one : kdpLook c (Str.ofString "<string>") 0 = 1)
    (hm : ∀ z, z ≠ Str.ofString "number" → z ≠ Str.ofString "name" → z ≠ Str.ofString "file" → m' z = m₀ z) :
    OutPost h₀ L (Str.ofString "number") lawStored m₀ (lawLed w.params x dx S D G l Tt Dm Dd t1 t2 t3 nx oS vD nD vm vd oL) (lawFacts w i) (I, oI) s₁ Q .next { s₁ with heap := h', toks := tk, drawn := dr } := by
  refine out_next ⟨oT, kT, oG, kG, c⟩ F N (fun p hp => hin p ?_) (hin _ (by simp)) ⟨dT, fT, dG, fG, len, has, one⟩ fun z h1 h2 => hm z h1 (stored_ne h2).1 (stored_ne h2).2
  simp only [lawLed, turnLed, List.mem_cons, List.not_mem_nil, or_false] at hp ⊢
  rcases hp with h | h | h | h | h | h | h | h | h <;> simp [h]
end
theorem file_none : ∃ fo : Option (Str × Tok), Value.none = fileV fo ∧ ∀ q, fo = some q → q.1.length ≤ 20 := ⟨none, rfl, fun _ h => nomatch h⟩
theorem file_str {y : Str} {t : Tok} (h : y.length ≤ 20) : ∃ fo : Option (Str × Tok), Value.str y t = fileV fo ∧ ∀ q, fo = some q → q.1.length ≤ 20 := ⟨some (y, t), rfl, fun q e => by cases e; exact h⟩
end Mine
end
section
open PySem PySem.W PyProof.Rows PySem.Calls
set_option Elab.async false
namespace Mine
local macro_rules | `(tactic| walk_at "exec Assign cons ListComp") => `(tactic| (k_here; (with_reducible show wpAny _ _ (exec (Stmt.Assign [Expr.Name (Str.ofString "mods") _] _ _) _) _ _ _); k_dflt (refine' en_Assign (Jn modsAll) ?F ?hLe ?hsw ?hclos ?hcell ?hkind ?hnames ?hxa ?hxb ?hab ?hy ?hp ?_ ?hs; (case F => k_asm); (case hLe => rfl); (case hsw => with_unfolding_all rfl); (case hclos => rfl); (case hcell => decide); (case hkind => rfl); (case hnames => decide); (case hxa => rfl); (case hxb => rfl); (case hab => decide); (case hy => rfl); (case hp => rfl); (case hs => (intro _; with_unfolding_all rfl)))))
local macro_rules | `(tactic| walk_at "exec Assign cons ListComp") => `(tactic| (k_here; (with_reducible show wpAny _ _ (exec (Stmt.Assign [Expr.Name (Str.ofString "dirs") _] _ _) _) _ _ _); k_dflt (refine' en_Assign (Jn dirsAll) ?F ?hLe ?hsw ?hclos ?hcell ?hkind ?hnames ?hxa ?hxb ?hab ?hy ?hp ?_ ?hs; (case F => k_asm); (case hLe => rfl); (case hsw => with_unfolding_all rfl); (case hclos => rfl); (case hcell => decide); (case hkind => rfl); (case hnames => decide); (case hxa => rfl); (case hxb => rfl); (case hab => decide); (case hy => rfl); (case hp => rfl); (case hs => (intro _; with_unfolding_all rfl)))))
local macro_rules | `(tactic| walk_at "call type:enumerate") => `(tactic| (k_here; k_dflt (refine' en_call3 ?hh ?F ?N ?hl ?hJ ?_ ?_ ?_ ?_; (case hh => rfl); (case F => k_asm); (case N => k_asm); (case hl => k_mem); (case hJ => exact jn_nil _))))
local macro_rules | `(tactic| walk_at "EnTurn") => `(tactic| (k_here; intro t' e' oe' it' oit' C' oC' D' m' ys' h' tk' dr' E' hJ' hC' ha' hb' F' N'))
local macro_rules | `(tactic| walk_at "EnDone") => `(tactic| (k_here; intro D' h' tk' ys' F' N' l1 hJ'; k_lt l1; obtain ⟨ms', hms', hml', hmm'⟩ := hJ'))
local macro_rules | `(tactic| walk_at "EnEnd") => `(tactic| (k_here; k_dflt (refine' en_end ?k1 ?k2 ?k3 ?k4; (case k1 => k_asm); (case k2 => k_asm); (case k3 => (intro p9 h9; exact h9)); (case k4 => first | exact jn_keep (by assumption) | exact jn_push (by assumption) (by (dsimp only [modsAll, dirsAll]; k_mem))))))
local macro_rules | `(tactic| walk_at "call ref") => `(tactic| (k_here; (with_reducible show wpAny _ _ (call (Value.ref 86) [Value.ref _, Value.ref _] _) _ _ _); k_dflt (refine' ig_use ?B ?F ?X ?N ?T ?hfm ?hfd ?hDm ?hDd ?hlm ?hld ?hvm ?hvd ?hm3 ?hd3 ?hmm ?hdd ?hdp ?hun ?_; (case B => k_asm); (case F => k_asm); (case X => k_asm); (case N => k_asm); (case T => k_asm); (case hfm => with_unfolding_all rfl); (case hfd => with_unfolding_all rfl); (case hDm => k_mem); (case hDd => k_mem); (case hlm => k_mem); (case hld => k_mem); (case hvm => assumption); (case hvd => assumption); (case hm3 => assumption); (case hd3 => assumption); (case hmm => assumption); (case hdd => assumption); (case hdp => first | ktr_room | decide); (case hun => first | decide | ((have hcL9 := cLine_is); (simp only [units_in1, units_deeper, units_under_make, Around.mark_units, units_caller] at *); (try dsimp only [ktrTop] at *); omega))); intro h' tk' x' dx' S' D' G' t1' t2' t3' nx' oS' oG' vD' nD' kvs' F' N' O' ne' hg' hS' hD' hk' hfp' sm'))
local macro_rules | `(tactic| walk_at "exec For Name Subscript cons nil") => `(tactic| (k_here; k_dflt (refine' for_out ?F ?hx ?hp ?_ ?hs ?hE; (case F => k_asm); (case hx => with_unfolding_all rfl); (case hp => with_unfolding_all rfl); (case hs => (intro _; rfl)); (case hE => passes_own))))
local macro_rules | `(tactic| walk_at "subscriptTail") => `(tactic| (k_here; (with_reducible show wpAny _ _ (subscriptTail _ _ (Value.ref _) (Value.int _ _)) _ _ _); k_dflt (refine' pick_file ?N ?hl ?h0 ?h1 ?hfit ?hb ?_ ?hs; (case N => k_asm); (case hl => k_mem); (case h0 => exact Int.fmod_nonneg_of_pos _ (by decide)); (case h1 => exact Int.fmod_lt_of_pos _ (by decide)); (case hfit => exact Int.lt_trans (Int.fmod_lt_of_pos _ (by decide)) (by decide)); (case hb => repeat (first | exact List.forall_mem_nil _ | refine List.forall_mem_cons.mpr ⟨file_none, ?_⟩ | refine List.forall_mem_cons.mpr ⟨file_str (by decide), ?_⟩)); (case hs => with_unfolding_all rfl)); intro fo' hfl'))
local macro_rules | `(tactic| walk_at "subscriptTail") => `(tactic| (k_here; (with_reducible show wpAny _ _ (subscriptTail _ _ (Value.ref _) (Value.int _ _)) _ _ _); k_dflt (refine' pick_str ?N ?hl ?hw ?h0 ?h1 ?hfit ?hb ?_ ?hs; (case N => k_asm); (case hl => k_mem); (case hw => repeat (first | exact StrsAre.nil | apply StrsAre.cons)); (case h0 => exact Int.fmod_nonneg_of_pos _ (by decide)); (case h1 => exact Int.fmod_lt_of_pos _ (by decide)); (case hfit => exact Int.lt_trans (Int.fmod_lt_of_pos _ (by decide)) (by decide)); (case hb => decide); (case hs => with_unfolding_all rfl)); intro nm' t' hnl'))
local macro_rules | `(tactic| walk_at "call ref") => `(tactic| (k_here; (with_reducible show wpAny _ _ (call (Value.ref 95) [Value.ref _, Value.ref _, Value.str _ _, fileV _] _) _ _ _); k_dflt (refine' due_use ?bx ?B ?F ?X ?N ?T ?hm ?hd ?hnl ?hfl ?hdp ?hun ?_; (case bx => assumption); (case B => k_asm); (case F => k_asm); (case X => k_asm); (case N => k_asm); (case T => k_asm); (case hm => k_mem); (case hd => k_mem); (case hnl => assumption); (case hfl => assumption); (case hdp => first | ktr_room | decide); (case hun => decide)); intro h' tk' t' F' N'))
local macro_rules | `(tactic| walk_at "call ref") => `(tactic| (k_here; (with_reducible show wpAny _ _ (call (Value.ref 83) [Value.ref _, Value.none, Value.str _ _] _) _ _ _); k_dflt (refine' names_old (fo := none) ?bx ?B ?F ?X ?N ?T ?hin ?hk ?hf ?hc ?hnl ?hfl ?hdp ?hun ?has ?hr ?_; (case bx => assumption); (case B => k_asm); (case F => k_asm); (case X => k_asm); (case N => k_asm); (case T => k_asm); (case hin => exact List.forall_mem_cons.mpr ⟨by k_mem, List.forall_mem_cons.mpr ⟨by k_mem, List.forall_mem_cons.mpr ⟨by k_mem, List.forall_mem_cons.mpr ⟨by k_mem, List.forall_mem_cons.mpr ⟨by k_mem, List.forall_mem_cons.mpr ⟨by k_mem, List.forall_mem_cons.mpr ⟨by k_mem, List.forall_mem_cons.mpr ⟨by k_mem, List.forall_mem_cons.mpr ⟨by k_mem, List.forall_mem_cons.mpr ⟨by k_mem, List.forall_mem_nil _⟩⟩⟩⟩⟩⟩⟩⟩⟩⟩); (case hk => with_reducible assumption); (case hf => with_reducible assumption); (case hc => first | omega | (refine Nat.le_trans (kdpPut_len _ _ _) ?_; omega)); (case hnl => first | assumption | decide); (case hfl => exact fun _ h9 => nomatch h9); (case hdp => first | ktr_room | decide); (case hun => decide); (case has => first | assumption | exact put_has _ _ _); (case hr => first | assumption | exact rfl)); intro h' tk' dr' oG' kG' t' F' N' dG' fG'; (try dsimp only [turnLed] at N')))
local macro_rules | `(tactic| walk_at "call ref") => `(tactic| (k_here; (with_reducible show wpAny _ _ (call (Value.ref 83) [Value.ref _, fileV _, Value.str _ _] _) _ _ _); k_dflt (refine' names_old ?bx ?B ?F ?X ?N ?T ?hin ?hk ?hf ?hc ?hnl ?hfl ?hdp ?hun ?has ?hr ?_; (case bx => assumption); (case B => k_asm); (case F => k_asm); (case X => k_asm); (case N => k_asm); (case T => k_asm); (case hin => exact List.forall_mem_cons.mpr ⟨by k_mem, List.forall_mem_cons.mpr ⟨by k_mem, List.forall_mem_cons.mpr ⟨by k_mem, List.forall_mem_cons.mpr ⟨by k_mem, List.forall_mem_cons.mpr ⟨by k_mem, List.forall_mem_cons.mpr ⟨by k_mem, List.forall_mem_cons.mpr ⟨by k_mem, List.forall_mem_cons.mpr ⟨by k_mem, List.forall_mem_cons.mpr ⟨by k_mem, List.forall_mem_cons.mpr ⟨by k_mem, List.forall_mem_nil _⟩⟩⟩⟩⟩⟩⟩⟩⟩⟩); (case hk => with_reducible assumption); (case hf => with_reducible assumption); (case hc => first | omega | (refine Nat.le_trans (kdpPut_len _ _ _) ?_; omega)); (case hnl => assumption); (case hfl => assumption); (case hdp => first | ktr_room | decide); (case hun => decide); (case has => assumption); (case hr => exact rfl)); intro h' tk' dr' oG' kG' t' F' N' dG' fG'; (try dsimp only [turnLed] at N')))
local macro_rules | `(tactic| walk_at "call ref") => `(tactic| (k_here; (with_reducible show wpAny _ _ (call (Value.ref 83) [Value.ref _, fileV _, Value.str _ _] _) _ _ _); k_dflt (refine' names_new ?bx ?B ?F ?X ?N ?T ?hin ?hk ?hf ?hc ?hnl ?hfl ?hdp ?hun ?has ?_; (case bx => assumption); (case B => k_asm); (case F => k_asm); (case X => k_asm); (case N => k_asm); (case T => k_asm); (case hin => exact List.forall_mem_cons.mpr ⟨by k_mem, List.forall_mem_cons.mpr ⟨by k_mem, List.forall_mem_cons.mpr ⟨by k_mem, List.forall_mem_cons.mpr ⟨by k_mem, List.forall_mem_cons.mpr ⟨by k_mem, List.forall_mem_cons.mpr ⟨by k_mem, List.forall_mem_cons.mpr ⟨by k_mem, List.forall_mem_cons.mpr ⟨by k_mem, List.forall_mem_cons.mpr ⟨by k_mem, List.forall_mem_cons.mpr ⟨by k_mem, List.forall_mem_nil _⟩⟩⟩⟩⟩⟩⟩⟩⟩⟩); (case hk => with_reducible assumption); (case hf => with_reducible assumption); (case hc => first | omega | (refine Nat.le_trans (kdpPut_len _ _ _) ?_; omega)); (case hnl => assumption); (case hfl => assumption); (case hdp => first | ktr_room | decide); (case hun => decide); (case has => assumption)); intro h' tk' dr' oG' kG' t' F' N' dG' fG'; (try dsimp only [turnLed] at N')))
local macro_rules | `(tactic| walk_at "OutPost cons ret") => `(tactic| (k_here; first | contradiction | exact absurd (put_look _ (by assumption)).symm (by assumption)))
local macro_rules | `(tactic| walk_at "OutPost cons next") => `(tactic| (k_here; refine' law_next ?F ?N ?hin ?dT ?dG ?fT ?fG ?len ?has ?one ?hm; (case F => k_asm); (case N => k_asm); (case hin => exact List.forall_mem_cons.mpr ⟨by k_mem, List.forall_mem_cons.mpr ⟨by k_mem, List.forall_mem_cons.mpr ⟨by k_mem, List.forall_mem_cons.mpr ⟨by k_mem, List.forall_mem_cons.mpr ⟨by k_mem, List.forall_mem_cons.mpr ⟨by k_mem, List.forall_mem_cons.mpr ⟨by k_mem, List.forall_mem_cons.mpr ⟨by k_mem, List.forall_mem_cons.mpr ⟨by k_mem, List.forall_mem_cons.mpr ⟨by k_mem, List.forall_mem_nil _⟩⟩⟩⟩⟩⟩⟩⟩⟩⟩); (case dT => with_reducible assumption); (case dG => with_reducible assumption); (case fT => with_reducible assumption); (case fG => with_reducible assumption); (case len => first | omega | (refine Nat.le_trans (kdpPut_len _ _ _) ?_; omega)); (case has => first | assumption | exact put_has' (by assumption)); (case one => first | assumption | exact put_keep (by assumption) (by assumption) (by assumption)); (case hm => (intro z9 h7 h8 h9; simp only [if_neg h7, if_neg h8, if_neg h9]))))
set_option maxRecDepth 100000 in
set_option maxHeartbeats 8000000 in
theorem w5 : PySem.Challenge.rw_xb0048_01.Holds := hd (by
  w_top off
  k_go0
  (all_goals try k_fold)
  k_steps
  refine' law_out ?hL ?hh ?F ?N ?hin ?hi ?hlen ?hkT ?hfT ?hkG ?hfG ?hO ?hne ?hsys ?hset ?hdirs ?hmods ?hdirs2 ?hsm ?lT ?ll ?turn ?done
  case hL => rfl
  case hh => rfl
  case F => k_asm
  case hO => assumption
  case lT => with_reducible assumption
  case N => k_asm
  case hin => exact List.forall_mem_cons.mpr ⟨by k_mem, List.forall_mem_cons.mpr ⟨by k_mem, List.forall_mem_cons.mpr ⟨by k_mem, List.forall_mem_cons.mpr ⟨by k_mem, List.forall_mem_cons.mpr ⟨by k_mem, List.forall_mem_cons.mpr ⟨by k_mem, List.forall_mem_cons.mpr ⟨by k_mem, List.forall_mem_cons.mpr ⟨by k_mem, List.forall_mem_cons.mpr ⟨by k_mem, List.forall_mem_nil _⟩⟩⟩⟩⟩⟩⟩⟩⟩
  case hi => assumption
  case hlen => omega
  case hkT => with_reducible assumption
  case hfT => with_unfolding_all assumption
  case hkG => with_reducible assumption
  case hfG => with_unfolding_all assumption
  case hne => assumption
  case hsys => assumption
  case hset => assumption
  case hdirs => assumption
  case hmods => assumption
  case hdirs2 => assumption
  case hsm => assumption
  case ll => omega
  case turn =>
    intro i' n' t' u' h' tk' dr' I' oI' oT' kT' oG' kG' c' bx' lI' ll' dT' fT' dG' fG' len' i63' c90' has' one' F' N'
    dsimp only [turnLed] at N'
    k_steps
  case done =>
    intro u' h' tk' dr' oT' kT' oG' kG' c' bx' dG' fG' c90' has' one' dT' F' N'
    dsimp only [turnLed] at N'
    k_steps)
end Mine
end
theorem PySem.Challenge.cw_xb0048_01_holds : PySem.Challenge.rw_xb0048_01.Holds := by
  exact Mine.w5
