import PyProof.Rows.All
import Wide.All
import OpenK.AllK
import Wide.FinOn
import PyProof.Rows.Catch
import PyProof.MeetsSeq
import KE.KFromBytes
import KE.KSortAsk
import KE.KSortTup
import PyProof.CompFree
import KE.KRevSl
import PySem.Challenge.RW_il0153_01
set_option Elab.async false
section
set_option maxRecDepth 100000
namespace MineP
open PySem
section
variable {prog : Program} {w : World} {A : Around} {E : Value → Shared → Prop} {s : Shared}
theorem mine_getOut {l : Addr} {items : Array Value} {j : Nat} {k : Int} {t : Tok} {Q : Value → Shared → Prop} (hl : s.heap.IsList l items)
    (hout : items.size ≤ j) (hk : k = Int.ofNat j) (hhi : k < 2 ^ 63)
    (hE : ∀ {α : Type} {Q : α → Shared → Prop}, wpAny (model prog w) A.in1 (raiseErrorWords "IndexError" "list index out of range" : Sem α) Q E s) :
    wpAny (model prog w) A (getItem (.ref l) (.int k t)) Q E s := by
  obtain ⟨o, ho, hc, ne, hd⟩ := id hl
  unfold getItem
  try with_reducible refine wpAny_holding ?_
  first | refine wpAny_bind (wpAny_pure ?_) | skip
  refine wpAny_bind (wpAny_sequenceKey hl.typeIs (by decide) ?_)
  refine wpAny_bind (wpAny_callSpecial?_slot (name := Str.ofString "__getitem__") hl.typeIs slot_list_getitem
    (wpAny_call_entry slot_list_getitem hl.typeIs entry_list_getitem ?_ (args_list_getitem _ _)))
  show wpAny _ _ (Builtin.List.listSubscript? (.int k t) >>= _) _ _ s
  refine wpAny_bind (wpAny_listSubscript_int (fitsIndex_both (by rw [hk]; show -(2 ^ 63) ≤ (j : Int); lia) hhi) ?_)
  clear hhi
  subst hk
  have hx : items[j]? = none := Array.getElem?_eq_none hout
  show wpAny _ _ ((seqItemAt l j >>= fun r => pure (r.map (j, ·))) >>= _) _ _ s
  refine wpAny_bind (wpAny_bind (wpAny_seqItemAt ho hd (wpAny_pure ?_)))
  rw [hx]
  first
    | exact wpAny_bind (wpAny_rule (by exact hE))
    | exact wpAny_bind (wpAny_rule (wpAny_bind (by exact hE)))
    | exact wpAny_bind (wpAny_bind (wpAny_rule (by exact hE)))
    | exact wpAny_rule (by exact hE)
end
end MineP
end
section
set_option maxRecDepth 100000
namespace MineP
open PySem
open Sem (wp)
open MeetsSeq
section
variable {prog : Program} {w : World}
/-- list.remove over a heap that stays: the first item that eqBool takes for x -/
theorem mine_removeLoop (l : Addr) (items : Array Value) (o : Obj) (x : Value) (n : Nat) (hd : o.data = .seq items n) (s : Shared) (ho : s.heap.get? l = some o) (e : Nat → Bool) (R : Result → Shared → Prop)
    (hs1 : items.size ≤ sizeLine) (A : Around)
    (he : ∀ i (hi : i < items.size) (E : Value → Shared → Prop) (Q : Bool → Shared → Prop), Q (e i) s → wpAny (model prog w) A.in1 (eqBool items[i] x) Q E s)
    (hit : ∀ j, j < items.size → e j = true → (∀ m, m < j → e m = false) → R (.ok (.ret .none)) { s with heap := s.heap.update l (Obj.mapSeq fun xs => xs.eraseIdxIfInBounds j) })
    (miss : ∀ (Q : Fin → Shared → Prop), (∀ m, m < items.size → e m = false) → wpAny (model prog w) A.in1 (raiseErrorWords "ValueError" "list.remove(x): x not in list" : Sem Fin) Q (fun v s' => R (.error v) s') s) :
    ∀ (k i : Nat), items.size - i = k → (∀ m, m < i → m < items.size → e m = false) →
      wpAny (model prog w) A.in1 (Builtin.«list.remove.loop» ⟨[.ref l, x, rawInt i], []⟩) (fun fin s' => match fin with | .done f => R (.ok f) s' | .again c' => c'.quiet = true ∧ codeAny (model prog w) A c' R s') (fun e s' => R (.error e) s') s := by
  obtain ⟨oc, od, dt, sl⟩ := o
  simp only at hd
  subst hd
  intro k
  induction k with
  | zero =>
    intro i hk hno
    obtain ⟨hp, g, d, tk, os⟩ := s
    wp_walk using wpAny_loadPart' ho
    have hi : items[((i : Nat) : Int).toNat]? = none := by simp; lia
    rw [hi]
    wp_walk
    exact miss _ fun m hm => hno m (by lia) hm
  | succ k ih =>
    intro i hk hno
    obtain ⟨hp, g, d, tk, os⟩ := s
    have hlt : i < items.size := by lia
    wp_walk using wpAny_loadPart' ho
    have hi : items[((i : Nat) : Int).toNat]? = some items[i] := by simp [hlt]
    have hc : ((i : Int) + 1) = ((i + 1 : Nat) : Int) := by push_cast; rfl
    rw [hi]
    refine wpAny_bind (he _ hlt _ _ ?_)
    cases q : e i with
    | true =>
      have hz' : (items.eraseIdxIfInBounds i).size ≤ sizeLine + 1 := Nat.le_trans (size_erased items _) (Nat.le_succ_of_le hs1)
      wp_walk using (wpAny_updateSeq ho rfl (hz := hs1) (_hz' := hz')), wpAny_loadPart' ho
      have := hit i hlt q fun m hm => hno m hm (by lia)
      simpa using this
    | false =>
      wp_walk
      rw [hc]
      exact ⟨plainId_quiet plain_remove_loop _, codeAny_builtin entry_remove_loop (by
        rw [Around.under_plainId plain_remove_loop _]
        exact ih (i + 1) (by lia) (fun m h1 h2 => if h : m = i then h ▸ q else hno m (by lia) h2))⟩
end
end MineP
end
section
set_option maxRecDepth 100000
namespace MineP
open PySem
open Sem (wp)
noncomputable abbrev lit0 (la : Addr) : Obj := { cls := .type "list_iterator", data := .fields #[.ref la, .int 0 0] }
noncomputable abbrev tup3 (a b c : Value) : Obj := { cls := .type "tuple", data := .seq #[a, b, c] }
noncomputable abbrev z3H1 (h : Heap) (l1 : Addr) : Heap := h.push { cls := .type "list_iterator", data := .fields #[.ref l1, .int 0 0] }
noncomputable abbrev z3H2 (h : Heap) (l1 l2 : Addr) : Heap := (z3H1 h l1).push { cls := .type "list_iterator", data := .fields #[.ref l2, .int 0 0] }
noncomputable abbrev z3H3 (h : Heap) (l1 l2 l3 : Addr) : Heap := (z3H2 h l1 l2).push { cls := .type "list_iterator", data := .fields #[.ref l3, .int 0 0] }
noncomputable abbrev z3H4 (h : Heap) (l1 l2 l3 : Addr) : Heap := (z3H3 h l1 l2 l3).push { cls := .type "tuple", data := .seq #[.ref h.objs.size, .ref (z3H1 h l1).objs.size, .ref (z3H2 h l1 l2).objs.size] }
noncomputable abbrev z3H5 (h : Heap) (l1 l2 l3 : Addr) : Heap := (z3H4 h l1 l2 l3).push { cls := .type "tuple", data := .seq #[.none, .none, .none] }
noncomputable abbrev z3H6 (h : Heap) (l1 l2 l3 : Addr) : Heap := (z3H5 h l1 l2 l3).push { cls := .type "zip", data := .fields #[.none, .bool false, .bool false, .ref (z3H3 h l1 l2 l3).objs.size, .ref (z3H4 h l1 l2 l3).objs.size] }
set_option maxHeartbeats 4000000 in
theorem meets_zip_3 (l1 l2 l3 : Addr) (xs ys zs : Array Value) :
    Meets (Builtin.«zip.__new__» ⟨[.type "zip", .ref l1, .ref l2, .ref l3], []⟩) (fun _ R s => s.heap.IsList l1 xs ∧ s.heap.IsList l2 ys ∧ s.heap.IsList l3 zs ∧
      R (.ok (.ret (.ref (z3H5 s.heap l1 l2 l3).objs.size))) { s with heap := z3H6 s.heap l1 l2 l3 }) :=
  .of_wp fun prog w A R s h => by
    obtain ⟨hp, g, d, tk, os⟩ := s; obtain ⟨hl1, hl2, hl3, h⟩ := h
    have hsub := sub_zip
    have hL1 : Heap.IsList (Shared.heap ⟨hp, g, d, tk, os⟩) l1 xs := hl1
    have hL2 : Heap.IsList (Shared.heap ⟨hp.push { cls := .type "list_iterator", data := .fields #[.ref l1, .int 0 0] }, g, d, tk, os⟩) l2 ys := Heap.IsList.push hl2 _
    have hL3 : Heap.IsList (Shared.heap ⟨(hp.push { cls := .type "list_iterator", data := .fields #[.ref l1, .int 0 0] }).push { cls := .type "list_iterator", data := .fields #[.ref l2, .int 0 0] }, g, d, tk, os⟩) l3 zs := Heap.IsList.push (Heap.IsList.push hl3 _) _
    wp_walk using wpAny_pyIter_list hL1, wpAny_pyIter_list hL2, wpAny_pyIter_list hL3
    exact ⟨_, rfl, h⟩
end MineP
end
section
open PySem PySem.W PyProof.Rows
namespace Mine
set_option maxRecDepth 100000
noncomputable abbrev pw : Program := PySem.Challenge.pw_il0153_01

/-! the class statement SequenceMatcher, its docstring as a written list of signs -/
noncomputable def docOfS : Stmt → Str
  | .ClassDef _ _ _ (.Expr (.Constant (.str d) _ _) _ :: _) _ _ _ _ _ _ _ => d
  | _ => Str.ofString ""
noncomputable def putDoc (d : Str) : Stmt → Stmt
  | .ClassDef n bs ks (.Expr (.Constant (.str _) k p) q :: rest) ds tps st sc ts b pos => .ClassDef n bs ks (.Expr (.Constant (.str d) k p) q :: rest) ds tps st sc ts b pos
  | s => s
noncomputable def headOr : List Stmt → Stmt
  | s :: _ => s
  | [] => .Pass default
noncomputable def cell14 : Stmt := headOr (pw.main.body.drop 14)
theorem cell14_put : putDoc (docOfS cell14) cell14 = cell14 := by kernel_rfl
/-- two terms that are one, without a proof to carry -/
inductive One {α : Type} : α → α → Type
  | mk (a : α) : One a a
theorem One.eq {α : Type} : ∀ {a b : α}, One a b → a = b
  | _, _, .mk _ => rfl
noncomputable def docCs : (cs : List Char) × One (docOfS cell14) (Str.ofString (String.ofList cs)) := ⟨_, by with_unfolding_all exact One.mk _⟩
noncomputable def D2 : Str := ⟨(docCs.1.map Char.toNat).toArray⟩
theorem doc_D2 : docOfS cell14 = D2 := docCs.2.eq.trans (PySem.W.Fast.ofString_ofList docCs.1)
noncomputable def cls2 : Stmt := putDoc D2 cell14
theorem cell14_cls2 : cell14 = cls2 := cell14_put.symm.trans (congrArg (fun d => putDoc d cell14) doc_D2)

/-! type.__new__ looks through the docstring's signs by Array.any: the same over the list -/
noncomputable def anyL (p : Nat → Bool) (l : List Nat) : Bool := @List.rec Nat (fun _ => Bool) false (fun a _ ih => @Bool.rec (fun _ => Bool) ih true (p a)) l
theorem anyL_eq (p : Nat → Bool) : ∀ l : List Nat, anyL p l = l.any p
  | [] => rfl
  | a :: l => by
    show @Bool.rec (fun _ => Bool) (anyL p l) true (p a) = _
    rw [List.any_cons, anyL_eq p l]
    cases p a <;> rfl
noncomputable def anyF (as : Array Nat) (p : Nat → Bool) (i j : Nat) : Bool :=
  @Bool.rec (fun _ => Bool) (Array.any as p i j) (anyL p as.toList) (@Bool.rec (fun _ => Bool) false (Nat.beq j as.size) (Nat.beq i 0))
theorem anyF_eq : @anyF = @Array.any Nat := by
  funext as p i j
  show @Bool.rec (fun _ => Bool) (Array.any as p i j) (anyL p as.toList) (@Bool.rec (fun _ => Bool) false (Nat.beq j as.size) (Nat.beq i 0)) = _
  cases h1 : Nat.beq i 0 with
  | false => rfl
  | true =>
    have h1 := Nat.eq_of_beq_eq_true h1
    subst h1
    show @Bool.rec (fun _ => Bool) (Array.any as p 0 j) (anyL p as.toList) (Nat.beq j as.size) = _
    cases h2 : Nat.beq j as.size with
    | false => rfl
    | true =>
      have h2 := Nat.eq_of_beq_eq_true h2
      subst h2
      show anyL p as.toList = _
      rw [anyL_eq, Array.any_toList]
noncomputable def tnF : (F : ((Array Nat → (Nat → Bool) → Nat → Nat → Bool) → Builtin)) × One PySem.W.Fast.tw4202317264376624991 (F (@Array.any Nat)) := by
  refine ⟨?F, ?h⟩
  case h =>
    delta PySem.W.Fast.tw4202317264376624991
    generalize @Array.any Nat = g
    exact One.mk _
noncomputable def tn2 : Builtin := tnF.1 anyF
theorem tn2_eq : PySem.W.Fast.tw4202317264376624991 = tn2 := tnF.2.eq.trans (congrArg tnF.1 anyF_eq.symm)
noncomputable def table2 : String → Option Builtin := fun id =>
  @Decidable.rec (id = "type.__new__") (fun _ => Option Builtin) (fun _ => PySem.W.Fast.tw14364793385576792824 id) (fun _ => some tn2) (PySem.W.S.strDecS id "type.__new__")
theorem tn_at : PySem.W.Fast.tw14364793385576792824 "type.__new__" = some PySem.W.Fast.tw4202317264376624991 := by kernel_rfl
theorem table2_eq : treeTable = table2 := by
  funext id
  unfold table2
  cases PySem.W.S.strDecS id "type.__new__" with
  | isFalse h => exact congrFun PySem.W.Fast.te14364793385576792824 id
  | isTrue h =>
    subst h
    exact ((congrFun PySem.W.Fast.te14364793385576792824 _).trans tn_at).trans (congrArg some tn2_eq)
noncomputable def stmtAt (l : List Stmt) (i : Nat) : Stmt := headOr (l.drop i)
noncomputable def clsBody : Stmt → List Stmt
  | .ClassDef _ _ _ b _ _ _ _ _ _ _ => b
  | _ => []
noncomputable def fnParts : Stmt → Arguments × List Stmt × Scope
  | .FunctionDef _ a b _ _ _ sc _ _ _ => (a, b, sc)
  | s => (⟨[], [], none, [], [], none, []⟩, [s], default)
noncomputable def docOr : List Stmt → Str
  | .Expr (.Constant (.str d) _ _) _ :: _ => d
  | _ => Str.ofString ""
noncomputable def F71 : (a : Arguments) × (b : List Stmt) × (s : Scope) × One (fnParts (stmtAt pw.main.body 4)) (a, b, s) := ⟨_, _, _, by with_unfolding_all exact One.mk _⟩
noncomputable def F78 : (a : Arguments) × (b : List Stmt) × (s : Scope) × One (fnParts (stmtAt pw.main.body 5)) (a, b, s) := ⟨_, _, _, by with_unfolding_all exact One.mk _⟩
noncomputable def F159 : (a : Arguments) × (b : List Stmt) × (s : Scope) × One (fnParts (stmtAt pw.main.body 8)) (a, b, s) := ⟨_, _, _, by with_unfolding_all exact One.mk _⟩
noncomputable def F391 : (a : Arguments) × (b : List Stmt) × (s : Scope) × One (fnParts (stmtAt pw.main.body 16)) (a, b, s) := ⟨_, _, _, by with_unfolding_all exact One.mk _⟩
noncomputable def F398 : (a : Arguments) × (b : List Stmt) × (s : Scope) × One (fnParts (stmtAt pw.main.body 17)) (a, b, s) := ⟨_, _, _, by with_unfolding_all exact One.mk _⟩
noncomputable def F403 : (a : Arguments) × (b : List Stmt) × (s : Scope) × One (fnParts (stmtAt pw.main.body 18)) (a, b, s) := ⟨_, _, _, by with_unfolding_all exact One.mk _⟩
noncomputable def F408 : (a : Arguments) × (b : List Stmt) × (s : Scope) × One (fnParts (stmtAt pw.main.body 19)) (a, b, s) := ⟨_, _, _, by with_unfolding_all exact One.mk _⟩
noncomputable def F413 : (a : Arguments) × (b : List Stmt) × (s : Scope) × One (fnParts (stmtAt pw.main.body 20)) (a, b, s) := ⟨_, _, _, by with_unfolding_all exact One.mk _⟩
noncomputable def F96 : (a : Arguments) × (b : List Stmt) × (s : Scope) × One (fnParts (stmtAt (clsBody (stmtAt pw.main.body 6)) 4)) (a, b, s) := ⟨_, _, _, by with_unfolding_all exact One.mk _⟩
noncomputable def F103 : (a : Arguments) × (b : List Stmt) × (s : Scope) × One (fnParts (stmtAt (clsBody (stmtAt pw.main.body 6)) 5)) (a, b, s) := ⟨_, _, _, by with_unfolding_all exact One.mk _⟩
noncomputable def F220 : (a : Arguments) × (b : List Stmt) × (s : Scope) × One (fnParts (stmtAt (clsBody (stmtAt pw.main.body 12)) 4)) (a, b, s) := ⟨_, _, _, by with_unfolding_all exact One.mk _⟩
noncomputable def F227 : (a : Arguments) × (b : List Stmt) × (s : Scope) × One (fnParts (stmtAt (clsBody (stmtAt pw.main.body 12)) 5)) (a, b, s) := ⟨_, _, _, by with_unfolding_all exact One.mk _⟩
noncomputable def F298 : (a : Arguments) × (b : List Stmt) × (s : Scope) × One (fnParts (stmtAt (clsBody (stmtAt pw.main.body 14)) 1)) (a, b, s) := ⟨_, _, _, by with_unfolding_all exact One.mk _⟩
noncomputable def F305 : (a : Arguments) × (b : List Stmt) × (s : Scope) × One (fnParts (stmtAt (clsBody (stmtAt pw.main.body 14)) 2)) (a, b, s) := ⟨_, _, _, by with_unfolding_all exact One.mk _⟩
noncomputable def F312 : (a : Arguments) × (b : List Stmt) × (s : Scope) × One (fnParts (stmtAt (clsBody (stmtAt pw.main.body 14)) 3)) (a, b, s) := ⟨_, _, _, by with_unfolding_all exact One.mk _⟩
noncomputable def F319 : (a : Arguments) × (b : List Stmt) × (s : Scope) × One (fnParts (stmtAt (clsBody (stmtAt pw.main.body 14)) 4)) (a, b, s) := ⟨_, _, _, by with_unfolding_all exact One.mk _⟩
noncomputable def F326 : (a : Arguments) × (b : List Stmt) × (s : Scope) × One (fnParts (stmtAt (clsBody (stmtAt pw.main.body 14)) 5)) (a, b, s) := ⟨_, _, _, by with_unfolding_all exact One.mk _⟩
noncomputable def F334 : (a : Arguments) × (b : List Stmt) × (s : Scope) × One (fnParts (stmtAt (clsBody (stmtAt pw.main.body 14)) 6)) (a, b, s) := ⟨_, _, _, by with_unfolding_all exact One.mk _⟩
noncomputable def F341 : (a : Arguments) × (b : List Stmt) × (s : Scope) × One (fnParts (stmtAt (clsBody (stmtAt pw.main.body 14)) 7)) (a, b, s) := ⟨_, _, _, by with_unfolding_all exact One.mk _⟩
noncomputable def F348 : (a : Arguments) × (b : List Stmt) × (s : Scope) × One (fnParts (stmtAt (clsBody (stmtAt pw.main.body 14)) 8)) (a, b, s) := ⟨_, _, _, by with_unfolding_all exact One.mk _⟩
noncomputable def ob2 (P : Params) : Obj := (Obj.mk Value.none none (Data.dict #[] 0) #[])
noncomputable def ob3 (P : Params) : Obj := (Obj.mk (Value.type "dict") none (Data.dict #[(DictEntry.mk (PyData.keyHash P (Str.ofString "__name__")) (Value.str (Str.ofString "__name__") 165) (Value.str (Str.ofString "law_il0153_01") 821)), (DictEntry.mk (PyData.keyHash P (Str.ofString "__doc__")) (Value.str (Str.ofString "__doc__") 166) Value.none), (DictEntry.mk (PyData.keyHash P (Str.ofString "__package__")) (Value.str (Str.ofString "__package__") 167) Value.none), (DictEntry.mk (PyData.keyHash P (Str.ofString "__loader__")) (Value.str (Str.ofString "__loader__") 168) (Value.builtin "__main__.__loader__#opaque")), (DictEntry.mk (PyData.keyHash P (Str.ofString "__spec__")) (Value.str (Str.ofString "__spec__") 169) Value.none), (DictEntry.mk (PyData.keyHash P (Str.ofString "__annotations__")) (Value.str (Str.ofString "__annotations__") 170) (Value.ref 6)), (DictEntry.mk (PyData.keyHash P (Str.ofString "__builtins__")) (Value.str (Str.ofString "__builtins__") 171) (Value.ref 4)), (DictEntry.mk (PyData.keyHash P (Str.ofString "__file__")) (Value.str (Str.ofString "__file__") 173) (Value.str (Str.ofString "/claim/cut.py") 172)), (DictEntry.mk (PyData.keyHash P (Str.ofString "__cached__")) (Value.str (Str.ofString "__cached__") 174) Value.none), (DictEntry.mk (PyData.keyHash P (Str.ofString "_wall")) (Value.str (Str.ofString "_wall") 193) (Value.ref 21)), (DictEntry.mk (PyData.keyHash P (Str.ofString "_tuplegetter")) (Value.str (Str.ofString "_tuplegetter") 252) (Value.ref 198)), (DictEntry.mk (PyData.keyHash P (Str.ofString "tuplegetter_util")) (Value.str (Str.ofString "tuplegetter_util") 253) (Value.ref 60)), (DictEntry.mk (PyData.keyHash P (Str.ofString "sorted_list_difference")) (Value.str (Str.ofString "sorted_list_difference") 268) (Value.ref 71)), (DictEntry.mk (PyData.keyHash P (Str.ofString "unorderable_list_difference")) (Value.str (Str.ofString "unorderable_list_difference") 279) (Value.ref 78)), (DictEntry.mk (PyData.keyHash P (Str.ofString "Mismatch")) (Value.str (Str.ofString "Mismatch") 407) (Value.ref 149)), (DictEntry.mk (PyData.keyHash P (Str.ofString "_Mismatch")) (Value.str (Str.ofString "_Mismatch") 408) (Value.ref 149)), (DictEntry.mk (PyData.keyHash P (Str.ofString "_count_diff_all_purpose")) (Value.str (Str.ofString "_count_diff_all_purpose") 430) (Value.ref 159)), (DictEntry.mk (PyData.keyHash P (Str.ofString "tuplegetter_difflib")) (Value.str (Str.ofString "tuplegetter_difflib") 490) (Value.ref 198)), (DictEntry.mk (PyData.keyHash P (Str.ofString "Match")) (Value.str (Str.ofString "Match") 618) (Value.ref 273)), (DictEntry.mk (PyData.keyHash P (Str.ofString "_calculate_ratio")) (Value.str (Str.ofString "_calculate_ratio") 626) (Value.ref 283)), (DictEntry.mk (PyData.keyHash P (Str.ofString "SequenceMatcher")) (Value.str (Str.ofString "SequenceMatcher") 820) (Value.ref 380)), (DictEntry.mk (PyData.keyHash P (Str.ofString "_law_row")) (Value.str (Str.ofString "_law_row") 831) (Value.ref 391)), (DictEntry.mk (PyData.keyHash P (Str.ofString "_law_edits")) (Value.str (Str.ofString "_law_edits") 843) (Value.ref 398)), (DictEntry.mk (PyData.keyHash P (Str.ofString "_law_told")) (Value.str (Str.ofString "_law_told") 849) (Value.ref 403)), (DictEntry.mk (PyData.keyHash P (Str.ofString "_law_hands")) (Value.str (Str.ofString "_law_hands") 855) (Value.ref 408)), (DictEntry.mk (PyData.keyHash P (Str.ofString "law")) (Value.str (Str.ofString "law") 861) (Value.ref 413))] 26) #[])
noncomputable def ob70 (P : Params) : Obj := (Obj.mk (Value.type "code") none (Data.fields #[(Value.str (Str.ofString "sorted_list_difference") 254), (Value.str (Str.ofString "sorted_list_difference") 255), (Value.str (Str.ofString "/claim/cut.py") 256), (Value.int 24 0), (Value.int 2 0), (Value.int 0 0), (Value.int 0 0), (Value.int 3 0), (Value.ref 65), (Value.bool true), (Value.int 181 0), (Value.ref 66), Value.none, (Value.ref 67), (Value.ref 68), (Value.ref 69), (Value.int 265 0), (Value.int 24 0), (Value.str (Str.ofString "/claim/cut.py") 266)]) #[])
noncomputable def ob71 (P : Params) : Obj := (Obj.mk (Value.type "function") none (Data.func (fnOf (Str.ofString "sorted_list_difference") (Str.ofString "sorted_list_difference") F71.1 F71.2.1 F71.2.2.1 Value.none Value.none (Value.str (docOr F71.2.1) 267) (Value.str (Str.ofString "cpy313.unittest.util") 194) none (Value.ref 70) Value.none)) #[])
noncomputable def ob77 (P : Params) : Obj := (Obj.mk (Value.type "code") none (Data.fields #[(Value.str (Str.ofString "unorderable_list_difference") 269), (Value.str (Str.ofString "unorderable_list_difference") 270), (Value.str (Str.ofString "/claim/cut.py") 271), (Value.int 63 0), (Value.int 2 0), (Value.int 0 0), (Value.int 0 0), (Value.int 3 0), (Value.ref 72), (Value.bool true), (Value.int 181 0), (Value.ref 73), Value.none, (Value.ref 74), (Value.ref 75), (Value.ref 76), (Value.int 276 0), (Value.int 63 0), (Value.str (Str.ofString "/claim/cut.py") 277)]) #[])
noncomputable def ob78 (P : Params) : Obj := (Obj.mk (Value.type "function") none (Data.func (fnOf (Str.ofString "unorderable_list_difference") (Str.ofString "unorderable_list_difference") F78.1 F78.2.1 F78.2.2.1 Value.none Value.none (Value.str (docOr F78.2.1) 278) (Value.str (Str.ofString "cpy313.unittest.util") 194) none (Value.ref 77) Value.none)) #[])
noncomputable def ob95 (P : Params) : Obj := (Obj.mk (Value.type "code") none (Data.fields #[(Value.str (Str.ofString "__new__") 301), (Value.str (Str.ofString "Mismatch.__new__") 302), (Value.str (Str.ofString "/claim/cut.py") 303), (Value.int 83 0), (Value.int 4 0), (Value.int 0 0), (Value.int 0 0), (Value.int 3 0), (Value.ref 90), (Value.bool true), (Value.int 181 0), (Value.ref 91), Value.none, (Value.ref 92), (Value.ref 93), (Value.ref 94), (Value.int 308 0), (Value.int 83 0), (Value.str (Str.ofString "/claim/cut.py") 309)]) #[])
noncomputable def ob96 (P : Params) : Obj := (Obj.mk (Value.type "function") none (Data.func (fnOf (Str.ofString "__new__") (Str.ofString "Mismatch.__new__") F96.1 F96.2.1 F96.2.2.1 Value.none Value.none (Value.str (docOr F96.2.1) 310) (Value.str (Str.ofString "cpy313.unittest.util") 194) none (Value.ref 95) Value.none)) #[])
noncomputable def ob102 (P : Params) : Obj := (Obj.mk (Value.type "code") none (Data.fields #[(Value.str (Str.ofString "_make") 312), (Value.str (Str.ofString "Mismatch._make") 313), (Value.str (Str.ofString "/claim/cut.py") 314), (Value.int 87 0), (Value.int 2 0), (Value.int 0 0), (Value.int 0 0), (Value.int 3 0), (Value.ref 97), (Value.bool true), (Value.int 181 0), (Value.ref 98), Value.none, (Value.ref 99), (Value.ref 100), (Value.ref 101), (Value.int 318 0), (Value.int 87 0), (Value.str (Str.ofString "/claim/cut.py") 319)]) #[])
noncomputable def ob103 (P : Params) : Obj := (Obj.mk (Value.type "function") none (Data.func (fnOf (Str.ofString "_make") (Str.ofString "Mismatch._make") F103.1 F103.2.1 F103.2.2.1 Value.none Value.none (Value.str (docOr F103.2.1) 320) (Value.str (Str.ofString "cpy313.unittest.util") 194) (some 106) (Value.ref 102) Value.none)) #[])
noncomputable def ob105 (P : Params) : Obj := (Obj.mk (Value.type "classmethod") (some 104) (Data.fields #[(Value.ref 103), (Value.bool false)]) #[])
noncomputable def ob148 (P : Params) : Obj := (Obj.mk (Value.type "dict") none (Data.dict #[(DictEntry.mk (PyData.keyHash P (Str.ofString "__module__")) (Value.str (Str.ofString "__module__") 287) (Value.str (Str.ofString "cpy313.unittest.util") 194)), (DictEntry.mk (PyData.keyHash P (Str.ofString "__firstlineno__")) (Value.str (Str.ofString "__firstlineno__") 291) (Value.int 77 290)), (DictEntry.mk (PyData.keyHash P (Str.ofString "__doc__")) (Value.str (Str.ofString "__doc__") 293) (Value.str (Str.ofString "Mismatch(actual, expected, value)") 292)), (DictEntry.mk (PyData.keyHash P (Str.ofString "__slots__")) (Value.str (Str.ofString "__slots__") 295) (Value.ref 87)), (DictEntry.mk (PyData.keyHash P (Str.ofString "_fields")) (Value.str (Str.ofString "_fields") 299) (Value.ref 88)), (DictEntry.mk (PyData.keyHash P (Str.ofString "_field_defaults")) (Value.str (Str.ofString "_field_defaults") 300) (Value.ref 89)), (DictEntry.mk (PyData.keyHash P (Str.ofString "__new__")) (Value.str (Str.ofString "__new__") 311) (Value.ref 150)), (DictEntry.mk (PyData.keyHash P (Str.ofString "_make")) (Value.str (Str.ofString "_make") 333) (Value.ref 105)), (DictEntry.mk (PyData.keyHash P (Str.ofString "_replace")) (Value.str (Str.ofString "_replace") 344) (Value.ref 114)), (DictEntry.mk (PyData.keyHash P (Str.ofString "__replace__")) (Value.str (Str.ofString "__replace__") 345) (Value.ref 114)), (DictEntry.mk (PyData.keyHash P (Str.ofString "__repr__")) (Value.str (Str.ofString "__repr__") 353) (Value.ref 121)), (DictEntry.mk (PyData.keyHash P (Str.ofString "_asdict")) (Value.str (Str.ofString "_asdict") 360) (Value.ref 128)), (DictEntry.mk (PyData.keyHash P (Str.ofString "__getnewargs__")) (Value.str (Str.ofString "__getnewargs__") 368) (Value.ref 135)), (DictEntry.mk (PyData.keyHash P (Str.ofString "__match_args__")) (Value.str (Str.ofString "__match_args__") 372) (Value.ref 136)), (DictEntry.mk (PyData.keyHash P (Str.ofString "actual")) (Value.str (Str.ofString "actual") 382) (Value.ref 138)), (DictEntry.mk (PyData.keyHash P (Str.ofString "expected")) (Value.str (Str.ofString "expected") 392) (Value.ref 141)), (DictEntry.mk (PyData.keyHash P (Str.ofString "value")) (Value.str (Str.ofString "value") 402) (Value.ref 144)), (DictEntry.mk (PyData.keyHash P (Str.ofString "__static_attributes__")) (Value.str (Str.ofString "__static_attributes__") 403) (Value.ref 146))] 2) #[])
noncomputable def ob149 (P : Params) : Obj := (Obj.mk (Value.type "type") none (Data.cls (ClassData.mk (Str.ofString "Mismatch") [(Value.type "tuple")] [(Value.ref 149), (Value.type "tuple"), (Value.type "object")] 148 (Str.ofString "Mismatch") false [] [] false none false)) #[(some (Value.ref 79)), none, (some (Value.str (Str.ofString "Mismatch") 280)), (some (Value.str (Str.ofString "Mismatch") 288)), (some Value.none), (some (Value.bool false))])
noncomputable def ob150 (P : Params) : Obj := (Obj.mk (Value.type "staticmethod") none (Data.fields #[(Value.ref 96)]) #[])
noncomputable def ob158 (P : Params) : Obj := (Obj.mk (Value.type "code") none (Data.fields #[(Value.str (Str.ofString "_count_diff_all_purpose") 409), (Value.str (Str.ofString "_count_diff_all_purpose") 410), (Value.str (Str.ofString "/claim/cut.py") 411), (Value.int 121 0), (Value.int 2 0), (Value.int 0 0), (Value.int 0 0), (Value.int 3 0), (Value.ref 153), (Value.bool true), (Value.int 181 0), (Value.ref 154), Value.none, (Value.ref 155), (Value.ref 156), (Value.ref 157), (Value.int 427 0), (Value.int 121 0), (Value.str (Str.ofString "/claim/cut.py") 428)]) #[])
noncomputable def ob159 (P : Params) : Obj := (Obj.mk (Value.type "function") none (Data.func (fnOf (Str.ofString "_count_diff_all_purpose") (Str.ofString "_count_diff_all_purpose") F159.1 F159.2.1 F159.2.2.1 Value.none Value.none (Value.str (docOr F159.2.1) 429) (Value.str (Str.ofString "cpy313.unittest.util") 194) none (Value.ref 158) Value.none)) #[])
noncomputable def ob219 (P : Params) : Obj := (Obj.mk (Value.type "code") none (Data.fields #[(Value.str (Str.ofString "__new__") 512), (Value.str (Str.ofString "Match.__new__") 513), (Value.str (Str.ofString "/claim/cut.py") 514), (Value.int 179 0), (Value.int 4 0), (Value.int 0 0), (Value.int 0 0), (Value.int 3 0), (Value.ref 214), (Value.bool true), (Value.int 181 0), (Value.ref 215), Value.none, (Value.ref 216), (Value.ref 217), (Value.ref 218), (Value.int 519 0), (Value.int 179 0), (Value.str (Str.ofString "/claim/cut.py") 520)]) #[])
noncomputable def ob220 (P : Params) : Obj := (Obj.mk (Value.type "function") none (Data.func (fnOf (Str.ofString "__new__") (Str.ofString "Match.__new__") F220.1 F220.2.1 F220.2.2.1 Value.none Value.none (Value.str (docOr F220.2.1) 521) (Value.str (Str.ofString "cpy313.difflib") 431) none (Value.ref 219) Value.none)) #[])
noncomputable def ob226 (P : Params) : Obj := (Obj.mk (Value.type "code") none (Data.fields #[(Value.str (Str.ofString "_make") 523), (Value.str (Str.ofString "Match._make") 524), (Value.str (Str.ofString "/claim/cut.py") 525), (Value.int 183 0), (Value.int 2 0), (Value.int 0 0), (Value.int 0 0), (Value.int 3 0), (Value.ref 221), (Value.bool true), (Value.int 181 0), (Value.ref 222), Value.none, (Value.ref 223), (Value.ref 224), (Value.ref 225), (Value.int 529 0), (Value.int 183 0), (Value.str (Str.ofString "/claim/cut.py") 530)]) #[])
noncomputable def ob227 (P : Params) : Obj := (Obj.mk (Value.type "function") none (Data.func (fnOf (Str.ofString "_make") (Str.ofString "Match._make") F227.1 F227.2.1 F227.2.2.1 Value.none Value.none (Value.str (docOr F227.2.1) 531) (Value.str (Str.ofString "cpy313.difflib") 431) (some 230) (Value.ref 226) Value.none)) #[])
noncomputable def ob229 (P : Params) : Obj := (Obj.mk (Value.type "classmethod") (some 228) (Data.fields #[(Value.ref 227), (Value.bool false)]) #[])
noncomputable def ob272 (P : Params) : Obj := (Obj.mk (Value.type "dict") none (Data.dict #[(DictEntry.mk (PyData.keyHash P (Str.ofString "__module__")) (Value.str (Str.ofString "__module__") 498) (Value.str (Str.ofString "cpy313.difflib") 431)), (DictEntry.mk (PyData.keyHash P (Str.ofString "__firstlineno__")) (Value.str (Str.ofString "__firstlineno__") 502) (Value.int 173 501)), (DictEntry.mk (PyData.keyHash P (Str.ofString "__doc__")) (Value.str (Str.ofString "__doc__") 504) (Value.str (Str.ofString "Match(a, b, size)") 503)), (DictEntry.mk (PyData.keyHash P (Str.ofString "__slots__")) (Value.str (Str.ofString "__slots__") 506) (Value.ref 211)), (DictEntry.mk (PyData.keyHash P (Str.ofString "_fields")) (Value.str (Str.ofString "_fields") 510) (Value.ref 212)), (DictEntry.mk (PyData.keyHash P (Str.ofString "_field_defaults")) (Value.str (Str.ofString "_field_defaults") 511) (Value.ref 213)), (DictEntry.mk (PyData.keyHash P (Str.ofString "__new__")) (Value.str (Str.ofString "__new__") 522) (Value.ref 274)), (DictEntry.mk (PyData.keyHash P (Str.ofString "_make")) (Value.str (Str.ofString "_make") 544) (Value.ref 229)), (DictEntry.mk (PyData.keyHash P (Str.ofString "_replace")) (Value.str (Str.ofString "_replace") 555) (Value.ref 238)), (DictEntry.mk (PyData.keyHash P (Str.ofString "__replace__")) (Value.str (Str.ofString "__replace__") 556) (Value.ref 238)), (DictEntry.mk (PyData.keyHash P (Str.ofString "__repr__")) (Value.str (Str.ofString "__repr__") 564) (Value.ref 245)), (DictEntry.mk (PyData.keyHash P (Str.ofString "_asdict")) (Value.str (Str.ofString "_asdict") 571) (Value.ref 252)), (DictEntry.mk (PyData.keyHash P (Str.ofString "__getnewargs__")) (Value.str (Str.ofString "__getnewargs__") 579) (Value.ref 259)), (DictEntry.mk (PyData.keyHash P (Str.ofString "__match_args__")) (Value.str (Str.ofString "__match_args__") 583) (Value.ref 260)), (DictEntry.mk (PyData.keyHash P (Str.ofString "a")) (Value.str (Str.ofString "a") 593) (Value.ref 262)), (DictEntry.mk (PyData.keyHash P (Str.ofString "b")) (Value.str (Str.ofString "b") 603) (Value.ref 265)), (DictEntry.mk (PyData.keyHash P (Str.ofString "size")) (Value.str (Str.ofString "size") 613) (Value.ref 268)), (DictEntry.mk (PyData.keyHash P (Str.ofString "__static_attributes__")) (Value.str (Str.ofString "__static_attributes__") 614) (Value.ref 270))] 2) #[])
noncomputable def ob273 (P : Params) : Obj := (Obj.mk (Value.type "type") none (Data.cls (ClassData.mk (Str.ofString "Match") [(Value.type "tuple")] [(Value.ref 273), (Value.type "tuple"), (Value.type "object")] 272 (Str.ofString "Match") false [] [] false none false)) #[(some (Value.ref 203)), none, (some (Value.str (Str.ofString "Match") 491)), (some (Value.str (Str.ofString "Match") 499)), (some Value.none), (some (Value.bool false))])
noncomputable def ob274 (P : Params) : Obj := (Obj.mk (Value.type "staticmethod") none (Data.fields #[(Value.ref 220)]) #[])
noncomputable def ob291 (P : Params) : Obj := (Obj.mk (Value.type "tuple") none (Data.seq #[Value.none, (Value.str (Str.ofString "") 642), (Value.str (Str.ofString "") 643), (Value.bool true)] 0) #[])
noncomputable def ob297 (P : Params) : Obj := (Obj.mk (Value.type "code") none (Data.fields #[(Value.str (Str.ofString "__init__") 644), (Value.str (Str.ofString "SequenceMatcher.__init__") 645), (Value.str (Str.ofString "/claim/cut.py") 646), (Value.int 295 0), (Value.int 5 0), (Value.int 0 0), (Value.int 0 0), (Value.int 3 0), (Value.ref 292), (Value.bool true), (Value.int 181 0), (Value.ref 293), Value.none, (Value.ref 294), (Value.ref 295), (Value.ref 296), (Value.int 652 0), (Value.int 295 0), (Value.str (Str.ofString "/claim/cut.py") 653)]) #[])
noncomputable def ob298 (P : Params) : Obj := (Obj.mk (Value.type "function") none (Data.func (fnOf (Str.ofString "__init__") (Str.ofString "SequenceMatcher.__init__") F298.1 F298.2.1 F298.2.2.1 (Value.ref 291) Value.none (Value.str (docOr F298.2.1) 654) (Value.str (Str.ofString "cpy313.difflib") 431) none (Value.ref 297) Value.none)) #[])
noncomputable def ob304 (P : Params) : Obj := (Obj.mk (Value.type "code") none (Data.fields #[(Value.str (Str.ofString "set_seqs") 656), (Value.str (Str.ofString "SequenceMatcher.set_seqs") 657), (Value.str (Str.ofString "/claim/cut.py") 658), (Value.int 323 0), (Value.int 3 0), (Value.int 0 0), (Value.int 0 0), (Value.int 3 0), (Value.ref 299), (Value.bool true), (Value.int 181 0), (Value.ref 300), Value.none, (Value.ref 301), (Value.ref 302), (Value.ref 303), (Value.int 662 0), (Value.int 323 0), (Value.str (Str.ofString "/claim/cut.py") 663)]) #[])
noncomputable def ob305 (P : Params) : Obj := (Obj.mk (Value.type "function") none (Data.func (fnOf (Str.ofString "set_seqs") (Str.ofString "SequenceMatcher.set_seqs") F305.1 F305.2.1 F305.2.2.1 Value.none Value.none (Value.str (docOr F305.2.1) 664) (Value.str (Str.ofString "cpy313.difflib") 431) none (Value.ref 304) Value.none)) #[])
noncomputable def ob311 (P : Params) : Obj := (Obj.mk (Value.type "code") none (Data.fields #[(Value.str (Str.ofString "set_seq1") 666), (Value.str (Str.ofString "SequenceMatcher.set_seq1") 667), (Value.str (Str.ofString "/claim/cut.py") 668), (Value.int 334 0), (Value.int 2 0), (Value.int 0 0), (Value.int 0 0), (Value.int 3 0), (Value.ref 306), (Value.bool true), (Value.int 181 0), (Value.ref 307), Value.none, (Value.ref 308), (Value.ref 309), (Value.ref 310), (Value.int 671 0), (Value.int 334 0), (Value.str (Str.ofString "/claim/cut.py") 672)]) #[])
noncomputable def ob312 (P : Params) : Obj := (Obj.mk (Value.type "function") none (Data.func (fnOf (Str.ofString "set_seq1") (Str.ofString "SequenceMatcher.set_seq1") F312.1 F312.2.1 F312.2.2.1 Value.none Value.none (Value.str (docOr F312.2.1) 673) (Value.str (Str.ofString "cpy313.difflib") 431) none (Value.ref 311) Value.none)) #[])
noncomputable def ob318 (P : Params) : Obj := (Obj.mk (Value.type "code") none (Data.fields #[(Value.str (Str.ofString "set_seq2") 675), (Value.str (Str.ofString "SequenceMatcher.set_seq2") 676), (Value.str (Str.ofString "/claim/cut.py") 677), (Value.int 359 0), (Value.int 2 0), (Value.int 0 0), (Value.int 0 0), (Value.int 3 0), (Value.ref 313), (Value.bool true), (Value.int 181 0), (Value.ref 314), Value.none, (Value.ref 315), (Value.ref 316), (Value.ref 317), (Value.int 680 0), (Value.int 359 0), (Value.str (Str.ofString "/claim/cut.py") 681)]) #[])
noncomputable def ob319 (P : Params) : Obj := (Obj.mk (Value.type "function") none (Data.func (fnOf (Str.ofString "set_seq2") (Str.ofString "SequenceMatcher.set_seq2") F319.1 F319.2.1 F319.2.2.1 Value.none Value.none (Value.str (docOr F319.2.1) 682) (Value.str (Str.ofString "cpy313.difflib") 431) none (Value.ref 318) Value.none)) #[])
noncomputable def ob325 (P : Params) : Obj := (Obj.mk (Value.type "code") none (Data.fields #[(Value.str (Str.ofString "__chain_b") 684), (Value.str (Str.ofString "SequenceMatcher.__chain_b") 685), (Value.str (Str.ofString "/claim/cut.py") 686), (Value.int 386 0), (Value.int 1 0), (Value.int 0 0), (Value.int 0 0), (Value.int 3 0), (Value.ref 320), (Value.bool true), (Value.int 181 0), (Value.ref 321), Value.none, (Value.ref 322), (Value.ref 323), (Value.ref 324), (Value.int 699 0), (Value.int 386 0), (Value.str (Str.ofString "/claim/cut.py") 700)]) #[])
noncomputable def ob326 (P : Params) : Obj := (Obj.mk (Value.type "function") none (Data.func (fnOf (Str.ofString "__chain_b") (Str.ofString "SequenceMatcher.__chain_b") F326.1 F326.2.1 F326.2.2.1 Value.none Value.none Value.none (Value.str (Str.ofString "cpy313.difflib") 431) none (Value.ref 325) Value.none)) #[])
noncomputable def ob327 (P : Params) : Obj := (Obj.mk (Value.type "tuple") none (Data.seq #[(Value.int 0 702), Value.none, (Value.int 0 703), Value.none] 0) #[])
noncomputable def ob333 (P : Params) : Obj := (Obj.mk (Value.type "code") none (Data.fields #[(Value.str (Str.ofString "find_longest_match") 704), (Value.str (Str.ofString "SequenceMatcher.find_longest_match") 705), (Value.str (Str.ofString "/claim/cut.py") 706), (Value.int 410 0), (Value.int 5 0), (Value.int 0 0), (Value.int 0 0), (Value.int 3 0), (Value.ref 328), (Value.bool true), (Value.int 181 0), (Value.ref 329), Value.none, (Value.ref 330), (Value.ref 331), (Value.ref 332), (Value.int 726 0), (Value.int 410 0), (Value.str (Str.ofString "/claim/cut.py") 727)]) #[])
noncomputable def ob334 (P : Params) : Obj := (Obj.mk (Value.type "function") none (Data.func (fnOf (Str.ofString "find_longest_match") (Str.ofString "SequenceMatcher.find_longest_match") F334.1 F334.2.1 F334.2.2.1 (Value.ref 327) Value.none (Value.str (docOr F334.2.1) 728) (Value.str (Str.ofString "cpy313.difflib") 431) none (Value.ref 333) Value.none)) #[])
noncomputable def ob340 (P : Params) : Obj := (Obj.mk (Value.type "code") none (Data.fields #[(Value.str (Str.ofString "get_matching_blocks") 730), (Value.str (Str.ofString "SequenceMatcher.get_matching_blocks") 731), (Value.str (Str.ofString "/claim/cut.py") 732), (Value.int 485 0), (Value.int 1 0), (Value.int 0 0), (Value.int 0 0), (Value.int 3 0), (Value.ref 335), (Value.bool true), (Value.int 181 0), (Value.ref 336), Value.none, (Value.ref 337), (Value.ref 338), (Value.ref 339), (Value.int 753 0), (Value.int 485 0), (Value.str (Str.ofString "/claim/cut.py") 754)]) #[])
noncomputable def ob341 (P : Params) : Obj := (Obj.mk (Value.type "function") none (Data.func (fnOf (Str.ofString "get_matching_blocks") (Str.ofString "SequenceMatcher.get_matching_blocks") F341.1 F341.2.1 F341.2.2.1 Value.none Value.none (Value.str (docOr F341.2.1) 755) (Value.str (Str.ofString "cpy313.difflib") 431) none (Value.ref 340) Value.none)) #[])
noncomputable def ob347 (P : Params) : Obj := (Obj.mk (Value.type "code") none (Data.fields #[(Value.str (Str.ofString "get_opcodes") 757), (Value.str (Str.ofString "SequenceMatcher.get_opcodes") 758), (Value.str (Str.ofString "/claim/cut.py") 759), (Value.int 533 0), (Value.int 1 0), (Value.int 0 0), (Value.int 0 0), (Value.int 3 0), (Value.ref 342), (Value.bool true), (Value.int 181 0), (Value.ref 343), Value.none, (Value.ref 344), (Value.ref 345), (Value.ref 346), (Value.int 768 0), (Value.int 533 0), (Value.str (Str.ofString "/claim/cut.py") 769)]) #[])
noncomputable def ob348 (P : Params) : Obj := (Obj.mk (Value.type "function") none (Data.func (fnOf (Str.ofString "get_opcodes") (Str.ofString "SequenceMatcher.get_opcodes") F348.1 F348.2.1 F348.2.2.1 Value.none Value.none (Value.str (docOr F348.2.1) 770) (Value.str (Str.ofString "cpy313.difflib") 431) none (Value.ref 347) Value.none)) #[])
noncomputable def ob379 (P : Params) : Obj := (Obj.mk (Value.type "dict") none (Data.dict #[(DictEntry.mk (PyData.keyHash P (Str.ofString "__module__")) (Value.str (Str.ofString "__module__") 634) (Value.str (Str.ofString "cpy313.difflib") 431)), (DictEntry.mk (PyData.keyHash P (Str.ofString "__firstlineno__")) (Value.str (Str.ofString "__firstlineno__") 638) (Value.int 220 637)), (DictEntry.mk (PyData.keyHash P (Str.ofString "__doc__")) (Value.str (Str.ofString "__doc__") 640) (Value.str D2 639)), (DictEntry.mk (PyData.keyHash P (Str.ofString "__init__")) (Value.str (Str.ofString "__init__") 655) (Value.ref 298)), (DictEntry.mk (PyData.keyHash P (Str.ofString "set_seqs")) (Value.str (Str.ofString "set_seqs") 665) (Value.ref 305)), (DictEntry.mk (PyData.keyHash P (Str.ofString "set_seq1")) (Value.str (Str.ofString "set_seq1") 674) (Value.ref 312)), (DictEntry.mk (PyData.keyHash P (Str.ofString "set_seq2")) (Value.str (Str.ofString "set_seq2") 683) (Value.ref 319)), (DictEntry.mk (PyData.keyHash P (Str.ofString "_SequenceMatcher__chain_b")) (Value.str (Str.ofString "_SequenceMatcher__chain_b") 701) (Value.ref 326)), (DictEntry.mk (PyData.keyHash P (Str.ofString "find_longest_match")) (Value.str (Str.ofString "find_longest_match") 729) (Value.ref 334)), (DictEntry.mk (PyData.keyHash P (Str.ofString "get_matching_blocks")) (Value.str (Str.ofString "get_matching_blocks") 756) (Value.ref 341)), (DictEntry.mk (PyData.keyHash P (Str.ofString "get_opcodes")) (Value.str (Str.ofString "get_opcodes") 771) (Value.ref 348)), (DictEntry.mk (PyData.keyHash P (Str.ofString "get_grouped_opcodes")) (Value.str (Str.ofString "get_grouped_opcodes") 780) (Value.ref 356)), (DictEntry.mk (PyData.keyHash P (Str.ofString "ratio")) (Value.str (Str.ofString "ratio") 789) (Value.ref 363)), (DictEntry.mk (PyData.keyHash P (Str.ofString "quick_ratio")) (Value.str (Str.ofString "quick_ratio") 796) (Value.ref 370)), (DictEntry.mk (PyData.keyHash P (Str.ofString "real_quick_ratio")) (Value.str (Str.ofString "real_quick_ratio") 803) (Value.ref 377)), (DictEntry.mk (PyData.keyHash P (Str.ofString "__static_attributes__")) (Value.str (Str.ofString "__static_attributes__") 814) (Value.ref 378)), (DictEntry.mk (PyData.keyHash P (Str.ofString "__dict__")) (Value.str (Str.ofString "__dict__") 816) (Value.ref 381)), (DictEntry.mk (PyData.keyHash P (Str.ofString "__weakref__")) (Value.str (Str.ofString "__weakref__") 818) (Value.ref 382))] 3) #[])
noncomputable def ob380 (P : Params) : Obj := (Obj.mk (Value.type "type") none (Data.cls (ClassData.mk (Str.ofString "SequenceMatcher") [(Value.type "object")] [(Value.ref 380), (Value.type "object")] 379 (Str.ofString "SequenceMatcher") true [] [] false none false)) #[none, none, (some (Value.str (Str.ofString "SequenceMatcher") 627)), (some (Value.str (Str.ofString "SequenceMatcher") 635)), (some (Value.builtin "object.__new__")), (some (Value.bool true))])
noncomputable def ob390 (P : Params) : Obj := (Obj.mk (Value.type "code") none (Data.fields #[(Value.str (Str.ofString "_law_row") 823), (Value.str (Str.ofString "_law_row") 824), (Value.str (Str.ofString "/claim/cut.py") 825), (Value.int 613 0), (Value.int 1 0), (Value.int 0 0), (Value.int 0 0), (Value.int 3 0), (Value.ref 385), (Value.bool true), (Value.int 181 0), (Value.ref 386), Value.none, (Value.ref 387), (Value.ref 388), (Value.ref 389), (Value.int 829 0), (Value.int 613 0), (Value.str (Str.ofString "/claim/cut.py") 830)]) #[])
noncomputable def ob391 (P : Params) : Obj := (Obj.mk (Value.type "function") none (Data.func (fnOf (Str.ofString "_law_row") (Str.ofString "_law_row") F391.1 F391.2.1 F391.2.2.1 Value.none Value.none Value.none (Value.str (Str.ofString "law_il0153_01") 821) none (Value.ref 390) Value.none)) #[])
noncomputable def ob397 (P : Params) : Obj := (Obj.mk (Value.type "code") none (Data.fields #[(Value.str (Str.ofString "_law_edits") 832), (Value.str (Str.ofString "_law_edits") 833), (Value.str (Str.ofString "/claim/cut.py") 834), (Value.int 618 0), (Value.int 2 0), (Value.int 0 0), (Value.int 0 0), (Value.int 3 0), (Value.ref 392), (Value.bool true), (Value.int 181 0), (Value.ref 393), Value.none, (Value.ref 394), (Value.ref 395), (Value.ref 396), (Value.int 841 0), (Value.int 618 0), (Value.str (Str.ofString "/claim/cut.py") 842)]) #[])
noncomputable def ob398 (P : Params) : Obj := (Obj.mk (Value.type "function") none (Data.func (fnOf (Str.ofString "_law_edits") (Str.ofString "_law_edits") F398.1 F398.2.1 F398.2.2.1 Value.none Value.none Value.none (Value.str (Str.ofString "law_il0153_01") 821) none (Value.ref 397) Value.none)) #[])
noncomputable def ob402 (P : Params) : Obj := (Obj.mk (Value.type "code") none (Data.fields #[(Value.str (Str.ofString "_law_told") 844), (Value.str (Str.ofString "_law_told") 845), (Value.str (Str.ofString "/claim/cut.py") 846), (Value.int 631 0), (Value.int 2 0), (Value.int 0 0), (Value.int 0 0), (Value.int 3 0), (Value.ref 399), (Value.bool true), (Value.int 181 0), (Value.ref 400), Value.none, Value.none, Value.none, (Value.ref 401), (Value.int 847 0), (Value.int 631 0), (Value.str (Str.ofString "/claim/cut.py") 848)]) #[])
noncomputable def ob403 (P : Params) : Obj := (Obj.mk (Value.type "function") none (Data.func (fnOf (Str.ofString "_law_told") (Str.ofString "_law_told") F403.1 F403.2.1 F403.2.2.1 Value.none Value.none Value.none (Value.str (Str.ofString "law_il0153_01") 821) none (Value.ref 402) Value.none)) #[])
noncomputable def ob407 (P : Params) : Obj := (Obj.mk (Value.type "code") none (Data.fields #[(Value.str (Str.ofString "_law_hands") 850), (Value.str (Str.ofString "_law_hands") 851), (Value.str (Str.ofString "/claim/cut.py") 852), (Value.int 634 0), (Value.int 1 0), (Value.int 0 0), (Value.int 0 0), (Value.int 3 0), (Value.ref 404), (Value.bool true), (Value.int 181 0), (Value.ref 405), Value.none, Value.none, Value.none, (Value.ref 406), (Value.int 853 0), (Value.int 634 0), (Value.str (Str.ofString "/claim/cut.py") 854)]) #[])
noncomputable def ob408 (P : Params) : Obj := (Obj.mk (Value.type "function") none (Data.func (fnOf (Str.ofString "_law_hands") (Str.ofString "_law_hands") F408.1 F408.2.1 F408.2.2.1 Value.none Value.none Value.none (Value.str (Str.ofString "law_il0153_01") 821) none (Value.ref 407) Value.none)) #[])
noncomputable def ob412 (P : Params) : Obj := (Obj.mk (Value.type "code") none (Data.fields #[(Value.str (Str.ofString "law") 856), (Value.str (Str.ofString "law") 857), (Value.str (Str.ofString "/claim/cut.py") 858), (Value.int 645 0), (Value.int 1 0), (Value.int 0 0), (Value.int 0 0), (Value.int 3 0), (Value.ref 409), (Value.bool true), (Value.int 181 0), (Value.ref 410), Value.none, Value.none, Value.none, (Value.ref 411), (Value.int 859 0), (Value.int 645 0), (Value.str (Str.ofString "/claim/cut.py") 860)]) #[])
noncomputable def ob413 (P : Params) : Obj := (Obj.mk (Value.type "function") none (Data.func (fnOf (Str.ofString "law") (Str.ofString "law") F413.1 F413.2.1 F413.2.2.1 Value.none Value.none Value.none (Value.str (Str.ofString "law_il0153_01") 821) none (Value.ref 412) Value.none)) #[])
noncomputable def K (P : Params) : Frag := [(2, ob2 P), (3, ob3 P), (70, ob70 P), (71, ob71 P), (77, ob77 P), (78, ob78 P), (95, ob95 P), (96, ob96 P), (102, ob102 P), (103, ob103 P), (105, ob105 P), (148, ob148 P), (149, ob149 P), (150, ob150 P), (158, ob158 P), (159, ob159 P), (219, ob219 P), (220, ob220 P), (226, ob226 P), (227, ob227 P), (229, ob229 P), (272, ob272 P), (273, ob273 P), (274, ob274 P), (291, ob291 P), (297, ob297 P), (298, ob298 P), (304, ob304 P), (305, ob305 P), (311, ob311 P), (312, ob312 P), (318, ob318 P), (319, ob319 P), (325, ob325 P), (326, ob326 P), (327, ob327 P), (333, ob333 P), (334, ob334 P), (340, ob340 P), (341, ob341 P), (347, ob347 P), (348, ob348 P), (379, ob379 P), (380, ob380 P), (390, ob390 P), (391, ob391 P), (397, ob397 P), (398, ob398 P), (402, ob402 P), (403, ob403 P), (407, ob407 P), (408, ob408 P), (412, ob412 P), (413, ob413 P)]
noncomputable def Kas : List Addr := [2, 3, 70, 71, 77, 78, 95, 96, 102, 103, 105, 148, 149, 150, 158, 159, 219, 220, 226, 227, 229, 272, 273, 274, 291, 297, 298, 304, 305, 311, 312, 318, 319, 325, 326, 327, 333, 334, 340, 341, 347, 348, 379, 380, 390, 391, 397, 398, 402, 403, 407, 408, 412, 413]
noncomputable def envT : Env := { scope := pw.main.scope, locals := mainNs, globals := mainNs, cells := [], code := Value.ref 13, frame := some 14 }
noncomputable def o11 : Obj := { cls := Value.type "tuple", data := Data.seq #[] }
noncomputable def o12 : Obj := { cls := Value.none, data := Data.fields #[] }
noncomputable def o13 : Obj := { cls := Value.type "code", data := Data.fields #[Value.str (Str.ofString "<module>") 182, Value.str (Str.ofString "<module>") 183,
          Value.str (Str.ofString "/claim/cut.py") 184, Value.int 1 0, Value.int 0 0, Value.int 0 0, Value.int 0 0, Value.int 0 0, Value.ref 11,
          Value.bool Bool.false, Value.int 181 0, Value.ref 12, Value.none, Value.none, Value.none, Value.none, Value.int 185 0, Value.int 1 0,
          Value.str (Str.ofString "/claim/cut.py") 186] }
noncomputable def o14 : Obj := { cls := Value.type "frame", slots := #[some (Value.ref 13), some (Value.ref 3), some (Value.ref 3), none, some (Value.str (Str.ofString "__main__") 164), none, some (Value.ref 0)] }
noncomputable def tree0 (P : Params) : BT :=
  .node (boot_o_0 P)
    (.node (boot_o_1 P)
      (.node (boot_o_3 P) (.node (boot_o_7 P) .nil .nil) (.node o11 .nil .nil))
      (.node (boot_o_5 P) (.node (boot_o_9 P) .nil .nil) (.node o13 .nil .nil)))
    (.node (boot_o_2 P)
      (.node (boot_o_4 P) (.node (boot_o_8 P) .nil .nil) (.node o12 .nil .nil))
      (.node (boot_o_6 P) (.node (boot_o_10 P) .nil .nil) (.node o14 .nil .nil)))
noncomputable def S0T (w : World) (os : OsState) : SharedT := ⟨tree0 w.params, 15, {}, Array.mk [], {}, 187, os⟩
noncomputable def bodyR : List Stmt := behindTheImports pw
noncomputable abbrev frT : Frame := topFrame ⟨0, 0, 0, 0⟩
noncomputable abbrev cdT : Code := Code.body bodyR envT
noncomputable abbrev annT : Option Value := some (Value.ref 6)
theorem pre_twin (w : World) (os : OsState) :
    PySem.W.Fast.tw15667345088766844465 PySem.W.Fast.tw14364793385576792824 pw w 11 annT 12 ⟨boot_heap w.params, Array.mk [], boot_drawn, boot_toks, os⟩ (topStub pw) =
    some ((S0T w os).abs, ⟨PySem.W.Fast.tw11892475500146522536 PySem.W.Fast.tw14364793385576792824 cdT, cdT, ⟨0, 0, 0, 0⟩, [frT]⟩) := by kernel_rfl
theorem pre_run (w : World) (os : OsState) :
    topGo treeTable pw w 11 annT 12 ⟨boot_heap w.params, Array.mk [], boot_drawn, boot_toks, os⟩ (topStub pw) = some ((S0T w os).abs, ⟨denote treeTable cdT, cdT, ⟨0, 0, 0, 0⟩, [frT]⟩) := by
  rw [PySem.W.Fast.te15667345088766844465, PySem.W.Fast.te11892475500146522536, PySem.W.Fast.te14364793385576792824]
  exact pre_twin w os
theorem block_run (w : World) (os : OsState) :
    segRun treeTable pw w 11 annT 1 1 (S0T w os).abs (blockOf bodyR envT cdT ⟨0, 0, 0, 0⟩ [frT]) = some (.next, (S0T w os).abs, cdT, ⟨0, 0, 0, 0⟩) := by kernel_rfl
noncomputable def body2 : List Stmt := pw.main.body.take 14 ++ (cls2 :: pw.main.body.drop 15)
theorem body_eq : bodyR = body2 := by
  have h : bodyR = pw.main.body.take 14 ++ (cell14 :: pw.main.body.drop 15) := by kernel_rfl
  rw [h, cell14_cls2]; rfl
noncomputable def qV : Program := { pw with main := { pw.main with body := (pw.main.body.take 1) ++ (pw.main.body.drop 4).take 2 ++ (pw.main.body.drop 8).take 1 ++ (pw.main.body.drop 13).take 1 ++ pw.main.body.drop 16 } }
noncomputable def looseV : List Str := [Str.ofString "_tuplegetter", Str.ofString "tuplegetter_util", Str.ofString "Mismatch", Str.ofString "_Mismatch", Str.ofString "tuplegetter_difflib", Str.ofString "Match", Str.ofString "SequenceMatcher"]
abbrev rwO : OpenRow := PySem.Challenge.rw_il0153_01.row
noncomputable abbrev XtV (s : Shared) : Bool := xlAt qV [] s && recOk (RowW.records rwO.toRowW) s
theorem K_as (P : Params) : Kas = (K P).map (·.1) := by rfl
noncomputable abbrev HK : Hook := kHook K Kas K_as
noncomputable abbrev chkT (w : World) (s : Shared) : Bool := staticsOk (importedModules pw.main.body) (boot_heap w.params) s.heap && namesBound pw s.heap && gensDone s && laidKept (boot_heap w.params) s.heap
theorem main_twin (w : World) (os : OsState) :
    (PySem.W.Fast.tw10110043849684766642 table2 pw w 11 annT 1 3769 (S0T w os) (piecesOf body2 envT cdT ⟨0, 0, 0, 0⟩ [frT])).map
      (fun r => (r.1, r.2.2, chkT w r.2.1.abs, PySem.W.Fast.tw4187177175401517315 qV looseV (importedModules pw.main.body) XtV true r.2.1.abs, HK.obs r.2.1.abs)) =
    some (.next, (cdT, ⟨645, 0, 669, 86⟩), true, openGood qV looseV, HK.val w) := by kernel_rfl
theorem main_run (w : World) (os : OsState) : ∃ S : SharedT, segRun treeTable pw w 11 annT 1 3769 (S0T w os).abs (piecesOf bodyR envT cdT ⟨0, 0, 0, 0⟩ [frT]) = some (.next, S.abs, cdT, ⟨645, 0, 669, 86⟩) ∧
    chkT w S.abs = true ∧ openSeen qV looseV (importedModules pw.main.body) XtV true S.abs = openGood qV looseV ∧ HK.obs S.abs = HK.val w := by
  obtain ⟨⟨f, S, c, p⟩, hr, hv⟩ := Option.map_eq_some_iff.mp (main_twin w os)
  obtain ⟨rfl, q, h1, h2, h3⟩ : f = .next ∧ (c, p) = (cdT, ⟨645, 0, 669, 86⟩) ∧ chkT w S.abs = true ∧ PySem.W.Fast.tw4187177175401517315 qV looseV (importedModules pw.main.body) XtV true S.abs = openGood qV looseV ∧ HK.obs S.abs = HK.val w := by
    simpa only [Prod.mk.injEq] using hv
  obtain ⟨rfl, rfl⟩ := Prod.mk.inj q
  refine ⟨S, segRun_of ?_, h1, ?_, h3⟩
  · rw [body_eq, PySem.W.Fast.te10110043849684766642, table2_eq]; exact hr
  · rw [PySem.W.Fast.te4187177175401517315]; exact h2
theorem fin_run (w : World) (s : Shared) (b : List Stmt) (p : Pos) : topRun treeTable pw w 11 annT 2 s ⟨doneF .next, Code.body b envT, p, [frT]⟩ = some s := by
  cases s; rfl
theorem top_run (w : World) (os : OsState) : ∃ S : SharedT, topRun treeTable pw w 11 annT (12 + (1 + (3769 + 2))) ⟨boot_heap w.params, Array.mk [], boot_drawn, boot_toks, os⟩ (topStub pw) = some S.abs ∧
    chkT w S.abs = true ∧ openSeen qV looseV (importedModules pw.main.body) XtV true S.abs = openGood qV looseV ∧ HK.obs S.abs = HK.val w := by
  obtain ⟨S, hr, h⟩ := main_run w os
  refine ⟨S, go_top (pre_run w os) (piece_block (block_run w os) ?_), h⟩
  have k := piece_app (rest := []) hr (piece_nil (fin_run w S.abs bodyR ⟨645, 0, 669, 86⟩))
  rwa [List.append_nil] at k
theorem open_run (w : World) : (fencedOpening treeTable pw w 7660).map (fun s => (s.heap, s.gens, s.drawn, s.toks)) = some (boot_heap w.params, Array.mk [], boot_drawn, boot_toks) :=
  boot_open (by rfl) (by decide +kernel) (fun s => by rfl) w
theorem size_run (w : World) : ((boot_heap w.params).isNs mainGlobals && (Array.mk [] : Array GenState).size == 0, (boot_heap w.params).objs.size, (boot_heap w.params).nsMap mainGlobals (Str.ofString "__annotations__")) = (true, 11, annT) := by kernel_rfl
theorem left_of {p q : Program} {loose : List Str} {Xt : Shared → Bool} {α : Type} {Yf : Shared → α} {Ya : World → α} {N : Nat} {g0 : Bool} {H₀ : Params → Heap} {gs₀ : Array GenState} {d₀ : Drawn} {k₀ : Nat} {m₀ : Nat} {ann : Option Value} {M : Nat}
    (open_ : ∀ w : World, (fencedOpening treeTable p w N).map (fun s => (s.heap, s.gens, s.drawn, s.toks)) = some (H₀ w.params, gs₀, d₀, k₀))
    (size : ∀ w : World, ((H₀ w.params).isNs mainGlobals && gs₀.size == 0, (H₀ w.params).objs.size, (H₀ w.params).nsMap mainGlobals "__annotations__") = (true, m₀, ann))
    (run : ∀ (w : World) (os : OsState), ∃ S : Shared, topRun treeTable p w m₀ ann M ⟨H₀ w.params, gs₀, d₀, k₀, os⟩ (topStub p) = some S ∧
      (staticsOk (importedModules p.main.body) (H₀ w.params) S.heap && namesBound p S.heap && gensDone S && laidKept (H₀ w.params) S.heap) = true ∧
      openSeen q loose (importedModules p.main.body) Xt g0 S = openGood q loose ∧ Yf S = Ya w) (le : Nat.ble M N = true) : LeftO p q loose Xt Yf Ya N g0 := fun w => by
  obtain ⟨⟨h, gs, d, k, os⟩, e, e'⟩ := Option.map_eq_some_iff.mp (open_ w)
  obtain ⟨rfl, rfl, rfl, rfl⟩ : h = H₀ w.params ∧ gs = gs₀ ∧ d = d₀ ∧ k = k₀ := by simpa using e'
  obtain ⟨z1, z2, z3⟩ : _ ∧ _ ∧ _ := by simpa only [Prod.mk.injEq] using size w
  obtain ⟨S, r, l1, l2, l3⟩ := run w os
  have r := topRun_mono (N - M) _ _ _ _ r
  rw [show M + (N - M) = N by have := Nat.le_of_ble_eq_true le; lia] at r
  have t : topFrom treeTable p w N ⟨H₀ w.params, gs, d, k, os⟩ = some S := by
    unfold topFrom
    dsimp only
    rw [z1, z2, z3, r]
    show (match staticsOk (importedModules p.main.body) (H₀ w.params) S.heap && namesBound p S.heap && gensDone S && laidKept (H₀ w.params) S.heap with | true => _ | false => _) = _
    rw [l1]
  unfold openEnds
  rw [e]
  show (topFrom treeTable p w N _).map _ = _
  rw [t]
  exact congrArg some (Prod.ext l2 l3)
theorem left : LeftO pw qV looseV XtV HK.obs HK.val 7660 :=
  left_of open_run size_run (fun w os => let ⟨S, h⟩ := top_run w os; ⟨S.abs, h⟩) (by decide +kernel)
section
set_option maxHeartbeats 8000000
noncomputable def dLaw : (d : DefRec) × (kwd : List (Str × PySem.Expr)) × One (defOf qV rwO.name) (some (d, kwd)) := ⟨_, _, by with_unfolding_all exact One.mk _⟩
theorem wit : rwO.toRowW.promised := by w_witness2
theorem head (said : rwO.wellSaid = true) (hc : WalkO qV looseV (XL qV []) HK.says rwO.toRowW dLaw.1 dLaw.2.1 fun f vs => PySem.call f vs) : rwO.Holds :=
  holds_open (q := qV) (loose := looseV) (Xt := XtV) (XP := XL qV []) (Yf := HK.obs) (Ya := HK.val) (YP := HK.says) (N := 7660) left HK.of HK.keeps
    (fun s e => xl_of s (Bool.and_eq_true_iff.mp e).1) XL.keeps dLaw.2.2.eq (by rfl) (by rfl) (fun s e => recFacts_of (Bool.and_eq_true_iff.mp e).2) (by rfl)
    said (by decide +kernel) ⟨rfl, rfl, rfl, rfl, rfl, by decide +kernel⟩ wit hc
end
end Mine
end
section
open PySem PySem.W PyProof.Rows PySem.Calls
namespace Mine
set_option maxRecDepth 100000
section
/-! ## stores: objects that stay as they are -/
noncomputable abbrev Store := Addr → Option Obj
noncomputable def Store.Sub (G G' : Store) : Prop := ∀ a o, G a = some o → G' a = some o
noncomputable def Store.In (G : Store) (h : Heap) : Prop := ∀ a o, G a = some o → h.get? a = some o
noncomputable def Store.put (G : Store) (a : Addr) (o : Obj) : Store := fun b => if b = a then some o else G b
theorem Store.Sub.refl (G : Store) : G.Sub G := fun _ _ e => e
theorem Store.Sub.trans {G G' G'' : Store} (x : G.Sub G') (y : G'.Sub G'') : G.Sub G'' := fun a o e => y a o (x a o e)
theorem Store.sub_put {G : Store} {a : Addr} {o : Obj} (h : G a = none) : G.Sub (G.put a o) := fun b o' e => by
  unfold Store.put
  by_cases q : b = a
  · subst q; rw [h] at e; cases e
  · rw [if_neg q]; exact e
theorem Store.put_self {G : Store} {a : Addr} {o : Obj} : G.put a o a = some o := if_pos rfl

mutual
inductive Rep (G : Store) : Value → PyData → Prop
  | none : Rep G .none .none
  | bool (b) : Rep G (.bool b) (.bool b)
  | int (i t) : Rep G (.int i t) (.int i)
  | str (x t) : Rep G (.str x t) (.str x)
  | list {a o vs n xs} : G a = some o → o.cls = .type "list" → o.data = .seq vs n → RepAll G vs.toList xs → Rep G (.ref a) (.list xs)
  | tuple {a o vs n xs} : G a = some o → o.cls = .type "tuple" → o.data = .seq vs n → RepAll G vs.toList xs → Rep G (.ref a) (.tuple xs)
inductive RepAll (G : Store) : List Value → List PyData → Prop
  | nil : RepAll G [] []
  | cons {v vs d ds} : Rep G v d → RepAll G vs ds → RepAll G (v :: vs) (d :: ds)
end
theorem Rep.both {G : Store} {P : Value → PyData → Prop} {Q : List Value → List PyData → Prop} (h1 : P .none .none) (h2 : ∀ b, P (.bool b) (.bool b)) (h3 : ∀ i t, P (.int i t) (.int i)) (h4 : ∀ x t, P (.str x t) (.str x))
    (h5 : ∀ {a o vs n xs}, G a = some o → o.cls = .type "list" → o.data = .seq vs n → Q vs.toList xs → P (.ref a) (.list xs)) (h6 : ∀ {a o vs n xs}, G a = some o → o.cls = .type "tuple" → o.data = .seq vs n → Q vs.toList xs → P (.ref a) (.tuple xs))
    (h7 : Q [] []) (h8 : ∀ {v vs d ds}, P v d → Q vs ds → Q (v :: vs) (d :: ds)) : (∀ {v d}, Rep G v d → P v d) ∧ ∀ {vs ds}, RepAll G vs ds → Q vs ds :=
  ⟨fun r => Rep.rec (motive_1 := fun v d _ => P v d) (motive_2 := fun vs ds _ => Q vs ds) h1 h2 h3 h4 (fun e c d _ q => h5 e c d q) (fun e c d _ q => h6 e c d q) h7 (fun _ _ a b => h8 a b) r,
    fun r => RepAll.rec (motive_1 := fun v d _ => P v d) (motive_2 := fun vs ds _ => Q vs ds) h1 h2 h3 h4 (fun e c d _ q => h5 e c d q) (fun e c d _ q => h6 e c d q) h7 (fun _ _ a b => h8 a b) r⟩
theorem Rep.monos {G G' : Store} (k : G.Sub G') : (∀ {v d}, Rep G v d → Rep G' v d) ∧ ∀ {vs ds}, RepAll G vs ds → RepAll G' vs ds :=
  Rep.both .none .bool .int .str (fun e c d q => .list (k _ _ e) c d q) (fun e c d q => .tuple (k _ _ e) c d q) .nil .cons
theorem Rep.mono {G G' : Store} (k : G.Sub G') {v : Value} {d : PyData} (r : Rep G v d) : Rep G' v d := (Rep.monos k).1 r
theorem RepAll.mono {G G' : Store} (k : G.Sub G') {vs : List Value} {ds : List PyData} (r : RepAll G vs ds) : RepAll G' vs ds := (Rep.monos k).2 r
theorem Rep.readsB {G : Store} {h : Heap} (k : G.In h) : (∀ {v d}, Rep G v d → ∃ as, Reads h v d as) ∧ ∀ {vs ds}, RepAll G vs ds → ∃ as, ReadsAll h vs ds as :=
  Rep.both ⟨_, .none⟩ (fun b => ⟨_, .bool b⟩) (fun i t => ⟨_, .int i t⟩) (fun x t => ⟨_, .str x t⟩) (fun e c d q => q.elim fun _ q => ⟨_, .list (k _ _ e) c d q⟩) (fun e c d q => q.elim fun _ q => ⟨_, .tuple (k _ _ e) c d q⟩) ⟨_, .nil⟩
    fun a b => a.elim fun _ a => b.elim fun _ b => ⟨_, .cons a b⟩
theorem Rep.reads {G : Store} {h : Heap} (k : G.In h) {v : Value} {d : PyData} (r : Rep G v d) : ∃ as, Reads h v d as := (Rep.readsB k).1 r
theorem RepAll.reads {G : Store} {h : Heap} (k : G.In h) {vs : List Value} {ds : List PyData} (r : RepAll G vs ds) : ∃ as, ReadsAll h vs ds as := (Rep.readsB k).2 r
/-- RepAll by one list, over a plain induction -/
theorem RepAll.ind {G : Store} {P : List Value → List PyData → Prop} (h0 : P [] []) (h1 : ∀ {v vs d ds}, Rep G v d → RepAll G vs ds → P vs ds → P (v :: vs) (d :: ds)) : ∀ (vs : List Value) {ds : List PyData}, RepAll G vs ds → P vs ds := by
  intro vs
  induction vs with
  | nil => intro ds h; cases h; exact h0
  | cons v vs ih => intro ds h; cases h with | cons a b => exact h1 a b (ih b)
theorem RepAll.length {G : Store} {vs : List Value} {ds : List PyData} (h : RepAll G vs ds) : vs.length = ds.length :=
  RepAll.ind (P := fun vs ds => vs.length = ds.length) rfl (fun _ _ e => congrArg Nat.succ e) _ h
theorem RepAll.app {G : Store} {vs ws : List Value} {ds es : List PyData} (h : RepAll G vs ds) (k : RepAll G ws es) : RepAll G (vs ++ ws) (ds ++ es) :=
  RepAll.ind (P := fun vs ds => RepAll G (vs ++ ws) (ds ++ es)) k (fun a _ e => .cons a e) _ h
theorem RepAll.get {G : Store} {vs : List Value} {ds : List PyData} {k : Nat} {d : PyData} (h : RepAll G vs ds) : ds[k]? = some d → ∃ v, vs[k]? = some v ∧ Rep G v d := by
  refine RepAll.ind (P := fun vs ds => ∀ k, ds[k]? = some d → ∃ v, vs[k]? = some v ∧ Rep G v d) (fun k e => by simp at e) (fun {v vs d' ds} a _ ih k e => ?_) _ h k
  cases k with
  | zero => simp at e; subst e; exact ⟨_, rfl, a⟩
  | succ k => simp at e; exact ih k e
theorem RepAll.take {G : Store} {vs : List Value} {ds : List PyData} (k : Nat) (h : RepAll G vs ds) : RepAll G (vs.take k) (ds.take k) := by
  refine RepAll.ind (P := fun vs ds => ∀ k, RepAll G (vs.take k) (ds.take k)) (fun k => ?_) (fun a _ ih k => ?_) _ h k
  · rw [List.take_nil, List.take_nil]; exact .nil
  · cases k with
    | zero => exact .nil
    | succ k => exact .cons a (ih k)
theorem RepAll.drop {G : Store} {vs : List Value} {ds : List PyData} (k : Nat) (h : RepAll G vs ds) : RepAll G (vs.drop k) (ds.drop k) := by
  refine RepAll.ind (P := fun vs ds => ∀ k, RepAll G (vs.drop k) (ds.drop k)) (fun k => ?_) (fun a b ih k => ?_) _ h k
  · rw [List.drop_nil, List.drop_nil]; exact .nil
  · cases k with
    | zero => exact .cons a b
    | succ k => exact ih k
theorem RepAll.rev {G : Store} {vs : List Value} {ds : List PyData} (h : RepAll G vs ds) : RepAll G vs.reverse ds.reverse :=
  RepAll.ind (P := fun vs ds => RepAll G vs.reverse ds.reverse) .nil (fun a _ e => by rw [List.reverse_cons, List.reverse_cons]; exact e.app (.cons a .nil)) _ h
theorem RepAll.snoc_inv {G : Store} {v : Value} {ds : List PyData} {vs : List Value} (h : RepAll G (vs ++ [v]) ds) : ∃ es d, ds = es ++ [d] ∧ RepAll G vs es ∧ Rep G v d := by
  induction vs generalizing ds with
  | nil => cases h with | cons a b => cases b; exact ⟨[], _, rfl, .nil, a⟩
  | cons w vs ih =>
    cases h with
    | cons a b => obtain ⟨es, d, rfl, p, q⟩ := ih b; exact ⟨_ :: es, d, rfl, .cons a p, q⟩
noncomputable abbrev dInts (ns : List Int) : PyData := .list (ns.map .int)

/-! ## what is known of the heap behind the top -/
structure Bs (w : World) (h : Heap) : Prop where
  X : (K w.params).In h
  ex : ∃ mg mb, h.Ns mainGlobals mg ∧ h.Ns builtinsNs mb ∧ ∀ x : Str, x ≠ "__name__" → mb x = bootBuiltins x
  lim : h.NoLimit
theorem Bs.keeps {w : World} {h h' : Heap} (b : Bs w h) (k : ∀ b o, h.get? b = some o → h'.get? b = some o) : Bs w h' :=
  ⟨b.X.keeps k, by obtain ⟨mg, mb, x, y, z⟩ := b.ex; exact ⟨mg, mb, x.keeps k, y.keeps k, z⟩, b.lim.keeps k⟩

/-! ## a frame's names, in one order -/
noncomputable abbrev Loc := List (Str × Option Value)
noncomputable def look (l : Loc) : Str → Option Value := fun y => (l.lookup y).join
inductive SetTo : Loc → Str → Value → Loc → Prop
  | head {x u v l} : SetTo ((x, u) :: l) x v ((x, some v) :: l)
  | tail {p x v l l'} : SetTo l x v l' → SetTo (p :: l) x v (p :: l')
theorem SetTo.names {l : Loc} {x : Str} {v : Value} {l' : Loc} (h : SetTo l x v l') : l'.map (·.1) = l.map (·.1) := by
  induction h with
  | head => rfl
  | tail h ih => rw [List.map_cons, List.map_cons, ih]
theorem SetTo.mem {l : Loc} {x : Str} {v : Value} {l' : Loc} (h : SetTo l x v l') : x ∈ l.map (·.1) := by
  induction h with
  | head => exact .head _
  | tail h ih => exact .tail _ ih
theorem lookup_none {l : Loc} {x : Str} (h : x ∉ l.map (·.1)) : l.lookup x = none := by
  induction l with
  | nil => rfl
  | cons p l ih =>
    simp only [List.map_cons, List.mem_cons, not_or] at h
    rw [List.lookup_cons]
    have : (x == p.1) = false := by simpa using h.1
    rw [this]; exact ih h.2
theorem SetTo.look {l : Loc} {x : Str} {v : Value} {l' : Loc} (h : SetTo l x v l') : (l.map (·.1)).Nodup → (fun y => if y = x then some v else look l y) = Mine.look l' := by
  induction h with
  | @head x u v l =>
    intro hn
    funext y
    simp only [Mine.look, List.lookup_cons]
    by_cases h : y = x
    · subst h; simp
    · have : (y == x) = false := by simpa using h
      rw [if_neg h, this]
  | @tail p x v l l' h ih =>
    intro hn
    funext y
    rw [List.map_cons, List.nodup_cons] at hn
    have hx : x ≠ p.1 := fun e => hn.1 (e ▸ h.mem)
    have ih := congrFun (ih hn.2) y
    obtain ⟨z, u⟩ := p
    simp only [Mine.look, List.lookup_cons] at ih ⊢
    by_cases hp : y = z
    · subst hp
      rw [if_neg (Ne.symm hx)]; simp
    · have : (y == z) = false := by simpa using hp
      rw [this]; exact ih
theorem look_mem {l : Loc} {x : Str} {v : Value} (hm : (x, some v) ∈ l) (hn : (l.map (·.1)).Nodup) : look l x = some v := by
  induction l with
  | nil => exact absurd hm List.not_mem_nil
  | cons p l ih =>
    rw [List.map_cons, List.nodup_cons] at hn
    obtain ⟨z, u⟩ := p
    simp only [look, List.lookup_cons]
    rcases List.mem_cons.mp hm with e | e
    · cases e; simp
    · have : x ≠ z := fun q => hn.1 (q ▸ List.mem_map_of_mem (f := (·.1)) e)
      have : (x == z) = false := by simpa using this
      rw [this]; exact ih e hn.2
inductive Has : Loc → Str → Value → Prop
  | head {x v l} : Has ((x, some v) :: l) x v
  | tail {p x v l} : Has l x v → Has (p :: l) x v
theorem Has.mem {l : Loc} {x : Str} {v : Value} (h : Has l x v) : (x, some v) ∈ l := by
  induction h with
  | head => exact .head _
  | tail h ih => exact .tail _ ih
/-! ## names by places: the list stays folded -/
@[reducible] noncomputable def nth : Nat → Loc → Option (Str × Option Value)
  | 0, p :: _ => some p
  | k + 1, _ :: l => nth k l
  | _, [] => none
@[reducible] noncomputable def putAt : Nat → Value → Loc → Loc
  | 0, v, p :: l => (p.1, some v) :: l
  | k + 1, v, p :: l => p :: putAt k v l
  | _, _, [] => []
theorem Has.nth {l : Loc} (k : Nat) {x : Str} {v : Value} (h : Mine.nth k l = some (x, some v)) : Has l x v := by
  induction k generalizing l with
  | zero => cases l with
    | nil => cases h
    | cons p l => cases h; exact .head
  | succ k ih => cases l with
    | nil => cases h
    | cons p l => exact .tail (ih h)
theorem SetTo.nth {l : Loc} (k : Nat) {x : Str} {v : Value} (h : (Mine.nth k l).map (·.1) = some x) : SetTo l x v (putAt k v l) := by
  induction k generalizing l with
  | zero => cases l with
    | nil => cases h
    | cons p l => cases h; exact .head
  | succ k ih => cases l with
    | nil => cases h
    | cons p l => exact .tail (ih h)
theorem look_none (ns : List Str) : look (ns.map fun n => (n, none)) = fun _ => none := by
  funext y
  unfold look
  induction ns with
  | nil => rfl
  | cons n ns ih =>
    simp only [List.map_cons, List.lookup_cons]
    split
    · rfl
    · exact ih

/-! ## the state within a call -/
structure St (w : World) (env : Env) (G₀ : Store) (h₀ : Heap) (own : List (Addr × Obj)) (l : Loc) (G : Store) (h : Heap) : Prop where
  bs : Bs w h₀
  kind : env.scope.kind = .function
  glo : env.globals = mainGlobals
  blt : env.builtins = builtinsNs
  fr : Fr h₀ env.locals h (look l)
  nd : (l.map (·.1)).Nodup
  lc : ∀ x ∈ l.map (·.1), env.kindOf x = some .local
  gin : G.In h
  gsub : G₀.Sub G
  gnew : ∀ a o, G a = some o → G₀ a = some o ∨ h₀.get? a = none
  gL : G env.locals = none
  ow : ∀ p ∈ own, h.get? p.1 = some p.2 ∧ p.1 ≠ env.locals ∧ h₀.get? p.1 = none ∧ G p.1 = none
  ond : (own.map (·.1)).Nodup

section
variable {w : World} {env : Env} {G₀ G : Store} {h₀ h h' : Heap} {own : List (Addr × Obj)} {l l' : Loc} {M : Model} {A : Around} {E : Value → Shared → Prop} {s : Shared}
theorem St.keep (S : St w env G₀ h₀ own l G h) : ∀ b o, h₀.get? b = some o → h.get? b = some o := S.fr.keep
theorem St.bsNow (S : St w env G₀ h₀ own l G h) : Bs w h := S.bs.keeps S.fr.keep

theorem ld_ {x : Str} {pos : Pos} {v : Value} {Q : Value → Shared → Prop} (S : St w env G₀ h₀ own l G s.heap) (hm0 : Has l x v) (h : Q v s)
    (hd : (x == ("__debug__" : Str)) = false := by decide +kernel) : wpAny M A (eval (.Name x pos) env) Q E s :=
  have hm := hm0.mem
  wpAny_Name (wpAny_loadName_local S.kind (S.lc x (List.mem_map_of_mem (f := (·.1)) hm)) S.fr.ns (look_mem hm S.nd) h) hd
theorem ldn_ {x : Str} {v : Value} {Q : Value → Shared → Prop} (S : St w env G₀ h₀ own l G s.heap) (hm0 : Has l x v) (h : Q v s) : wpAny M A (loadName env x) Q E s :=
  have hm := hm0.mem
  wpAny_loadName_local S.kind (S.lc x (List.mem_map_of_mem (f := (·.1)) hm)) S.fr.ns (look_mem hm S.nd) h
theorem St.setLoc {x : Str} {v : Value} (S : St w env G₀ h₀ own l G h) (hx : SetTo l x v l') (hn : h'.Ns env.locals (fun y => if y = x then some v else look l y)) (hs : Heap.SameBut env.locals h h') :
    St w env G₀ h₀ own l' G h' where
  bs := S.bs
  kind := S.kind
  glo := S.glo
  blt := S.blt
  fr := S.fr.set (by rw [← hx.look S.nd]; exact hn) hs
  nd := by rw [hx.names]; exact S.nd
  lc := by rw [hx.names]; exact S.lc
  gin := fun a o e => (hs.2 a (fun q => by rw [q, S.gL] at e; cases e)).trans (S.gin a o e)
  gsub := S.gsub
  gnew := S.gnew
  gL := S.gL
  ow := fun p hp => let ⟨a, b, c, d⟩ := S.ow p hp; ⟨(hs.2 _ b).trans a, b, c, d⟩
  ond := S.ond
theorem st_ {x : Str} {v : Value} {Q : Unit → Shared → Prop} (S : St w env G₀ h₀ own l G s.heap) (hx : SetTo l x v l')
    (h : ∀ h', St w env G₀ h₀ own l' G h' → Q () { s with heap := h', toks := s.toks + 1 }) : wpAny M A (storeName env x v) Q E s :=
  wpAny_storeName_local (S.lc x hx.mem) S.fr.ns (fun h' hn hs => h h' (S.setLoc hx hn hs)) (by rw [S.kind]; rfl)

/-- a global name of the text's -/
theorem gl_ {x : Str} {pos : Pos} {v : Value} {Q : Value → Shared → Prop} (S : St w env G₀ h₀ own l G s.heap) (e : ∀ P, nsIn (K P) mainGlobals x = some (some v)) (h : Q v s)
    (hx : env.kindOf x = some .globalImplicit) (hd : (x == ("__debug__" : Str)) = false := by decide +kernel) : wpAny M A (eval (.Name x pos) env) Q E s := by
  obtain ⟨mg, mb, g, b, z⟩ := S.bsNow.ex
  exact Name_function_global S.kind hx (loadGlobal_global (by rw [S.glo]; exact g) (mg_of S.bsNow.X g (e _)) h) hd
/-- a built-in name -/
theorem bi_ {x : Str} {pos : Pos} {v : Value} {Q : Value → Shared → Prop} (S : St w env G₀ h₀ own l G s.heap) (e : ∀ P, nsIn (K P) mainGlobals x = some none) (hb : bootBuiltins x = some v) (h : Q v s)
    (hx : env.kindOf x = some .globalImplicit) (hn : x ≠ "__name__" := by decide +kernel) (hd : (x == ("__debug__" : Str)) = false := by decide +kernel) : wpAny M A (eval (.Name x pos) env) Q E s := by
  obtain ⟨mg, mb, g, b, z⟩ := S.bsNow.ex
  exact Name_function_global S.kind hx (loadGlobal_builtin (by rw [S.glo]; exact g) (mg_none_of S.bsNow.X g (e _)) (by rw [S.blt]; exact b) ((z x hn).trans hb) h) hd

/-- a new object that will stay as it is -/
theorem St.push (S : St w env G₀ h₀ own l G h) (o : Obj) (hf : o.isFreed = false) : St w env G₀ h₀ own l (G.put h.objs.size o) (h.push o) ∧ G.Sub (G.put h.objs.size o) := by
  have hnone : ∀ {G' : Store}, G'.In h → G' h.objs.size = none := fun {G'} k => by
    cases q : G' h.objs.size with
    | none => rfl
    | some o' => exact absurd (Heap.lt_size (k _ _ q)) (Nat.lt_irrefl _)
  have hL : env.locals < h.objs.size := S.fr.ns.lt
  refine ⟨{ bs := S.bs, kind := S.kind, glo := S.glo, blt := S.blt, fr := S.fr.push o, nd := S.nd, lc := S.lc, gin := fun a o' e => ?_, gsub := fun a o' e => ?_, gnew := fun a o' e => ?_, gL := ?_, ow := fun p hp => ?_, ond := S.ond }, Store.sub_put (hnone S.gin)⟩
  · unfold Store.put at e
    by_cases q : a = h.objs.size
    · subst q; rw [if_pos rfl] at e; cases e; exact Heap.get?_push_size _ hf
    · rw [if_neg q] at e; exact Heap.get?_push_of_some _ (S.gin a o' e)
  · exact Store.sub_put (hnone S.gin) a o' (S.gsub a o' e)
  · unfold Store.put at e
    by_cases q : a = h.objs.size
    · right
      cases q' : h₀.get? a with
      | none => rfl
      | some o'' => exact absurd (Heap.lt_size (S.fr.keep _ _ q')) (q ▸ Nat.lt_irrefl _)
    · rw [if_neg q] at e; exact S.gnew a o' e
  · unfold Store.put; rw [if_neg (Nat.ne_of_lt hL)]; exact S.gL
  · obtain ⟨a, b, c, d⟩ := S.ow p hp
    refine ⟨Heap.get?_push_of_some _ a, b, c, ?_⟩
    unfold Store.put; rw [if_neg (Nat.ne_of_lt (Heap.lt_size a))]; exact d
/-- a new object that may change -/
theorem St.pushOwn (S : St w env G₀ h₀ own l G h) (o : Obj) (hf : o.isFreed = false) : St w env G₀ h₀ ((h.objs.size, o) :: own) l G (h.push o) := by
  have hL : env.locals < h.objs.size := S.fr.ns.lt
  refine { bs := S.bs, kind := S.kind, glo := S.glo, blt := S.blt, fr := S.fr.push o, nd := S.nd, lc := S.lc, gin := fun a o' e => Heap.get?_push_of_some _ (S.gin a o' e), gsub := S.gsub, gnew := S.gnew, gL := S.gL, ow := fun p hp => ?_, ond := ?_ }
  · rcases List.mem_cons.mp hp with rfl | hp
    · refine ⟨Heap.get?_push_size _ hf, Nat.ne_of_gt hL, ?_, ?_⟩
      · cases q : h₀.get? h.objs.size with
        | none => rfl
        | some o' => exact absurd (Heap.lt_size (S.fr.keep _ _ q)) (Nat.lt_irrefl _)
      · cases q : G h.objs.size with
        | none => rfl
        | some o' => exact absurd (Heap.lt_size (S.gin _ _ q)) (Nat.lt_irrefl _)
    · obtain ⟨a, b, c, d⟩ := S.ow p hp
      exact ⟨Heap.get?_push_of_some _ a, b, c, d⟩
  · rw [List.map_cons, List.nodup_cons]
    refine ⟨fun q => ?_, S.ond⟩
    obtain ⟨p, hp, e⟩ := List.mem_map.mp q
    exact absurd (Heap.lt_size (S.ow p hp).1) (by rw [e]; exact Nat.lt_irrefl _)
/-- an own object changed -/
inductive OwnTo : List (Addr × Obj) → Addr → Obj → Obj → List (Addr × Obj) → Prop
  | head {a o o' r} : OwnTo ((a, o) :: r) a o o' ((a, o') :: r)
  | tail {p a o o' r r'} : OwnTo r a o o' r' → OwnTo (p :: r) a o o' (p :: r')
theorem OwnTo.addrs {r : List (Addr × Obj)} {a : Addr} {o o' : Obj} {r' : List (Addr × Obj)} (h : OwnTo r a o o' r') : r'.map (·.1) = r.map (·.1) := by
  induction h with
  | head => rfl
  | tail h ih => rw [List.map_cons, List.map_cons, ih]
theorem OwnTo.mem {r : List (Addr × Obj)} {a : Addr} {o o' : Obj} {r' : List (Addr × Obj)} (h : OwnTo r a o o' r') : (a, o) ∈ r := by
  induction h with
  | head => exact .head _
  | tail h ih => exact .tail _ ih
theorem OwnTo.cases {r : List (Addr × Obj)} {a : Addr} {o o' : Obj} {r' : List (Addr × Obj)} (h : OwnTo r a o o' r') : (r.map (·.1)).Nodup → ∀ p ∈ r', p = (a, o') ∨ (p ∈ r ∧ p.1 ≠ a) := by
  induction h with
  | head =>
    intro hn p hp
    rw [List.map_cons, List.nodup_cons] at hn
    rcases List.mem_cons.mp hp with e | e
    · exact .inl e
    · exact .inr ⟨.tail _ e, fun q => hn.1 (q ▸ List.mem_map_of_mem (f := (·.1)) e)⟩
  | tail h ih =>
    intro hn p hp
    rw [List.map_cons, List.nodup_cons] at hn
    rcases List.mem_cons.mp hp with e | e
    · subst e
      exact .inr ⟨.head _, fun q => hn.1 (q ▸ List.mem_map_of_mem (f := (·.1)) h.mem)⟩
    · rcases ih hn.2 p e with q | q
      · exact .inl q
      · exact .inr ⟨.tail _ q.1, q.2⟩
theorem St.upd {a : Addr} {o o' : Obj} {own' : List (Addr × Obj)} (S : St w env G₀ h₀ own l G h) (ho : OwnTo own a o o' own') (hs : Heap.SameBut a h h') (hg : h'.get? a = some o') :
    St w env G₀ h₀ own' l G h' := by
  have D := S.ow _ ho.mem
  have hL : env.locals ≠ a := fun q => D.2.1 q.symm
  obtain ⟨oL, es, ep, eL, r⟩ := S.fr.ns
  refine { bs := S.bs, kind := S.kind, glo := S.glo, blt := S.blt, fr := ⟨⟨oL, es, ep, (hs.2 _ hL).trans eL, r⟩, fun b x q => (hs.2 b fun z => ?_).trans (S.fr.keep b x q), S.fr.above⟩, nd := S.nd, lc := S.lc, gin := fun b x q => (hs.2 b fun z => ?_).trans (S.gin b x q), gsub := S.gsub, gnew := S.gnew, gL := S.gL, ow := fun p hp => ?_, ond := by rw [ho.addrs]; exact S.ond }
  · subst z; have := D.2.2.1; rw [q] at this; cases this
  · subst z; have := D.2.2.2; rw [q] at this; cases this
  · rcases ho.cases S.ond p hp with rfl | ⟨q, hne⟩
    · exact ⟨hg, D.2⟩
    · have P := S.ow p q; exact ⟨(hs.2 _ hne).trans P.1, P.2⟩
/-- an own object that will stay as it is from here on -/
inductive OwnOff : List (Addr × Obj) → Addr → Obj → List (Addr × Obj) → Prop
  | head {a o r} : OwnOff ((a, o) :: r) a o r
  | tail {p a o r r'} : OwnOff r a o r' → OwnOff (p :: r) a o (p :: r')
theorem OwnOff.mem {r : List (Addr × Obj)} {a : Addr} {o : Obj} {r' : List (Addr × Obj)} (h : OwnOff r a o r') : (a, o) ∈ r := by
  induction h with
  | head => exact .head _
  | tail h ih => exact .tail _ ih
theorem OwnOff.sub {r : List (Addr × Obj)} {a : Addr} {o : Obj} {r' : List (Addr × Obj)} (h : OwnOff r a o r') : ∀ p ∈ r', p ∈ r := by
  induction h with
  | head => exact fun _ hp => .tail _ hp
  | tail h ih =>
    intro p hp
    rcases List.mem_cons.mp hp with e | e
    · exact e ▸ .head _
    · exact .tail _ (ih p e)
theorem OwnOff.nodup {r : List (Addr × Obj)} {a : Addr} {o : Obj} {r' : List (Addr × Obj)} (h : OwnOff r a o r') : (r.map (·.1)).Nodup → a ∉ r'.map (·.1) ∧ (r'.map (·.1)).Nodup := by
  induction h with
  | head => intro hn; rw [List.map_cons, List.nodup_cons] at hn; exact hn
  | tail h ih =>
    intro hn
    rw [List.map_cons, List.nodup_cons] at hn
    have ih := ih hn.2
    refine ⟨fun q => ?_, ?_⟩
    · rw [List.map_cons, List.mem_cons] at q
      rcases q with q | q
      · exact hn.1 (q ▸ List.mem_map_of_mem (f := (·.1)) h.mem)
      · exact ih.1 q
    · rw [List.map_cons, List.nodup_cons]
      refine ⟨fun q => hn.1 ?_, ih.2⟩
      obtain ⟨p, hp, e⟩ := List.mem_map.mp q
      exact e ▸ List.mem_map_of_mem (f := (·.1)) (h.sub p hp)
theorem St.freeze {a : Addr} {o : Obj} {own' : List (Addr × Obj)} (S : St w env G₀ h₀ own l G h) (ho : OwnOff own a o own') :
    St w env G₀ h₀ own' l (G.put a o) h ∧ G.Sub (G.put a o) := by
  have D := S.ow _ ho.mem
  have N := ho.nodup S.ond
  refine ⟨{ bs := S.bs, kind := S.kind, glo := S.glo, blt := S.blt, fr := S.fr, nd := S.nd, lc := S.lc, gin := fun b x e => ?_, gsub := S.gsub.trans (Store.sub_put D.2.2.2), gnew := fun b x e => ?_, gL := ?_, ow := fun p hp => ?_, ond := N.2 }, Store.sub_put D.2.2.2⟩
  · unfold Store.put at e
    by_cases q : b = a
    · subst q; rw [if_pos rfl] at e; cases e; exact D.1
    · rw [if_neg q] at e; exact S.gin b x e
  · unfold Store.put at e
    by_cases q : b = a
    · subst q; exact .inr D.2.2.1
    · rw [if_neg q] at e; exact S.gnew b x e
  · unfold Store.put; rw [if_neg (Ne.symm D.2.1)]; exact S.gL
  · have P := S.ow p (ho.sub p hp)
    refine ⟨P.1, P.2.1, P.2.2.1, ?_⟩
    unfold Store.put; rw [if_neg (show ¬ p.1 = a from fun q => N.1 (q ▸ List.mem_map_of_mem (f := (·.1)) hp))]; exact P.2.2.2
end
end
/-! ## posts by name: the rules' posts as applications of a few definitions, so that a walk's term stays small -/
section
variable (M : Model) (A : Around) (E : Value → Shared → Prop) (env : Env)
@[reducible] noncomputable def qSeq (rest : List Stmt) (Q : Flow → Shared → Prop) : Flow → Shared → Prop := fun f s' => match f with | .next => wpAny M A (execs rest env) Q E s' | f => Q f s'
@[reducible] noncomputable def qIf (body orelse : List Stmt) (Q : Flow → Shared → Prop) : Bool → Shared → Prop := fun b s₂ => if b then wpAny M A (execs body env) Q E s₂ else wpAny M A (execs orelse env) Q E s₂
@[reducible] noncomputable def qCons (Q : List Value → Shared → Prop) (v : Value) : List Value → Shared → Prop := fun vs s₂ => Q (v :: vs) s₂
@[reducible] noncomputable def qArg (pos : Pos) (rest : List PySem.Expr) (Q : List Value → Shared → Prop) : Value → Shared → Prop := fun v s₁ => wpAny M A (spliced (backTo pos (starEach rest env))) (qCons Q v) E s₁
@[reducible] noncomputable def qTru (Q : Bool → Shared → Prop) : Value → Shared → Prop := fun c s₃ => wpAny M A (truthy c) Q E s₃
@[reducible] noncomputable def qCmp2 (op : CmpOp) (Q : Value → Shared → Prop) (a : Value) : Value → Shared → Prop := fun b s₂ => wpAny M A (compareOp op a b) Q E s₂
@[reducible] noncomputable def qCmp1 (op : CmpOp) (r : PySem.Expr) (Q : Value → Shared → Prop) : Value → Shared → Prop := fun a s₁ => wpAny M A (PySem.eval r env) (qCmp2 M A E op Q a) E s₁
@[reducible] noncomputable def qBin2 (op : Operator) (Q : Value → Shared → Prop) (a : Value) : Value → Shared → Prop := fun b s₂ => wpAny M A (binaryOp op a b) Q E s₂
@[reducible] noncomputable def qBin1 (op : Operator) (r : PySem.Expr) (Q : Value → Shared → Prop) : Value → Shared → Prop := fun a s₁ => wpAny M A (PySem.eval r env) (qBin2 M A E op Q a) E s₁
@[reducible] noncomputable def qSub2 (value slice : PySem.Expr) (Q : Value → Shared → Prop) (o : Value) : Value → Shared → Prop := fun i s₂ => wpAny M A (subscriptTail value slice o i) Q E s₂
@[reducible] noncomputable def qSub1 (value slice : PySem.Expr) (Q : Value → Shared → Prop) : Value → Shared → Prop := fun o s₁ => wpAny M A (PySem.eval slice env) (qSub2 M A E value slice Q o) E s₁
@[reducible] noncomputable def qNewT (Q : Value → Shared → Prop) : List Value → Shared → Prop := fun vs s₁ => wpAny M A (newTuple vs) Q E s₁
@[reducible] noncomputable def qNewL (Q : Value → Shared → Prop) : List Value → Shared → Prop := fun vs s₁ => wpAny M A (newList vs) Q E s₁
@[reducible] noncomputable def qWith (pos : Pos) (args : List PySem.Expr) (Q : Value → Shared → Prop) : Value → Shared → Prop := fun f s₁ => wpAny M A (callWith pos f [] (backTo pos (starEach args env)) []) Q E s₁
@[reducible] noncomputable def qMeth2 (pos : Pos) (args : List PySem.Expr) (Q : Value → Shared → Prop) : Value × List Value → Shared → Prop := fun fx s₂ => wpAny M A (callWith pos fx.1 fx.2 (backTo pos (starEach args env)) []) Q E s₂
@[reducible] noncomputable def qMeth1 (name : Str) (pl : Sem Bool) (pos : Pos) (args : List PySem.Expr) (Q : Value → Shared → Prop) : Value → Shared → Prop := fun ov s₁ => wpAny M A (getMethod ov name pl) (qMeth2 M A E env pos args Q) E s₁
@[reducible] noncomputable def qAttr (attr : Str) (Q : Value → Shared → Prop) : Value → Shared → Prop := fun o s₁ => wpAny M A (getAttr o attr true) Q E s₁
@[reducible] noncomputable def qCall (f : Value) (Q : Value → Shared → Prop) : List Value → Shared → Prop := fun vs s₁ => wpAny M A (call f vs) Q E s₁
@[reducible] noncomputable def qCallM (f : Value) (first : List Value) (Q : Value → Shared → Prop) : List Value → Shared → Prop := fun vs s₁ => wpAny M A (call f (first ++ vs)) Q E s₁
@[reducible] noncomputable def qCallD (f : Addr) (o : Obj) (Q : Value → Shared → Prop) : List Value → Shared → Prop := fun vs s₁ => s₁.heap.get? f = some o ∧ wpAny M A (call (.ref f) vs) Q E s₁
@[reducible] noncomputable def qNx (Q : Flow → Shared → Prop) : Unit → Shared → Prop := fun _ => Q .next
@[reducible] noncomputable def qSet (x : Str) (Q : Flow → Shared → Prop) : Value → Shared → Prop := fun v s₁ => wpAny M A (storeName env x v) (qNx Q) E s₁
@[reducible] noncomputable def qAsg (tgt : PySem.Expr) (Q : Flow → Shared → Prop) : Value → Shared → Prop := fun v s₁ => wpAny M A (assign tgt env v) (qNx Q) E s₁
@[reducible] noncomputable def qAsg2b (t₂ : PySem.Expr) (Q : Flow → Shared → Prop) (v : Value) : Unit → Shared → Prop := fun _ s₂ => wpAny M A (assign t₂ env v) (qNx Q) E s₂
@[reducible] noncomputable def qAsg2 (t₁ t₂ : PySem.Expr) (Q : Flow → Shared → Prop) : Value → Shared → Prop := fun v s₁ => wpAny M A (assign t₁ env v) (qAsg2b M A E env t₂ Q v) E s₁
@[reducible] noncomputable def qSwp2 (names : List Str) (Q : Flow → Shared → Prop) : List Value → Shared → Prop := fun items s₂ => wpAny M A (assignInOrder (names.reverse.map fun n => bindName env n) items.reverse) (qNx Q) E s₂
@[reducible] noncomputable def qSwp (names : List Str) (Q : Flow → Shared → Prop) : Value → Shared → Prop := fun v s₁ => wpAny M A (unpackItems v names.length none) (qSwp2 M A E env names Q) E s₁
@[reducible] noncomputable def qOrd (ts : List (Value → Sem Unit)) (vs : List Value) (Q : Unit → Shared → Prop) : Unit → Shared → Prop := fun _ s' => wpAny M A (assignInOrder ts vs) Q E s'
@[reducible] noncomputable def qExp (Q : Flow → Shared → Prop) : Value → Shared → Prop := fun v s' => match v with | .ref _ => False | _ => Q .next s'
@[reducible] noncomputable def qRet (Q : Flow → Shared → Prop) : Value → Shared → Prop := fun v => Q (.ret v)
@[reducible] noncomputable def qAug3 (x : Str) (Q : Flow → Shared → Prop) : Value → Shared → Prop := fun r s₃ => wpAny M A (storeName env x r) (qNx Q) E s₃
@[reducible] noncomputable def qAug2 (op : Operator) (x : Str) (Q : Flow → Shared → Prop) (old : Value) : Value → Shared → Prop := fun v s₂ => wpAny M A (inplaceOp op old v) (qAug3 M A E env x Q) E s₂
@[reducible] noncomputable def qAug1 (op : Operator) (x : Str) (value : PySem.Expr) (Q : Flow → Shared → Prop) : Value → Shared → Prop := fun old s₁ => wpAny M A (PySem.eval value env) (qAug2 M A E env op x Q old) E s₁
@[reducible] noncomputable def qBody (body : List Stmt) (Q : Flow → Shared → Prop) : Unit → Shared → Prop := fun _ s₂ => wpAny M A (execs body env) Q E s₂
@[reducible] noncomputable def qTest (body : List Stmt) (R' : Shared → Prop) (Q : Flow → Shared → Prop) : Bool → Shared → Prop := fun b s₂ => if b then wpAny M A (execs body env) Q E s₂ else R' s₂
@[reducible] noncomputable def qLoop (R : Result → Shared → Prop) (K : Shared → Prop) : Flow → Shared → Prop := fun f s₃ => match f with
  | .next | .cont => K s₃
  | .brk => R (.ok .next) s₃
  | .ret v => R (.ok (.ret v)) s₃
@[reducible] noncomputable def qRes (Q : Flow → Shared → Prop) : Result → Shared → Prop := fun r s' => match r with | .ok f => Q f s' | .error _ => False
@[reducible] noncomputable def qFor2 (target : PySem.Expr) (body : List Stmt) (Q : Flow → Shared → Prop) : Value → Shared → Prop := fun it s₂ => codeAny M A (.forLoop target it body [] env) (qRes Q) s₂
@[reducible] noncomputable def qFor1 (target : PySem.Expr) (body : List Stmt) (Q : Flow → Shared → Prop) : Value → Shared → Prop := fun x s₁ => wpAny M A (pyIter x) (qFor2 M A env target body Q) E s₁
@[reducible] noncomputable def qWh (test : PySem.Expr) (body : List Stmt) (R : Result → Shared → Prop) : Shared → Prop := fun s₃ => codeAny M A (.whileLoop test body [] env) R s₃
@[reducible] noncomputable def qAfter (R : Result → Shared → Prop) : Shared → Prop := fun s₃ => R (.ok .next) s₃
end
section
variable {M : Model} {A : Around} {E : Value → Shared → Prop} {env : Env} {s : Shared}
theorem args_cons {e : PySem.Expr} {rest : List PySem.Expr} {pos : Pos} {Q : List Value → Shared → Prop} (h : wpAny M A (PySem.eval e env) (qArg M A E env pos rest Q) E s)
    (he : starEach (e :: rest) env = (false, PySem.eval e env) :: starEach rest env := by rfl) : wpAny M A (spliced (backTo pos (starEach (e :: rest) env))) Q E s := PyProof.Rows.args_cons h he
theorem wpAny_If {test : PySem.Expr} {body orelse : List Stmt} {pos : Pos} {Q : Flow → Shared → Prop} (h : wpAny M A (isTrue test env (PySem.eval test env)) (qIf M A E env body orelse Q) E s) : wpAny M A (PySem.exec (.If test body orelse pos) env) Q E s := PySem.wpAny_If h
theorem wpAny_isTrue_Compare1 {l : PySem.Expr} {op : CmpOp} {r : PySem.Expr} {pos : Pos} {whole : Sem Value} {Q : Bool → Shared → Prop} (h : wpAny M A (PySem.eval l env) (qCmp1 M A E env op r (qTru M A E Q)) E s)
    (hm : behindInMarks op r = false := by with_unfolding_all rfl) : wpAny M A (isTrue (.Compare l [op] [r] pos) env whole) Q E s := PySem.wpAny_isTrue_Compare1 h hm
theorem Call_ {func : PySem.Expr} {args : List PySem.Expr} {pos : Pos} {Q : Value → Shared → Prop} (h : wpAny M A (PySem.eval func env) (qWith M A E env pos args Q) E s)
    (he : PySem.eval (.Call func args [] pos) env = (do callWith pos (← PySem.eval func env) [] (backTo pos (starEach args env)) (backToKw pos (keywordEach [] env))) := by rfl) : wpAny M A (PySem.eval (.Call func args [] pos) env) Q E s := PyProof.Rows.Call_ h he
theorem wpAny_BinOp {l : PySem.Expr} {op : Operator} {r : PySem.Expr} {pos : Pos} {Q : Value → Shared → Prop} (h : wpAny M A (PySem.eval l env) (qBin1 M A E env op r Q) E s) : wpAny M A (PySem.eval (.BinOp l op r pos) env) Q E s := PySem.wpAny_BinOp h
theorem Tuple_ {elts : List PySem.Expr} {k : Nat} {pos : Pos} {Q : Value → Shared → Prop} (h : wpAny M A (spliced (backTo pos (starEach elts env))) (qNewT M A E Q) E s) : wpAny M A (PySem.eval (.Tuple elts k pos) env) Q E s := PyProof.Rows.Tuple_ h
theorem List_ {elts : List PySem.Expr} {pos : Pos} {Q : Value → Shared → Prop} (h : wpAny M A (spliced (backTo pos (starEach elts env))) (qNewL M A E Q) E s) : wpAny M A (PySem.eval (.List elts pos) env) Q E s := PyProof.Rows.List_ h
theorem Subscript_ {value slice : PySem.Expr} {pos : Pos} {Q : Value → Shared → Prop} (h : wpAny M A (PySem.eval value env) (qSub1 M A E env value slice Q) E s) : wpAny M A (PySem.eval (.Subscript value slice pos) env) Q E s := PyProof.Rows.Subscript_ h
theorem MethodCall_ {o : PySem.Expr} {name : Str} {apos pos : Pos} {args : List PySem.Expr} {pl : Sem Bool} {Q : Value → Shared → Prop} (h : wpAny M A (PySem.eval o env) (qMeth1 M A E env name pl pos args Q) E s)
    (he : PySem.eval (.Call (.Attribute o name apos) args [] pos) env = (do
      let ov ← PySem.eval o env
      standAt apos.atName
      let (f, first) ← holding [ov] (getMethod ov name pl)
      callWith pos f first (backTo pos (starEach args env)) []) := by rfl) : wpAny M A (PySem.eval (.Call (.Attribute o name apos) args [] pos) env) Q E s := PyProof.Rows.MethodCall_ h he
theorem callWith_def {pos : Pos} {f : Addr} {o : Obj} {fd : FuncData} {e : PySem.Expr} {rest : List PySem.Expr} {Q : Value → Shared → Prop} (hdat : o.data = .func fd)
    (h : wpAny M A (spliced (backTo pos (starEach (e :: rest) env))) (qCallD M A E f o Q) E s) (he : starEach (e :: rest) env = (false, PySem.eval e env) :: starEach rest env := by rfl) :
    wpAny M A (callWith pos (.ref f) [] (backTo pos (starEach (e :: rest) env)) []) Q E s := PyProof.Rows.callWith_def hdat h he
theorem callWith_type1 {pos : Pos} {T : String} {e : PySem.Expr} {rest : List PySem.Expr} {Q : Value → Shared → Prop} (h : wpAny M A (spliced (backTo pos (starEach (e :: rest) env))) (qCall M A E (.type T) Q) E s)
    (he : starEach (e :: rest) env = (false, PySem.eval e env) :: starEach rest env := by rfl) (hplain : (backTo pos (starEach rest env)).any (·.1) = false := by rfl) :
    wpAny M A (callWith pos (.type T) [] (backTo pos (starEach (e :: rest) env)) []) Q E s := PyProof.Rows.callWith_type1 h he hplain
theorem callWith_method1 {pos : Pos} {id : String} {first : List Value} {e : PySem.Expr} {rest : List PySem.Expr} {Q : Value → Shared → Prop} (h : wpAny M A (spliced (backTo pos (starEach (e :: rest) env))) (qCallM M A E (.builtin id) first Q) E s)
    (he : starEach (e :: rest) env = (false, PySem.eval e env) :: starEach rest env := by rfl) (hplain : (backTo pos (starEach rest env)).any (·.1) = false := by rfl) :
    wpAny M A (callWith pos (.builtin id) first (backTo pos (starEach (e :: rest) env)) []) Q E s := PyProof.Rows.callWith_method1 h he hplain
theorem Assign_Tuple {elts : List PySem.Expr} {k : Nat} {tpos : Pos} {value : PySem.Expr} {pos : Pos} {Q : Flow → Shared → Prop} (h : wpAny M A (PySem.eval value env) (qAsg M A E env (.Tuple elts k tpos) Q) E s)
    (hs : swapsWithSole [.Tuple elts k tpos] value pos.line env = pure false := by rfl) (hw : swappedStores [.Tuple elts k tpos] value env = pure none := by rfl) :
    wpAny M A (PySem.exec (.Assign [.Tuple elts k tpos] value pos) env) Q E s := PyProof.Rows.Assign_Tuple h hs hw
theorem Assign_Tuple_swapped {elts : List PySem.Expr} {k : Nat} {tpos : Pos} {value : PySem.Expr} {pos : Pos} {names : List Str} {Q : Flow → Shared → Prop} (h : wpAny M A (PySem.eval value env) (qSwp M A E env names Q) E s)
    (hs : swapsWithSole [.Tuple elts k tpos] value pos.line env = pure false := by rfl) (hw : swappedStores [.Tuple elts k tpos] value env = pure (some names) := by rfl) :
    wpAny M A (PySem.exec (.Assign [.Tuple elts k tpos] value pos) env) Q E s := PyProof.Rows.Assign_Tuple_swapped h hs hw
theorem wpAny_Assign_two {t₁ t₂ value : PySem.Expr} {pos : Pos} {Q : Flow → Shared → Prop} (h : wpAny M A (PySem.eval value env) (qAsg2 M A E env t₁ t₂ Q) E s)
    (he : (assignEach [t₁, t₂] env).map (·.2) = [assign t₁ env, assign t₂ env] := by rfl) (hw : swappedStores [t₁, t₂] value env = pure none := by rfl) :
    wpAny M A (PySem.exec (.Assign [t₁, t₂] value pos) env) Q E s := PySem.wpAny_Assign_two h he hw
theorem wpAny_AugAssign_Name {x : Str} {pos' : Pos} {op : Operator} {value : PySem.Expr} {pos : Pos} {Q : Flow → Shared → Prop} (h : wpAny M A (loadName env x) (qAug1 M A E env op x value Q) E s) :
    wpAny M A (PySem.exec (.AugAssign (.Name x pos') op value pos) env) Q E s := PySem.wpAny_AugAssign_Name h
theorem wpAny_Expr {e : PySem.Expr} {pos : Pos} {Q : Flow → Shared → Prop} (h : wpAny M A (PySem.eval e env) (qExp Q) E s) (hi : interactive env = false := by rfl) (hs : swapsWith e none pos.line env = pure false := by rfl) :
    wpAny M A (PySem.exec (.Expr e pos) env) Q E s := PySem.wpAny_Expr (wpAny_mono h (fun v s' h' => by cases v <;> exact h') fun _ _ x => x) hi hs
theorem wpAny_Return_some {e : PySem.Expr} {pos : Pos} {Q : Flow → Shared → Prop} (h : wpAny M A (PySem.eval e env) (qRet Q) E s) : wpAny M A (PySem.exec (.Return (some e) pos) env) Q E s := PySem.wpAny_Return_some h
end
noncomputable abbrev E0 : Value → Shared → Prop := fun _ _ => False
theorem E0.any {α : Type} {M : Model} {A : Around} {t : Sem α} {Q : α → Shared → Prop} {E : Value → Shared → Prop} {s : Shared} (h : wpAny M A t Q E0 s) : wpAny M A t Q E s :=
  wpAny_mono h (fun _ _ x => x) (fun _ _ x => x.elim)

/-! ## binding the arguments -/
inductive BindTo : Loc → List (Str × Value) → Loc → Prop
  | nil {l} : BindTo l [] l
  | cons {l l' l'' x v bs} : SetTo l x v l' → BindTo l' bs l'' → BindTo l ((x, v) :: bs) l''
theorem BindTo.names {l : Loc} {bs : List (Str × Value)} {l' : Loc} (h : BindTo l bs l') : l'.map (·.1) = l.map (·.1) := by
  induction h with
  | nil => rfl
  | cons h _ ih => exact ih.trans h.names
theorem BindTo.look {l : Loc} {bs : List (Str × Value)} {l' : Loc} (h : BindTo l bs l') : (l.map (·.1)).Nodup → (fun y => (bs.reverse.lookup y).or (Mine.look l y)) = Mine.look l' := by
  induction h with
  | nil => intro _; funext y; simp
  | @cons l l' l'' x v bs h b ih =>
    intro hn
    have ih := ih (by rw [h.names]; exact hn)
    funext y
    rw [← congrFun ih y, ← congrFun (h.look hn) y]
    simp only [List.reverse_cons, List.lookup_append, List.lookup_cons, List.lookup_nil]
    cases q : bs.reverse.lookup y with
    | some z => simp
    | none =>
      by_cases e : y = x
      · subst e; simp
      · have : (y == x) = false := by simpa using e
        simp [this, e]

section
variable {w : World} {env : Env} {G₀ G G' : Store} {h₀ h h' : Heap} {own own' : List (Addr × Obj)} {l l' : Loc} {A : Around} {E : Value → Shared → Prop} {s : Shared}

/-- back from a call: the callee's state tells the caller's -/
theorem St.back {env' : Env} (S : St w env G₀ h₀ own l G h) (S' : St w env' G h own' l' G' h') : St w env G₀ h₀ own l G' h' := by
  have K := S'.fr.keep
  obtain ⟨oL, es, ep, eL, r⟩ := S.fr.ns
  refine { bs := S.bs, kind := S.kind, glo := S.glo, blt := S.blt, fr := ⟨⟨oL, es, ep, K _ _ eL, r⟩, fun b o q => K _ _ (S.fr.keep b o q), S.fr.above⟩, nd := S.nd, lc := S.lc, gin := S'.gin, gsub := S.gsub.trans S'.gsub, gnew := fun a o e => ?_, gL := ?_, ow := fun p hp => ?_, ond := S.ond }
  · rcases S'.gnew a o e with q | q
    · exact S.gnew a o q
    · right
      cases q' : h₀.get? a with
      | none => rfl
      | some o' => rw [S.fr.keep _ _ q'] at q; cases q
  · cases q : G' env.locals with
    | none => rfl
    | some o =>
      rcases S'.gnew _ _ q with e | e
      · rw [S.gL] at e; cases e
      · rw [eL] at e; cases e
  · obtain ⟨a, b, c, d⟩ := S.ow p hp
    refine ⟨K _ _ a, b, c, ?_⟩
    cases q : G' p.1 with
    | none => rfl
    | some o =>
      rcases S'.gnew _ _ q with e | e
      · rw [d] at e; cases e
      · rw [a] at e; cases e

/-- a call of a def: its body over a state of its own -/
theorem callB {f : Addr} {fd : FuncData} {body : List Stmt} {args : List Value} {binds : List (Str × Value)} {names : List Str} {l₁ : Loc} {Q : Value → Shared → Prop}
    (b : Bs w s.heap) (gi : G.In s.heap) (hK : ∀ P, (K P).lookup f = some ⟨.type "function", none, .func fd, #[]⟩) (hcd : ∀ P, codeIn (K P) fd.code fd.qualname = true)
    (hbody : fd.body = .stmts body) (hbind : bindArgs fd ⟨args, []⟩ = pure binds) (hB : BindTo (names.map fun n => (n, none)) binds l₁)
    (hok : ((names.all fun n => decide (fd.scope.names.lookup n = some .local)) && decide names.Nodup && (fd.scope.names.all fun x => decide (x.2 ≠ .cell)) && decide (fd.scope.kind = .function) && decide (fd.globals = mainGlobals) && decide (fd.builtins = builtinsNs) && (!fd.scope.isCoroutine) && (!fd.scope.isGenerator)) = true)
    (hroom : A.depth < recursionLimit)
    (h : ∀ h₁, St w (callEnv fd s.heap.objs.size f) G s.heap [] l₁ G h₁ →
      wpAny (model pw w) (A.deeper (callEnv fd s.heap.objs.size f)) (execs body (callEnv fd s.heap.objs.size f))
        (fun fl s' => ∀ (v : Value), (match fl with | .ret v => v | _ => .none) = v → Q v s') E0 { s with heap := h₁, toks := s.toks + binds.length }) :
    wpAny (model pw w) A (call (.ref f) args) Q E s := by
  simp only [Bool.and_eq_true, decide_eq_true_eq, List.all_eq_true, Bool.not_eq_true'] at hok
  obtain ⟨⟨⟨⟨⟨⟨⟨hl, hnd⟩, hce⟩, hki⟩, hgl⟩, hbl⟩, hco⟩, hge⟩ := hok
  refine wpAny_call (codeAny_call_def (fd := fd) (body := body) (binds := binds) hroom (b.X _ _ (hK _)) rfl b.lim (codeRec_of b.X (hcd _)) hbody (.of_eq hbind) (fun x hx => hce x hx) (fun y hy => ?_) (fun h₁ hns hk₁ => ?_) hco hge hki)
  · have : y.1 ∈ (names.map fun n => ((n, none) : Str × Option Value)).map (·.1) := by
      clear h hbind
      generalize (names.map fun n => ((n, none) : Str × Option Value)) = l0 at hB ⊢
      induction hB with
      | nil => cases hy
      | cons h b' ih =>
        rcases List.mem_cons.mp hy with rfl | hy
        · exact h.mem
        · rw [← h.names]; exact ih hy
    rw [List.map_map] at this
    obtain ⟨n, hn, e⟩ := List.mem_map.mp this
    exact e ▸ hl n hn
  · have hnames : (names.map fun n => ((n, none) : Str × Option Value)).map (·.1) = names := by rw [List.map_map]; exact List.map_id' names
    have hlook := hB.look (by rw [hnames]; exact hnd)
    rw [look_none] at hlook
    simp only [Option.or_none] at hlook
    refine wpAny_mono (h h₁ { bs := b, kind := hki, glo := hgl, blt := hbl, fr := ⟨?_, hk₁, Nat.le_refl _⟩, nd := by rw [hB.names, hnames]; exact hnd, lc := fun x hx => by rw [hB.names, hnames] at hx; exact hl x hx, gin := fun a o e => hk₁ _ _ (gi a o e), gsub := fun _ _ e => e, gnew := fun a o e => .inl e, gL := ?_, ow := fun _ hp => (nomatch hp), ond := .nil }) (fun fl s' hq => ?_) (fun _ _ x => x.elim)
    · rw [← hlook]; exact hns
    · cases q : G s.heap.objs.size with
      | none => exact q
      | some o => exact absurd (Heap.lt_size (gi _ _ q)) (Nat.lt_irrefl _)
    · exact hq _ rfl
theorem call_ {f : Addr} {fd : FuncData} {body : List Stmt} {args : List Value} {binds : List (Str × Value)} {names : List Str} {l₁ : Loc} {Q : Value → Shared → Prop}
    (S : St w env G₀ h₀ own l G s.heap) (hK : ∀ P, (K P).lookup f = some ⟨.type "function", none, .func fd, #[]⟩) (hcd : ∀ P, codeIn (K P) fd.code fd.qualname = true)
    (hbody : fd.body = .stmts body) (hbind : bindArgs fd ⟨args, []⟩ = pure binds) (hB : BindTo (names.map fun n => (n, none)) binds l₁)
    (hok : ((names.all fun n => decide (fd.scope.names.lookup n = some .local)) && decide names.Nodup && (fd.scope.names.all fun x => decide (x.2 ≠ .cell)) && decide (fd.scope.kind = .function) && decide (fd.globals = mainGlobals) && decide (fd.builtins = builtinsNs) && (!fd.scope.isCoroutine) && (!fd.scope.isGenerator)) = true)
    (hroom : A.depth < recursionLimit)
    (h : ∀ h₁, St w (callEnv fd s.heap.objs.size f) G s.heap [] l₁ G h₁ →
      wpAny (model pw w) (A.deeper (callEnv fd s.heap.objs.size f)) (execs body (callEnv fd s.heap.objs.size f))
        (fun fl s' => ∀ (v : Value), (match fl with | .ret v => v | _ => .none) = v → Q v s') E0 { s with heap := h₁, toks := s.toks + binds.length }) :
    wpAny (model pw w) A (call (.ref f) args) Q E s := callB S.bsNow S.gin hK hcd hbody hbind hB hok hroom h
end

/-! ## one turn of a loop -/
section
variable {w : World} {A : Around} {env : Env} {s : Shared} {R : Result → Shared → Prop}
theorem while_turn {test : PySem.Expr} {body : List Stmt}
    (h : wpAny (model pw w) A (isTrue test env (eval test env)) (qTest (model pw w) A E0 env body (qAfter R) (qLoop R (qWh (model pw w) A env test body R))) E0 s) : codeAny (model pw w) A (.whileLoop test body [] env) R s := by
  refine codeAny_of_tree ?_
  show wpAny _ A ((whileTurn test body [] env).onRaise (fun x => do noteFrame x env; theTreesLotGoes x)) _ _ s
  refine wpAny_noted ?_
  simp only [whileTurn]
  refine wpAny_bind (wpAny_mono h (fun b s₂ h₂ => ?_) fun _ _ h' => h'.elim)
  cases b with
  | false =>
    simp only [Bool.false_eq_true, if_false] at h₂ ⊢
    exact wpAny_bind (wpAny_execs_nil (wpAny_pure h₂))
  | true =>
    simp only [if_true] at h₂ ⊢
    refine wpAny_bind (wpAny_mono h₂ (fun f s₃ h₃ => ?_) fun _ _ h' => h'.elim)
    cases f with
    | next => exact wpAny_pure ⟨rfl, h₃⟩
    | cont => exact wpAny_pure ⟨rfl, h₃⟩
    | brk => exact wpAny_pure h₃
    | ret v => exact wpAny_pure h₃
theorem for_turn {target : PySem.Expr} {it : Value} {body : List Stmt}
    (h : wpAny (model pw w) A (pyNext it) (fun r s₁ => match r with
      | none => R (.ok .next) s₁
      | some v => wpAny (model pw w) A (letOwnedTupleGo target it v) (fun _ s₁' => wpAny (model pw w) A (assign target env v) (qBody (model pw w) A E0 env body (qLoop R fun s₃ => codeAny (model pw w) A (.forLoop target it body [] env) R s₃)) E0 s₁') E0 s₁) E0 s) : codeAny (model pw w) A (.forLoop target it body [] env) R s := by
  refine codeAny_of_tree ?_
  show wpAny _ A ((forTurn target it body [] env).onRaise (fun x => do noteFrame x env; theTreesLotGoes x)) _ _ s
  refine wpAny_noted ?_
  simp only [forTurn]
  refine wpAny_bind (wpAny_standAt (wpAny_bind (wpAny_onRaise (wpAny_mono h (fun r s₁ h₁ => ?_) fun _ _ h' => h'.elim))))
  cases r with
  | none => exact wpAny_pure ⟨rfl, codeAny_block (wpAny_execs_nil h₁)⟩
  | some v =>
    refine wpAny_bind (wpAny_mono h₁ (fun _ s₁' h₁' => ?_) fun _ _ h' => h'.elim)
    refine wpAny_bind (wpAny_mono h₁' (fun _ s₂ h₂ => wpAny_bind (wpAny_mono h₂ (fun f s₃ h₃ => ?_) fun _ _ h' => h'.elim)) fun _ _ h' => h'.elim)
    cases f with
    | next => exact wpAny_pure ⟨rfl, h₃⟩
    | cont => exact wpAny_pure ⟨rfl, h₃⟩
    | brk => exact wpAny_pure h₃
    | ret v => exact wpAny_pure h₃
theorem while_ {test : PySem.Expr} {body : List Stmt} {pos : Pos} {Q : Flow → Shared → Prop} {E : Value → Shared → Prop}
    (h : codeAny (model pw w) A (.whileLoop test body [] env) (qRes Q) s) :
    wpAny (model pw w) A (exec (.While test body [] pos) env) Q E s :=
  wpAny_While (codeAny_mono h fun r s' q => by cases r with | ok f => exact q | error e => exact q.elim)
theorem for_ {target iter : PySem.Expr} {body : List Stmt} {pos : Pos} {Q : Flow → Shared → Prop} {E : Value → Shared → Prop}
    (h : wpAny (model pw w) A (eval iter env) (qFor1 (model pw w) A E env target body Q) E s)
    (hs : ∀ x, foldedSetIterable iter env x = pure x := by intro _; rfl) : wpAny (model pw w) A (exec (.For target iter body [] pos) env) Q E s :=
  wpAny_For (wpAny_mono h (fun _ _ h₁ => wpAny_mono h₁ (fun _ _ h₂ => codeAny_mono h₂ fun r s' q => by cases r with | ok f => exact q | error e => exact q.elim) fun _ _ x => x) fun _ _ x => x) hs
end
/-- the state: a heap and a count of numbers met, all else as at the start -/
@[reducible] noncomputable def mkS (s : Shared) (h : Heap) (t : Nat) : Shared := ⟨h, s.gens, s.drawn, t, s.os⟩
theorem mkS_self (s : Shared) : s = mkS s s.heap s.toks := rfl
noncomputable abbrev listO (vs : List Value) : Obj := { cls := .type "list", data := .seq vs.toArray }
noncomputable abbrev tupO (vs : List Value) : Obj := { cls := .type "tuple", data := .seq vs.toArray }
section
variable {w : World} {env : Env} {G₀ G : Store} {h₀ h : Heap} {own own' : List (Addr × Obj)} {l l' : Loc} {A : Around} {E : Value → Shared → Prop} {s : Shared} {t : Nat}

theorem wpAny_Constant_int {i : Int} {c : Nat} {pos : Pos} {Q : Value → Shared → Prop} (k : Q (.int i t) (mkS s h (t + 1))) : wpAny (model pw w) A (PySem.eval (.Constant (.int i) c pos) env) Q E (mkS s h t) := PySem.wpAny_Constant_int (s := mkS s h t) k
theorem addK {a b : Int} {u v : Tok} {Q : Value → Shared → Prop} (k : Q (.int (a + b) t) (mkS s h (t + 1))) : wpAny (model pw w) A (binaryOp .Add (.int a u) (.int b v)) Q E (mkS s h t) := PyProof.Rows.add_int (s := mkS s h t) k
theorem ldS {x : Str} {pos : Pos} {v : Value} {Q : Value → Shared → Prop} (S : St w env G₀ h₀ own l G h) (hm : Has l x v) (k : Q v (mkS s h t))
    (hd : (x == ("__debug__" : Str)) = false := by decide +kernel) : wpAny (model pw w) A (eval (.Name x pos) env) Q E (mkS s h t) := ld_ S hm k hd
theorem stS {x : Str} {v : Value} {Q : Unit → Shared → Prop} (S : St w env G₀ h₀ own l G h) (hx : SetTo l x v l')
    (k : ∀ h' t', St w env G₀ h₀ own l' G h' → Q () (mkS s h' t')) : wpAny (model pw w) A (storeName env x v) Q E (mkS s h t) :=
  st_ (s := mkS s h t) S hx fun h' S' => k h' _ S'
theorem setS {x : Str} {px pos : Pos} {value : PySem.Expr} {Q : Flow → Shared → Prop} (hv : wpAny (model pw w) A (eval value env) (qSet (model pw w) A E env x Q) E (mkS s h t))
    (hs : swapsWith value (some (.Name x px)) pos.line env = pure false := by rfl) : wpAny (model pw w) A (exec (.Assign [.Name x px] value pos) env) Q E (mkS s h t) := wpAny_Assign_Name hv hs
theorem glS {x : Str} {pos : Pos} {v : Value} {Q : Value → Shared → Prop} (S : St w env G₀ h₀ own l G h) (e : ∀ P, nsIn (K P) mainGlobals x = some (some v)) (k : Q v (mkS s h t))
    (hx : env.kindOf x = some .globalImplicit := by kernel_rfl!) (hd : (x == ("__debug__" : Str)) = false := by decide +kernel) : wpAny (model pw w) A (eval (.Name x pos) env) Q E (mkS s h t) := gl_ (s := mkS s h t) S e k hx hd
theorem biS {x : Str} {pos : Pos} {v : Value} {Q : Value → Shared → Prop} (S : St w env G₀ h₀ own l G h) (e : ∀ P, nsIn (K P) mainGlobals x = some none) (hb : bootBuiltins x = some v) (k : Q v (mkS s h t))
    (hx : env.kindOf x = some .globalImplicit := by kernel_rfl!) (hn : x ≠ "__name__" := by decide +kernel) (hd : (x == ("__debug__" : Str)) = false := by decide +kernel) : wpAny (model pw w) A (eval (.Name x pos) env) Q E (mkS s h t) := bi_ (s := mkS s h t) S e hb k hx hn hd

theorem listOwn {items : List Value} {Q : Value → Shared → Prop} (S : St w env G₀ h₀ own l G h) (k : ∀ h' a, St w env G₀ h₀ ((a, listO items) :: own) l G h' → Q (.ref a) (mkS s h' t)) (hz : items.length ≤ sizeLine := by size_fits) :
    wpAny (model pw w) A (newList items) Q E (mkS s h t) := wpAny_newList (s := mkS s h t) (k _ _ (S.pushOwn _ rfl)) hz
theorem listS {items : List Value} {ds : List PyData} {Q : Value → Shared → Prop} (S : St w env G₀ h₀ own l G h) (r : RepAll G items ds)
    (k : ∀ h' G' v, St w env G₀ h₀ own l G' h' → G.Sub G' → Rep G' v (.list ds) → Q v (mkS s h' t)) (hz : items.length ≤ sizeLine := by size_fits) :
    wpAny (model pw w) A (newList items) Q E (mkS s h t) := by
  obtain ⟨S', k'⟩ := S.push (listO items) rfl
  exact wpAny_newList (s := mkS s h t) (k _ _ _ S' k' (.list Store.put_self rfl rfl (by simpa using r.mono k'))) hz
theorem Rep.isList {G : Store} {h : Heap} {v : Value} {ds : List PyData} (g : G.In h) (r : Rep G v (.list ds)) : ∃ a vs, v = .ref a ∧ h.IsList a vs.toArray ∧ RepAll G vs ds := by
  cases r with
  | list e c d q => exact ⟨_, _, rfl, ⟨_, g _ _ e, c, _, by rw [d, Array.toArray_toList]⟩, q⟩
theorem Rep.isTuple {G : Store} {h : Heap} {v : Value} {ds : List PyData} (g : G.In h) (r : Rep G v (.tuple ds)) : ∃ a vs, v = .ref a ∧ h.IsTuple a vs.toArray ∧ RepAll G vs ds := by
  cases r with
  | tuple e c d q => exact ⟨_, _, rfl, ⟨_, g _ _ e, c, _, by rw [d, Array.toArray_toList]⟩, q⟩
theorem addListRaw {a b : Addr} {vs ws : List Value} {Q : Value → Shared → Prop} (hl : h.IsList a vs.toArray) (hb : h.IsList b ws.toArray)
    (k : Q (.ref h.objs.size) (mkS s (h.push (listO (vs ++ ws))) t)) (hsz : vs.length + ws.length ≤ sizeLine) :
    wpAny (model pw w) A (binaryOp .Add (.ref a) (.ref b)) Q E (mkS s h t) := by
  obtain ⟨⟨cls, dd, data, sl⟩, ho, hc, n, hd⟩ := id hl
  obtain ⟨⟨cls2, dd2, data2, sl2⟩, ho2, hc2, n2, hd2⟩ := id hb
  simp only at hc hd hc2 hd2
  subst hc hd hc2 hd2
  have e : vs.toArray ++ ws.toArray = (vs ++ ws).toArray := by simp
  refine concat_meets (s := mkS s h t) ⟨_, ho, rfl⟩ ⟨_, ho2, rfl⟩ noFill_list_add seq_list_add PySem.F.slot_list_add PySem.F.entry_list_add (PySem.F.args_list_add_2 _ _) (list_addW a b vs.toArray ws.toArray n n2 dd dd2 sl sl2 (by simpa using hsz)) ⟨ho, ho2, ?_⟩
  rw [e]
  exact k
theorem addListS {v v' : Value} {xs ys : List PyData} {Q : Value → Shared → Prop} (S : St w env G₀ h₀ own l G h) (r : Rep G v (.list xs)) (r' : Rep G v' (.list ys)) (hz : xs.length + ys.length ≤ sizeLine)
    (k : ∀ h' G' v, St w env G₀ h₀ own l G' h' → G.Sub G' → Rep G' v (.list (xs ++ ys)) → Q v (mkS s h' t)) :
    wpAny (model pw w) A (binaryOp .Add v v') Q E (mkS s h t) := by
  obtain ⟨a, vs, rfl, la, ra⟩ := r.isList S.gin
  obtain ⟨b, ws, rfl, lb, rb⟩ := r'.isList S.gin
  obtain ⟨S', k'⟩ := S.push (listO (vs ++ ws)) rfl
  exact addListRaw la lb (k _ _ _ S' k' (.list Store.put_self rfl rfl (by simpa using (ra.app rb).mono k'))) (by rw [ra.length, rb.length]; exact hz)
theorem itemS {value slice : PySem.Expr} {v : Value} {xs : List PyData} {k : Int} {u : Tok} {d : PyData} {Q : Value → Shared → Prop} (S : St w env G₀ h₀ own l G h) (r : Rep G v (.list xs)) (h0 : 0 ≤ k) (hf : k < 2 ^ 63) (hx : xs[k.toNat]? = some d)
    (kk : ∀ x, Rep G x d → Q x (mkS s h t))
    (hs : ∀ a, subscripted slice false (.ref a) (.int k u) = operate [.ref a, .int k u] (getItem (.ref a) (.int k u)) := by intro _; with_unfolding_all rfl) (hg : ∀ a r, letTemporaryGo value (.ref a) r = pure () := by intro _ _; with_unfolding_all rfl) :
    wpAny (model pw w) A (subscriptTail value slice v (.int k u)) Q E (mkS s h t) := by
  obtain ⟨a, vs, rfl, la, ra⟩ := r.isList S.gin
  obtain ⟨x, hx', rx⟩ := ra.get hx
  exact item_list (s := mkS s h t) la h0 hf (by simpa using hx') (kk x rx) (hs a) (hg a)
end
section
variable {w : World} {env : Env} {G₀ G : Store} {h₀ h h' : Heap} {own own' : List (Addr × Obj)} {l l' : Loc} {A : Around} {E : Value → Shared → Prop} {s : Shared} {t : Nat}
/-- some own objects let go; they may have changed, all else stays -/
theorem St.dropAll {part : List (Addr × Obj)} (S : St w env G₀ h₀ (part ++ own) l G h) (he : ∀ b o, b ∉ part.map (·.1) → h.get? b = some o → h'.get? b = some o) : St w env G₀ h₀ own l G h' := by
  have off : ∀ b ∈ part.map (·.1), h₀.get? b = none ∧ G b = none ∧ b ≠ env.locals := fun b hb => by
    obtain ⟨p, hp, rfl⟩ := List.mem_map.mp hb
    have D := S.ow p (List.mem_append_left _ hp)
    exact ⟨D.2.2.1, D.2.2.2, D.2.1⟩
  obtain ⟨oL, es, ep, eL, r⟩ := S.fr.ns
  have hn := S.ond
  rw [List.map_append, List.nodup_append] at hn
  refine { bs := S.bs, kind := S.kind, glo := S.glo, blt := S.blt, fr := ⟨⟨oL, es, ep, he _ _ (fun q => (off _ q).2.2 rfl) eL, r⟩, fun b o e => he _ _ (fun q => ?_) (S.fr.keep b o e), S.fr.above⟩, nd := S.nd, lc := S.lc, gin := fun b o e => he _ _ (fun q => ?_) (S.gin b o e), gsub := S.gsub, gnew := S.gnew, gL := S.gL, ow := fun p hp => ?_, ond := hn.2.1 }
  · rw [(off _ q).1] at e; cases e
  · rw [(off _ q).2.1] at e; cases e
  · have D := S.ow p (List.mem_append_right _ hp)
    exact ⟨he _ _ (fun q => hn.2.2 _ q _ (List.mem_map_of_mem (f := (·.1)) hp) rfl) D.1, D.2⟩
theorem St.same {own'' : List (Addr × Obj)} (S : St w env G₀ h₀ own l G h) (e : own = own'') : St w env G₀ h₀ own'' l G h := e ▸ S
end

/-- an iterator: n items; Gz: what it reads; Part k: its own objects when k are drawn; item k: the k-th value -/
structure Iter (w : World) (target : PySem.Expr) (it : Value) (n : Nat) (Gz : Store) (Part : Nat → List (Addr × Obj) → Prop) (item : Nat → Store → Value → Prop) : Prop where
  next : ∀ {env G₀ h₀ own l G h} {A : Around} {s : Shared} {t k : Nat} {p : List (Addr × Obj)} {Q : Value → Shared → Prop}, k < n → A.handled = none → Gz.Sub G → Part k p → St w env G₀ h₀ (p ++ own) l G h →
    (∀ p' v h' G' t', Part (k + 1) p' → St w env G₀ h₀ (p' ++ own) l G' h' → G.Sub G' → item k G' v → Q v (mkS s h' t')) →
    wpAny (model pw w) A (pyNext it) (fun r s₁ => match r with | none => False | some v => wpAny (model pw w) A (letOwnedTupleGo target it v) (fun _ => Q v) E0 s₁) E0 (mkS s h t)
  stop : ∀ {env G₀ h₀ own l G h} {A : Around} {s : Shared} {t : Nat} {p : List (Addr × Obj)} {Q : Option Value → Shared → Prop}, A.handled = none → Gz.Sub G → Part n p → St w env G₀ h₀ (p ++ own) l G h →
    (∀ h' t', St w env G₀ h₀ own l G h' → Q none (mkS s h' t')) → wpAny (model pw w) A (pyNext it) Q E0 (mkS s h t)

@[reducible] noncomputable def qStep (w : World) (env : Env) (G₀ : Store) (h₀ : Heap) (s : Shared) (G₁ : Store) (p : List (Addr × Obj)) (J : Store → Loc → List (Addr × Obj) → Prop) : Shared → Prop :=
  fun s₃ => ∃ G' l' own' h' t', s₃ = mkS s h' t' ∧ St w env G₀ h₀ (p ++ own') l' G' h' ∧ G₁.Sub G' ∧ J G' l' own'
theorem for_iter {w : World} {env : Env} {G₀ : Store} {h₀ : Heap} {A : Around} {s : Shared} {R : Result → Shared → Prop} {target : PySem.Expr} {it : Value} {n : Nat} {G₁ : Store} {Part : Nat → List (Addr × Obj) → Prop} {item : Nat → Store → Value → Prop} {body : List Stmt}
    (I : Iter w target it n G₁ Part item) (hh : A.handled = none) (J : Nat → Store → Loc → List (Addr × Obj) → Prop)
    (step : ∀ k, k < n → ∀ p G l own h t v, Part (k + 1) p → J k G l own → item k G v → St w env G₀ h₀ (p ++ own) l G h → G₁.Sub G →
      wpAny (model pw w) A (assign target env v) (qBody (model pw w) A E0 env body (qLoop R (qStep w env G₀ h₀ s G₁ p (J (k + 1))))) E0 (mkS s h t))
    (mono : ∀ k G G' l own, J k G l own → G.Sub G' → J k G' l own)
    (fin : ∀ G l own h t, J n G l own → St w env G₀ h₀ own l G h → G₁.Sub G → R (.ok .next) (mkS s h t)) :
    ∀ (m k : Nat), m = n - k → k ≤ n → ∀ {p G l own h t}, Part k p → J k G l own → St w env G₀ h₀ (p ++ own) l G h → G₁.Sub G → codeAny (model pw w) A (.forLoop target it body [] env) R (mkS s h t) := by
  intro m
  induction m with
  | zero =>
    intro k hm hk p G l own h t hp hJ S hG
    obtain rfl : k = n := by lia
    exact for_turn (I.stop hh hG hp S fun h' t' S' => fin _ _ _ _ _ hJ S' hG)
  | succ m ih =>
    intro k hm hk p G l own h t hp hJ S hG
    have hk' : k < n := by lia
    have go : ∀ p', Part (k + 1) p' → ∀ s₃, (∃ G' l' own' h' t', s₃ = mkS s h' t' ∧ St w env G₀ h₀ (p' ++ own') l' G' h' ∧ G₁.Sub G' ∧ J (k + 1) G' l' own') → codeAny (model pw w) A (.forLoop target it body [] env) R s₃ := by
      rintro p' hp' s₃ ⟨G', l', own', h', t', rfl, S', g, j⟩
      exact ih (k + 1) (by lia) (by lia) hp' j S' g
    refine for_turn (wpAny_mono (I.next (Q := fun v s' => wpAny (model pw w) A (assign target env v) (qBody (model pw w) A E0 env body (qLoop R fun s₃ => codeAny (model pw w) A (.forLoop target it body [] env) R s₃)) E0 s') hk' hh hG hp S fun p' v h' G' t' hp' S' k' hi =>
          wpAny_mono (step k hk' _ _ _ _ _ _ _ hp' (mono _ _ _ _ _ hJ k') hi S' (hG.trans k')) (fun _ s₂ h₂ => wpAny_mono h₂ (fun f s₃ h₃ => by
            cases f with
            | next => exact go _ hp' _ h₃
            | cont => exact go _ hp' _ h₃
            | brk => exact h₃
            | ret v => exact h₃) fun _ _ x => x) fun _ _ x => x) (fun r s₁ h₁ => ?_) fun _ _ x => x)
    cases r with
    | none => exact h₁.elim
    | some v => exact h₁

/-! ## range -/
noncomputable abbrev ritO (x left : Int) : Obj := { cls := .type "range_iterator", dict := none, data := .fields #[rawInt x, rawInt left, rawInt 1], slots := #[] }
theorem Iter.range {w : World} {x : Str} {px : Pos} {it : Addr} {a : Int} {n : Nat} {Gz : Store} : Iter w (.Name x px) (.ref it) n Gz (fun k p => p = [(it, ritO (a + k) ((n : Int) - k))]) (fun k _ v => ∃ t, v = .int (a + k) t) where
  next {env G₀ h₀ own l G h A s t k p Q} hk hh _ hp S q := by
    subst hp
    have hit := (S.ow _ (List.mem_append_left _ (List.mem_singleton.mpr rfl))).1
    refine wpAny_pyNext_range_item (s := mkS s h t) hit (by lia) fun h' hit' hs => ?_
    refine wpAny_pure (q _ _ h' G _ rfl (S.upd (own' := (it, _) :: own) .head hs ?_) (fun _ _ e => e) ⟨_, rfl⟩)
    rw [show a + (k : Int) + 1 = a + ((k + 1 : Nat) : Int) by lia, show (n : Int) - (k : Int) - 1 = (n : Int) - ((k + 1 : Nat) : Int) by lia] at hit'
    exact hit'
  stop {env G₀ h₀ own l G h A s t p Q} hh _ hp S q := by
    subst hp
    have hit := (S.ow _ (List.mem_append_left _ (List.mem_singleton.mpr rfl))).1
    exact wpAny_pyNext_range_end (s := mkS s h t) hh hit (by lia) fun h' he => q h' _ (S.dropAll fun b o hb e => he b o (fun q => hb (by simp [q])) e)
section
variable {w : World} {env : Env} {G₀ G : Store} {h₀ h : Heap} {own : List (Addr × Obj)} {l : Loc} {A : Around} {E : Value → Shared → Prop} {s : Shared} {t : Nat}
/-- range(n), met as a loop's source -/
theorem range1S {n : Nat} {u : Tok} {Q : Value → Shared → Prop} (S : St w env G₀ h₀ own l G h) (hn : n < 2 ^ 61)
    (k : ∀ h' it t', St w env G₀ h₀ ((it, ritO (0 + (0 : Nat)) ((n : Int) - (0 : Nat))) :: own) l G h' → Q (.ref it) (mkS s h' t')) :
    wpAny (model pw w) A (call (.type "range") [.int n u]) (fun x s₁ => wpAny (model pw w) A (pyIter x) Q E s₁) E (mkS s h t) := by
  refine call_range_1 (s := mkS s h t) ?_
  have hr : IsRange (h.push { cls := .type "range", data := .fields #[.int 0 t, .int n u, .int 1 (t + 1)] }) h.objs.size 0 n 1 t u (t + 1) := Heap.get?_push_size _ rfl
  have hz : Builtin.Range.rangeSize 0 (n : Int) 1 = n := by rw [rangeSize_one]; split <;> lia
  refine wpAny_pyIter_range (s := mkS s (h.push { cls := .type "range", data := .fields #[.int 0 t, .int n u, .int 1 (t + 1)] }) (t + 1 + 1)) hr (small_one (by decide) (by decide) (by lia) (by lia)) ?_
  have S1 := (S.pushOwn { cls := .type "range", data := .fields #[.int 0 t, .int n u, .int 1 (t + 1)] } rfl).dropAll (part := [_]) (own := own) (fun b o _ e => e)
  have S2 := S1.pushOwn (ritO (0 + (0 : Nat)) ((n : Int) - (0 : Nat))) rfl
  have e : ritO (0 + (0 : Nat)) ((n : Int) - (0 : Nat)) = { cls := .type "range_iterator", data := .fields #[rawInt 0, rawInt (Builtin.Range.rangeSize 0 (n : Int) 1), rawInt 1] } := by rw [hz]; simp
  rw [e] at S2 k
  exact k _ _ _ S2
end

@[reducible] noncomputable def retV : Flow → Value
  | .ret v => v
  | _ => .none
section
variable {w : World} {env : Env} {G₀ G : Store} {h₀ h : Heap} {own : List (Addr × Obj)} {l : Loc} {A : Around} {E : Value → Shared → Prop} {s : Shared} {t : Nat}
theorem callS {f : Addr} {fd : FuncData} {body : List Stmt} {args : List Value} {binds : List (Str × Value)} {names : List Str} {l₁ : Loc} {Q : Value → Shared → Prop}
    (S : St w env G₀ h₀ own l G h) (hK : ∀ P, (K P).lookup f = some ⟨.type "function", none, .func fd, #[]⟩) (hcd : ∀ P, codeIn (K P) fd.code fd.qualname = true)
    (hbody : fd.body = .stmts body) (hbind : bindArgs fd ⟨args, []⟩ = pure binds) (hB : BindTo (names.map fun n => (n, none)) binds l₁)
    (hok : ((names.all fun n => decide (fd.scope.names.lookup n = some .local)) && decide names.Nodup && (fd.scope.names.all fun x => decide (x.2 ≠ .cell)) && decide (fd.scope.kind = .function) && decide (fd.globals = mainGlobals) && decide (fd.builtins = builtinsNs) && (!fd.scope.isCoroutine) && (!fd.scope.isGenerator)) = true)
    (hroom : A.depth < recursionLimit)
    (k : ∀ h₁ t₁, St w (callEnv fd h.objs.size f) G h [] l₁ G h₁ →
      wpAny (model pw w) (A.deeper (callEnv fd h.objs.size f)) (execs body (callEnv fd h.objs.size f)) (fun fl s' => Q (retV fl) s') E0 (mkS s h₁ t₁)) :
    wpAny (model pw w) A (call (.ref f) args) Q E (mkS s h t) :=
  call_ (s := mkS s h t) S hK hcd hbody hbind hB hok hroom fun h₁ S₁ => wpAny_mono (k h₁ _ S₁) (fun fl s' q v e => e ▸ (by cases fl <;> exact q)) fun _ _ x => x
theorem seqS {st : Stmt} {rest : List Stmt} {Q : Flow → Shared → Prop} (k : wpAny (model pw w) A (exec st env) (qSeq (model pw w) A E env rest Q) E (mkS s h t)) :
    wpAny (model pw w) A (execs (st :: rest) env) Q E (mkS s h t) := wpAny_execs_cons k
end

section
variable {w : World} {env : Env} {G₀ G : Store} {h₀ h : Heap} {own : List (Addr × Obj)} {l : Loc} {A : Around} {E : Value → Shared → Prop} {s : Shared} {t : Nat}
/-- a value of a datum, all else as it was -/
noncomputable abbrev VS (w : World) (env : Env) (G₀ : Store) (h₀ : Heap) (own : List (Addr × Obj)) (l : Loc) (G : Store) (s : Shared) (d : PyData) : Value → Shared → Prop :=
  fun v s' => ∃ h' G' t', s' = mkS s h' t' ∧ St w env G₀ h₀ own l G' h' ∧ G.Sub G' ∧ Rep G' v d
theorem cutS {tr : Sem Value} {d : PyData} {Q : Value → Shared → Prop} {s₁ : Shared} (_S : St w env G₀ h₀ own l G h) (h1 : wpAny (model pw w) A tr (VS w env G₀ h₀ own l G s d) E s₁)
    (k : ∀ v h' G' t', St w env G₀ h₀ own l G' h' → G.Sub G' → Rep G' v d → Q v (mkS s h' t')) : wpAny (model pw w) A tr Q E s₁ :=
  wpAny_mono h1 (fun v s' ⟨h', G', t', e, S', g, r⟩ => e ▸ k v h' G' t' S' g r) fun _ _ x => x
end
end Mine
end
section
open PySem PySem.W PyProof.Rows
namespace Mine
set_option maxRecDepth 100000
/-! ## values taken apart at once -/
theorem Rep.intv {G : Store} {v : Value} {i : Int} (r : Rep G v (.int i)) : ∃ t, v = .int i t := by cases r; exact ⟨_, rfl⟩
theorem Rep.strv {G : Store} {v : Value} {x : Str} (r : Rep G v (.str x)) : ∃ t, v = .str x t := by cases r; exact ⟨_, rfl⟩
inductive Reps2 (G : Store) (vs : List Value) (a b : PyData) : Prop
  | mk (x y : Value) (e : vs = [x, y]) (r1 : Rep G x a) (r2 : Rep G y b)
inductive Reps3 (G : Store) (vs : List Value) (a b c : PyData) : Prop
  | mk (x y z : Value) (e : vs = [x, y, z]) (r1 : Rep G x a) (r2 : Rep G y b) (r3 : Rep G z c)
inductive Reps4 (G : Store) (vs : List Value) (a b c d : PyData) : Prop
  | mk (x y z u : Value) (e : vs = [x, y, z, u]) (r1 : Rep G x a) (r2 : Rep G y b) (r3 : Rep G z c) (r4 : Rep G u d)
inductive Reps5 (G : Store) (vs : List Value) (a b c d f : PyData) : Prop
  | mk (x y z u v : Value) (e : vs = [x, y, z, u, v]) (r1 : Rep G x a) (r2 : Rep G y b) (r3 : Rep G z c) (r4 : Rep G u d) (r5 : Rep G v f)
theorem RepAll.two {G : Store} {vs : List Value} {a b : PyData} (r : RepAll G vs [a, b]) : Reps2 G vs a b := by
  cases r with | cons r1 r => cases r with | cons r2 r => cases r; exact ⟨_, _, rfl, r1, r2⟩
theorem RepAll.three {G : Store} {vs : List Value} {a b c : PyData} (r : RepAll G vs [a, b, c]) : Reps3 G vs a b c := by
  cases r with | cons r1 r => obtain ⟨_, _, rfl, r2, r3⟩ := r.two; exact ⟨_, _, _, rfl, r1, r2, r3⟩
theorem RepAll.four {G : Store} {vs : List Value} {a b c d : PyData} (r : RepAll G vs [a, b, c, d]) : Reps4 G vs a b c d := by
  cases r with | cons r1 r => obtain ⟨_, _, _, rfl, r2, r3, r4⟩ := r.three; exact ⟨_, _, _, _, rfl, r1, r2, r3, r4⟩
theorem RepAll.five {G : Store} {vs : List Value} {a b c d f : PyData} (r : RepAll G vs [a, b, c, d, f]) : Reps5 G vs a b c d f := by
  cases r with | cons r1 r => obtain ⟨_, _, _, _, rfl, r2, r3, r4, r5⟩ := r.four; exact ⟨_, _, _, _, _, rfl, r1, r2, r3, r4, r5⟩
/-- a branch taken -/
theorem ifso {b : Bool} {P Q : Prop} (h : b = true) (p : P) : if b then P else Q := by subst h; exact p
theorem ifno {b : Bool} {P Q : Prop} (h : b = false) (q : Q) : if b then P else Q := by subst h; exact q
theorem ltI {a b : Nat} (h : a < b) : decide ((a : Int) < (b : Int)) = true := decide_eq_true (Int.ofNat_lt.mpr h)
theorem nltI {a b : Nat} (h : ¬ a < b) : decide ((a : Int) < (b : Int)) = false := decide_eq_false fun q => h (Int.ofNat_lt.mp q)
theorem leI {a b : Nat} (h : a ≤ b) : decide ((a : Int) ≤ (b : Int)) = true := decide_eq_true (Int.ofNat_le.mpr h)
theorem nleI {a b : Nat} (h : ¬ a ≤ b) : decide ((a : Int) ≤ (b : Int)) = false := decide_eq_false fun q => h (Int.ofNat_le.mp q)
/-- a list of a known length -/
theorem len1 {α : Type} {l : List α} (h : l.length = 1) : ∃ a, l = [a] := List.length_eq_one_iff.mp h
theorem len3 {α : Type} {l : List α} (h : l.length = 3) : ∃ a b c, l = [a, b, c] := by
  match l, h with
  | [a, b, c], _ => exact ⟨a, b, c, rfl⟩
/-- a post by name alone -/
theorem hideQ {w : World} {A : Around} {env : Env} {tr : Sem Unit} {body : List Stmt} {Q : Flow → Shared → Prop} {E E' : Value → Shared → Prop} {s : Shared}
    (h : ∀ Q', Q' = Q → wpAny (model pw w) A tr (qBody (model pw w) A E' env body Q') E s) : wpAny (model pw w) A tr (qBody (model pw w) A E' env body Q) E s := h Q rfl
theorem hideV {α : Type} {w : World} {A : Around} {tr : Sem α} {Q : α → Shared → Prop} {E : Value → Shared → Prop} {s : Shared} (h : ∀ Q', Q' = Q → wpAny (model pw w) A tr Q' E s) : wpAny (model pw w) A tr Q E s := h Q rfl
theorem hideI {w : World} {A : Around} {env : Env} {tr : Sem Bool} {body : List Stmt} {Q : Flow → Shared → Prop} {R : Shared → Prop} {E E' : Value → Shared → Prop} {s : Shared}
    (h : ∀ Q' R', Q' = Q → R' = R → wpAny (model pw w) A tr (qTest (model pw w) A E' env body R' Q') E s) : wpAny (model pw w) A tr (qTest (model pw w) A E' env body R Q) E s := h Q R rfl rfl
/-- for_iter with the step's ends by name -/
theorem for_iterQ {w : World} {env : Env} {G₀ : Store} {h₀ : Heap} {A : Around} {s : Shared} {R : Result → Shared → Prop} {target : PySem.Expr} {it : Value} {n : Nat} {G₁ : Store} {Part : Nat → List (Addr × Obj) → Prop} {item : Nat → Store → Value → Prop} {body : List Stmt}
    (I : Iter w target it n G₁ Part item) (hh : A.handled = none) (J : Nat → Store → Loc → List (Addr × Obj) → Prop)
    (step : ∀ (Q' : Flow → Shared → Prop) (k : Nat), k < n → ∀ p G l own h t v, Part (k + 1) p → J k G l own → item k G v → St w env G₀ h₀ (p ++ own) l G h → G₁.Sub G →
      (∀ {G' l' own' h' t'}, St w env G₀ h₀ (p ++ own') l' G' h' → G₁.Sub G' → J (k + 1) G' l' own' → Q' .next (mkS s h' t') ∧ Q' .cont (mkS s h' t')) → (∀ s', R (.ok .next) s' → Q' .brk s') → (∀ v s', R (.ok (.ret v)) s' → Q' (.ret v) s') →
      wpAny (model pw w) A (assign target env v) (qBody (model pw w) A E0 env body Q') E0 (mkS s h t))
    (mono : ∀ k G G' l own, J k G l own → G.Sub G' → J k G' l own)
    (fin : ∀ G l own h t, J n G l own → St w env G₀ h₀ own l G h → G₁.Sub G → R (.ok .next) (mkS s h t)) :
    ∀ (m k : Nat), m = n - k → k ≤ n → ∀ {p G l own h t}, Part k p → J k G l own → St w env G₀ h₀ (p ++ own) l G h → G₁.Sub G → codeAny (model pw w) A (.forLoop target it body [] env) R (mkS s h t) :=
  for_iter I hh J (fun k hk p G l own h t v hp hJ hi S hG => step _ k hk p G l own h t v hp hJ hi S hG (fun S' g' hj => ⟨⟨_, _, _, _, _, rfl, S', g', hj⟩, ⟨_, _, _, _, _, rfl, S', g', hj⟩⟩) (fun _ x => x) fun _ _ x => x) mono fin
section
variable {w : World} {env : Env} {G₀ G : Store} {h₀ h : Heap} {own own' part : List (Addr × Obj)} {l : Loc}
/-- own objects picked by their places -/
theorem St.idx (S : St w env G₀ h₀ (part ++ own) l G h) (is : List Nat) (hn : is.Nodup) (e : own' = is.filterMap (part[·]?) ++ own) : St w env G₀ h₀ own' l G h := by
  subst e
  have hd := S.ond
  rw [List.map_append, List.nodup_append] at hd
  have mem : ∀ {is : List Nat} {q : Addr × Obj}, q ∈ is.filterMap (part[·]?) → ∃ j ∈ is, part[j]? = some q := fun h => List.mem_filterMap.mp h
  refine { S with ow := fun p hp => S.ow p ?_, ond := ?_ }
  · rcases List.mem_append.mp hp with q | q
    · obtain ⟨j, _, e⟩ := mem q
      exact List.mem_append_left _ (List.mem_of_getElem? e)
    · exact List.mem_append_right _ q
  · rw [List.map_append, List.nodup_append]
    refine ⟨?_, hd.2.1, fun a ha b hb => ?_⟩
    · induction is with
      | nil => exact .nil
      | cons i is ih =>
        rw [List.nodup_cons] at hn
        have ih := ih hn.2
        rw [List.filterMap_cons]
        cases hi : part[i]? with
        | none => exact ih
        | some p =>
          rw [List.map_cons, List.nodup_cons]
          refine ⟨fun q => ?_, ih⟩
          obtain ⟨x, hx, ex⟩ := List.mem_map.mp q
          obtain ⟨j, hj, ej⟩ := mem hx
          have e1 : (part.map (·.1))[i]? = some p.1 := by rw [List.getElem?_map, hi]; rfl
          have e2 : (part.map (·.1))[j]? = some p.1 := by rw [List.getElem?_map, ej, ← ex]; rfl
          obtain ⟨h1, h1'⟩ := List.getElem?_eq_some_iff.mp e1
          obtain ⟨h2, h2'⟩ := List.getElem?_eq_some_iff.mp e2
          have : i = j := (List.getElem_inj hd.1).mp (h1'.trans h2'.symm)
          exact hn.1 (this ▸ hj)
    · obtain ⟨x, hx, ex⟩ := List.mem_map.mp ha
      obtain ⟨j, _, ej⟩ := mem hx
      exact hd.2.2 a (ex ▸ List.mem_map_of_mem (f := (·.1)) (List.mem_of_getElem? ej)) b hb
theorem St.idx0 (S : St w env G₀ h₀ part l G h) (is : List Nat) (hn : is.Nodup) (e : own' = is.filterMap (part[·]?)) : St w env G₀ h₀ own' l G h :=
  St.idx (own := []) (S.same (List.append_nil _).symm) is hn (e.trans (List.append_nil _).symm)
end
theorem len5 {α : Type} {l : List α} (h : l.length = 5) : ∃ a b c d e, l = [a, b, c, d, e] := by
  cases l with
  | nil => cases h
  | cons a l => cases l with
    | nil => cases h
    | cons b l => obtain ⟨c, d, e, rfl⟩ := len3 (Nat.succ.inj (Nat.succ.inj h)); exact ⟨a, b, c, d, e, rfl⟩
end Mine
end
section
open PySem PySem.W PyProof.Rows PySem.Calls
namespace Mine
set_option maxRecDepth 100000
noncomputable abbrev lstO (vs : List Value) (n : Nat) : Obj := { cls := .type "list", data := .seq vs.toArray n }

/-! ## data: equality -/
/-- a datum of ints, texts, tuples, lists; not too deep -/
noncomputable def nice : Nat → PyData → Bool
  | _, .int _ => true
  | _, .str x => PyData.strOk x
  | n + 1, .tuple ds => ds.all (nice n)
  | n + 1, .list ds => ds.all (nice n)
  | _, _ => false
theorem nice_lay : ∀ (n : Nat) (d : PyData), nice n d = true → d.canLay0 = true ∧ d.depth ≤ n := by
  intro n
  induction n with
  | zero =>
    intro d h
    cases d <;> simp [nice] at h <;> simp [PyData.canLay0, PyData.depth, h]
  | succ n ih =>
    have all : ∀ ds : List PyData, (∀ d ∈ ds, nice n d = true) → PyData.canLayAll0 ds = true ∧ PyData.depthAll ds ≤ n := by
      intro ds
      induction ds with
      | nil => intro _; simp [PyData.canLayAll0, PyData.depthAll]
      | cons d ds ihd =>
        intro h
        have h1 := ih d (h d (.head _))
        have h2 := ihd fun e he => h e (.tail _ he)
        simp only [PyData.canLayAll0, PyData.depthAll, h1.1, h2.1, Bool.and_self, true_and]
        lia
    intro d h
    cases d with
    | none => simp [nice] at h
    | bool b => simp [nice] at h
    | int i => simp [PyData.canLay0, PyData.depth]
    | str x => simp [nice] at h; simp [PyData.canLay0, PyData.depth, h]
    | dict k => simp [nice] at h
    | list ds =>
      simp only [nice, List.all_eq_true] at h
      have := all ds h
      simp only [PyData.canLay0, PyData.depth, this.1, true_and]; lia
    | tuple ds =>
      simp only [nice, List.all_eq_true] at h
      have := all ds h
      simp only [PyData.canLay0, PyData.depth, this.1, true_and]; lia
theorem nice_eqv : ∀ (n : Nat) (d e : PyData), nice n d = true → nice n e = true → (PyData.eqv d e = true ↔ d = e) := by
  intro n
  induction n with
  | zero =>
    intro d e h k
    cases d <;> simp [nice] at h <;> cases e <;> simp [nice] at k <;> simp [PyData.eqv]
  | succ n ih =>
    have all : ∀ ds es : List PyData, (∀ d ∈ ds, nice n d = true) → (∀ d ∈ es, nice n d = true) → (PyData.eqvAll ds es = true ↔ ds = es) := by
      intro ds
      induction ds with
      | nil => intro es _ _; cases es <;> simp [PyData.eqvAll]
      | cons d ds ihd =>
        intro es h k
        cases es with
        | nil => simp [PyData.eqvAll]
        | cons e es =>
          simp only [PyData.eqvAll, Bool.and_eq_true, List.cons.injEq]
          rw [ih d e (h d (.head _)) (k e (.head _)), ihd es (fun x hx => h x (.tail _ hx)) (fun x hx => k x (.tail _ hx))]
    intro d e h k
    cases d <;> (try simp [nice] at h) <;> cases e <;> (try simp [nice] at k) <;> simp only [PyData.eqv, PyData.int.injEq, PyData.str.injEq, PyData.list.injEq, PyData.tuple.injEq, reduceCtorEq, iff_false, Bool.false_eq_true, not_false_eq_true, beq_iff_eq, decide_eq_true_eq]
    all_goals exact all _ _ h k
theorem nice_decide [DecidableEq PyData] (n : Nat) (d e : PyData) (h : nice n d = true) (k : nice n e = true) : PyData.eqv d e = decide (d = e) := by
  have := nice_eqv n d e h k
  by_cases q : d = e
  · rw [decide_eq_true q]; exact this.mpr q
  · rw [decide_eq_false q]; exact Bool.eq_false_iff.mpr fun x => q (this.mp x)
theorem nice_shaped {n : Nat} {d : PyData} (h : nice n d = true) (hn : n ≤ 64) : SeqAt.shaped d = true := by
  have := nice_lay n d h
  unfold SeqAt.shaped; rw [this.1, Bool.true_and]; exact decide_eq_true (Nat.le_trans this.2 hn)
theorem nice_ints (n : Nat) (ns : List Int) : nice (n + 1) (dInts ns) = true := by
  simp only [nice, List.all_map, List.all_eq_true, Function.comp]
  intro x _; cases n <;> simp [nice]
theorem dInts_inj {a b : List Int} : dInts a = dInts b ↔ a = b := by
  constructor
  · intro h
    have h := PyData.list.inj h
    exact List.map_inj_right (fun x y e => by injection e) |>.mp h
  · rintro rfl; rfl

/-! ## edits -/
structure Ed where
  i : Int
  j : Int
  w : Str
  c : List Int
  deriving DecidableEq
noncomputable abbrev dEd (e : Ed) : PyData := .tuple [.int e.i, .int e.j, .str e.w, dInts e.c]
noncomputable abbrev dEds (es : List Ed) : PyData := .list (es.map dEd)
theorem dEd_inj {a b : Ed} : dEd a = dEd b ↔ a = b := by
  constructor
  · intro h
    have h := PyData.tuple.inj h
    simp only [List.cons.injEq, PyData.int.injEq, PyData.str.injEq, and_true] at h
    obtain ⟨h1, h2, h3, h4⟩ := h
    cases a; cases b
    simp only at h1 h2 h3 h4
    have h4 := dInts_inj.mp h4
    subst h1 h2 h3 h4; rfl
  · rintro rfl; rfl
theorem dEds_inj {a b : List Ed} : dEds a = dEds b ↔ a = b := by
  constructor
  · intro h
    have h := PyData.list.inj h
    exact List.map_inj_right (fun x y e => dEd_inj.mp e) |>.mp h
  · rintro rfl; rfl
theorem nice_ed (n : Nat) (e : Ed) (hw : PyData.strOk e.w = true) : nice (n + 2) (dEd e) = true := by
  have h1 : nice (n + 1) (.str e.w) = true := by cases n <;> exact hw
  have h2 := nice_ints n e.c
  simp [nice, hw]
theorem nice_eds (n : Nat) (es : List Ed) (hw : ∀ e ∈ es, PyData.strOk e.w = true) : nice (n + 3) (dEds es) = true := by
  show (es.map dEd).all (nice (n + 2)) = true
  rw [List.all_map, List.all_eq_true]
  intro e he
  exact nice_ed n e (hw e he)

section
variable {w : World} {env : Env} {G₀ G : Store} {h₀ h : Heap} {own own' : List (Addr × Obj)} {l l' : Loc} {A : Around} {E : Value → Shared → Prop} {s : Shared} {t : Nat}
theorem eqS {v v' : Value} {d d' : PyData} {n : Nat} {Q : Value → Shared → Prop} (S : St w env G₀ h₀ own l G h) (r : Rep G v d) (r' : Rep G v' d') (a : nice n d = true) (b : nice n d' = true) (hn : n ≤ 64) (hu : A.units + 64 < cLine)
    (k : ∀ x : Bool, (x = true ↔ d = d') → Q (.bool x) (mkS s h t)) : wpAny (model pw w) A (compareOp .Eq v v') Q E (mkS s h t) := by
  obtain ⟨as, q⟩ := r.reads S.gin
  obtain ⟨bs, q'⟩ := r'.reads S.gin
  exact SeqAt.compareEq_shaped (s := mkS s h t) q q' (nice_shaped a hn) (nice_shaped b hn) hu (k _ (nice_eqv n d d' a b))
theorem neS {v v' : Value} {d d' : PyData} {n : Nat} {Q : Value → Shared → Prop} (S : St w env G₀ h₀ own l G h) (r : Rep G v d) (r' : Rep G v' d') (a : nice n d = true) (b : nice n d' = true) (hn : n ≤ 64) (hu : A.units + 64 < cLine)
    (k : ∀ x : Bool, (x = true ↔ d ≠ d') → Q (.bool x) (mkS s h t)) : wpAny (model pw w) A (compareOp .NotEq v v') Q E (mkS s h t) := by
  obtain ⟨as, q⟩ := r.reads S.gin
  obtain ⟨bs, q'⟩ := r'.reads S.gin
  refine SeqAt.compareNe_shaped (s := mkS s h t) q q' (nice_shaped a hn) (nice_shaped b hn) hu (k _ ?_)
  have := nice_eqv n d d' a b
  rw [ne_eq, ← this]; simp
theorem tupS {items : List Value} {ds : List PyData} {Q : Value → Shared → Prop} (S : St w env G₀ h₀ own l G h) (r : RepAll G items ds)
    (k : ∀ h' G' v, St w env G₀ h₀ own l G' h' → G.Sub G' → Rep G' v (.tuple ds) → Q v (mkS s h' t)) (hz : items.length ≤ sizeLine := by size_fits) :
    wpAny (model pw w) A (newTuple items) Q E (mkS s h t) := by
  obtain ⟨S', k'⟩ := S.push (tupO items) rfl
  exact wpAny_newTuple (s := mkS s h t) (k _ _ _ S' k' (.tuple Store.put_self rfl rfl (by simpa using r.mono k'))) hz
theorem lenS {v : Value} {ds : List PyData} {Q : Value → Shared → Prop} (S : St w env G₀ h₀ own l G h) (r : Rep G v (.list ds)) (hf : (ds.length : Int) < 2 ^ 63)
    (k : ∀ u t', Q (.int ds.length u) (mkS s h t')) : wpAny (model pw w) A (call (.builtin "len") [v]) Q E (mkS s h t) := by
  obtain ⟨a, vs, rfl, la, ra⟩ := r.isList S.gin
  have e := ra.length
  refine call_len_list (s := mkS s h t) la (by simpa [e] using hf) ?_
  rw [show (vs.toArray.size : Int) = (ds.length : Int) by simp [e]]
  exact k _ _
theorem appS {a : Addr} {vs : List Value} {n : Nat} {x : Value} {Q : Value → Shared → Prop} (S : St w env G₀ h₀ own l G h) (ho : OwnTo own a (lstO vs n) (lstO (vs ++ [x]) (n + 1)) own')
    (hz : vs.length ≤ sizeLine) (k : ∀ h' t', St w env G₀ h₀ own' l G h' → Q .none (mkS s h' t')) : wpAny (model pw w) A (call (.builtin "list.append") [.ref a, x]) Q E (mkS s h t) := by
  have e := (S.ow _ ho.mem).1
  refine wpAny_call_entry (s := mkS s h t) slot_list_append ⟨_, e, rfl⟩ entry_list_append ?_ (args_list_append _ _)
  show wpAny _ _ (updateSeq a (·.push x) >>= fun _ => ret .none) _ _ (mkS s h t)
  refine wpAny_bind ?_
  refine wpAny_updateSeq (s := mkS s h t) e rfl (wpAny_pure ⟨.none, rfl, k _ _ (S.upd ho (Heap.SameBut.update ..) ?_)⟩) (by simpa using hz) (by simp; lia)
  · have q : Obj.mapSeq (·.push x) (lstO vs n) = lstO (vs ++ [x]) (n + 1) := by
      simp [Obj.mapSeq, lstO]
    rw [← q]
    exact Heap.get?_update_self _ e rfl
end
section
variable {w : World} {env : Env} {G₀ G : Store} {h₀ h h' : Heap} {own own' : List (Addr × Obj)} {l l' : Loc} {A : Around} {E : Value → Shared → Prop} {s : Shared} {t : Nat}
/-- some own objects turned, all else stays -/
theorem St.remake {part part' : List (Addr × Obj)} (S : St w env G₀ h₀ (part ++ own) l G h) (he : ∀ b o, b ∉ part.map (·.1) → h.get? b = some o → h'.get? b = some o)
    (ha : part'.map (·.1) = part.map (·.1)) (hp : ∀ p ∈ part', h'.get? p.1 = some p.2) : St w env G₀ h₀ (part' ++ own) l G h' := by
  have D := S.dropAll he
  refine { D with ow := fun p hm => ?_, ond := ?_ }
  · rcases List.mem_append.mp hm with q | q
    · have : p.1 ∈ part.map (·.1) := ha ▸ List.mem_map_of_mem (f := (·.1)) q
      obtain ⟨p', hp', e⟩ := List.mem_map.mp this
      have P := S.ow p' (List.mem_append_left _ hp')
      exact ⟨hp p q, e ▸ P.2.1, e ▸ P.2.2.1, e ▸ P.2.2.2⟩
    · exact D.ow p q
  · rw [List.map_append, ha, ← List.map_append]; exact S.ond
/-- an object made by a rule of the library's, met and kept -/
theorem St.learn {T : Addr} {o : Obj} (S : St w env G₀ h₀ own l G h) (S' : St w env G₀ h₀ own' l G h') (hT : h.objs.size ≤ T) (e : h'.get? T = some o) (ho : own'.map (·.1) = own.map (·.1)) :
    St w env G₀ h₀ own' l (G.put T o) h' ∧ G.Sub (G.put T o) := by
  have big : ∀ {b : Addr} {x : Obj}, h.get? b = some x → b ≠ T := fun {b x} q r => by subst r; exact absurd (Heap.lt_size q) (Nat.not_lt.mpr hT)
  have hG : G T = none := by
    cases q : G T with
    | none => rfl
    | some x => exact absurd rfl (big (S.gin _ _ q))
  have hL : env.locals ≠ T := fun q => absurd S.fr.ns.lt (by rw [q]; exact Nat.not_lt.mpr hT)
  refine ⟨{ S' with gin := fun b x q => ?_, gsub := S'.gsub.trans (Store.sub_put hG), gnew := fun b x q => ?_, gL := ?_, ow := fun p hp => ?_ }, Store.sub_put hG⟩
  · unfold Store.put at q
    by_cases r : b = T
    · subst r; rw [if_pos rfl] at q; cases q; exact e
    · rw [if_neg r] at q; exact S'.gin b x q
  · unfold Store.put at q
    by_cases r : b = T
    · subst r
      right
      cases z : h₀.get? b with
      | none => rfl
      | some y => exact absurd rfl (big (S.fr.keep _ _ z))
    · rw [if_neg r] at q; exact S'.gnew b x q
  · unfold Store.put; rw [if_neg hL]; exact S'.gL
  · have P := S'.ow p hp
    have : p.1 ≠ T := by
      have : p.1 ∈ own.map (·.1) := ho ▸ List.mem_map_of_mem (f := (·.1)) hp
      obtain ⟨p', hp', q⟩ := List.mem_map.mp this
      rw [← q]; exact big (S.ow p' hp').1
    refine ⟨P.1, P.2.1, P.2.2.1, ?_⟩
    unfold Store.put; rw [if_neg this]; exact P.2.2.2
end

/-! ## zip of two lists -/
noncomputable abbrev zipO (TI TO : Addr) : Obj := { cls := .type "zip", dict := none, data := .fields #[.none, .bool false, .bool false, .ref TI, .ref TO], slots := #[] }
theorem Iter.zip2 {w : World} {elts : List PySem.Expr} {x1 : Nat} {pos : Pos} {z TI TO i1 i2 l1 l2 : Addr} {vs ws : List Value} {ds es : List PyData} {o1 o2 : Obj} {n : Nat} {Gz : Store} (D : ZipApart z TI TO i1 i2 l1 l2)
    (e1 : Gz l1 = some o1) (c1 : o1.cls = .type "list") (d1 : ∃ n, o1.data = .seq vs.toArray n) (r1 : RepAll Gz vs ds)
    (e2 : Gz l2 = some o2) (c2 : o2.cls = .type "list") (d2 : ∃ n, o2.data = .seq ws.toArray n) (r2 : RepAll Gz ws es) (hn1 : ds.length = n) (hn2 : es.length = n) :
    Iter w (.Tuple elts x1 pos) (.ref z) n Gz
      (fun k p => ∃ a b oi1 oi2, p = [(z, zipO TI TO), (TI, tupO [.ref i1, .ref i2]), (TO, tupO [a, b]), (i1, oi1), (i2, oi2)] ∧ (oi1.cls = .type "list_iterator" ∧ oi1.data = .fields #[.ref l1, .int (k : Nat) 0]) ∧ (oi2.cls = .type "list_iterator" ∧ oi2.data = .fields #[.ref l2, .int (k : Nat) 0]))
      (fun k G v => ∃ d e, ds[k]? = some d ∧ es[k]? = some e ∧ Rep G v (.tuple [d, e])) where
  next {env G₀ h₀ own l G h A s t k p Q} hk hh hz hp S q := by
    obtain ⟨a, b, oi1, oi2, rfl, ⟨ci1, di1⟩, ci2, di2⟩ := hp
    have g : ∀ p ∈ [(z, zipO TI TO), (TI, tupO [.ref i1, .ref i2]), (TO, tupO [a, b]), (i1, oi1), (i2, oi2)], h.get? p.1 = some p.2 := fun p hp => (S.ow p (List.mem_append_left _ hp)).1
    have hZ := g (z, zipO TI TO) (by simp)
    have hTI := g (TI, tupO [.ref i1, .ref i2]) (by simp)
    have hTO := g (TO, tupO [a, b]) (by simp)
    have h1 : h.IsListIter i1 l1 k := ⟨oi1, g (i1, oi1) (by simp), ci1, di1⟩
    have h2 : h.IsListIter i2 l2 k := ⟨oi2, g (i2, oi2) (by simp), ci2, di2⟩
    have hl1 : h.IsList l1 vs.toArray := ⟨o1, S.gin _ _ (hz _ _ e1), c1, d1⟩
    have hl2 : h.IsList l2 ws.toArray := ⟨o2, S.gin _ _ (hz _ _ e2), c2, d2⟩
    obtain ⟨d, hd⟩ : ∃ d, ds[k]? = some d := ⟨_, List.getElem?_eq_getElem (by lia)⟩
    obtain ⟨e, he⟩ : ∃ e, es[k]? = some e := ⟨_, List.getElem?_eq_getElem (by lia)⟩
    obtain ⟨x, hx, rx⟩ := r1.get hd
    obtain ⟨y, hy, ry⟩ := r2.get he
    refine wpAny_pyNext_zip_item (s := mkS s h t) D hZ hTI hTO h1 h2 hl1 hl2 (by simpa using hx) (by simpa using hy) fun h' hz' hto' hi1' hi2' hT hsz hkeep => ?_
    refine wpAny_letOwnedTupleGo_zip (s := mkS s h' t) hz' fun h'' hz'' hsb => ?_
    obtain ⟨oj1, ej1, cj1, dj1⟩ := hi1'
    obtain ⟨oj2, ej2, cj2, dj2⟩ := hi2'
    have zlt : z < h.objs.size := Heap.lt_size hZ
    have S' : St w env G₀ h₀ ([(z, zipO TI TO), (TI, tupO [.ref i1, .ref i2]), (TO, tupO [x, y]), (i1, oj1), (i2, oj2)] ++ own) l G h'' := by
      refine S.remake (fun c o hc ho => ?_) rfl fun p hp => ?_
      · simp only [List.map_cons, List.map_nil, List.mem_cons, List.not_mem_nil, or_false, not_or] at hc
        exact (hsb.2 _ hc.1).trans (hkeep c o hc.1 hc.2.2.1 hc.2.2.2.1 hc.2.2.2.2 ho)
      · simp only [List.mem_cons, List.not_mem_nil, or_false] at hp
        rcases hp with rfl | rfl | rfl | rfl | rfl
        · exact hz''
        · exact (hsb.2 _ D.TIz).trans (hkeep _ _ D.TIz D.TITO D.TIi1 D.TIi2 hTI)
        · exact (hsb.2 _ D.TOz).trans hto'
        · exact (hsb.2 _ D.i1z).trans ej1
        · exact (hsb.2 _ D.i2z).trans ej2
    obtain ⟨S'', g''⟩ := S.learn S' (Nat.le_refl _) ((hsb.2 _ (Nat.ne_of_gt zlt)).trans hT) rfl
    exact q _ _ _ _ _ ⟨x, y, oj1, oj2, rfl, ⟨cj1, dj1⟩, cj2, dj2⟩ S'' g'' ⟨d, e, hd, he, .tuple (o := tupO [x, y]) Store.put_self rfl rfl (.cons (rx.mono (hz.trans g'')) (.cons (ry.mono (hz.trans g'')) .nil))⟩
  stop {env G₀ h₀ own l G h A s t p Q} hh hz hp S q := by
    obtain ⟨a, b, oi1, oi2, rfl, ⟨ci1, di1⟩, ci2, di2⟩ := hp
    have g : ∀ p ∈ [(z, zipO TI TO), (TI, tupO [.ref i1, .ref i2]), (TO, tupO [a, b]), (i1, oi1), (i2, oi2)], h.get? p.1 = some p.2 := fun p hp => (S.ow p (List.mem_append_left _ hp)).1
    refine wpAny_pyNext_zip_end (s := mkS s h t) hh D (g (z, zipO TI TO) (by simp)) (g (TI, tupO [.ref i1, .ref i2]) (by simp)) (g (TO, tupO [a, b]) (by simp)) ⟨oi1, g (i1, oi1) (by simp), ci1, di1⟩ ⟨oi2, g (i2, oi2) (by simp), ci2, di2⟩
      (xs := vs.toArray) (ys := ws.toArray) ⟨o1, S.gin _ _ (hz _ _ e1), c1, d1⟩ ⟨o2, S.gin _ _ (hz _ _ e2), c2, d2⟩ (.inl ?_) fun h' hk => q h' _ (S.dropAll fun c o hc ho => ?_)
    · have := r1.length; simp; lia
    · simp only [List.map_cons, List.map_nil, List.mem_cons, List.not_mem_nil, or_false, not_or] at hc
      exact hk c o hc.1 hc.2.2.1 hc.2.2.2.1 hc.2.2.2.2 ho
section
variable {w : World} {env : Env} {G₀ G : Store} {h₀ h h' : Heap} {own own' : List (Addr × Obj)} {l l' : Loc} {A : Around} {E : Value → Shared → Prop} {s : Shared} {t : Nat}
theorem St.ext (S : St w env G₀ h₀ own l G h) (he : ∀ b o, h.get? b = some o → h'.get? b = some o) : St w env G₀ h₀ own l G h' := S.dropAll (part := []) fun b o _ e => he b o e
theorem inOrder_nil {ts : List (Value → Sem Unit)} {Q : Unit → Shared → Prop} {s : Shared} (h : Q () s) : wpAny (model pw w) A (assignInOrder ts []) Q E s := by
  cases ts <;> exact wpAny_pure h
theorem inOrder_cons {tg : Value → Sem Unit} {ts : List (Value → Sem Unit)} {v : Value} {vs : List Value} {Q : Unit → Shared → Prop} {s : Shared}
    (h : wpAny (model pw w) A (tg v) (qOrd (model pw w) A E ts vs Q) E s) : wpAny (model pw w) A (assignInOrder (tg :: ts) (v :: vs)) Q E s := by
  show wpAny _ _ (holding vs (tg v) >>= fun _ => assignInOrder ts vs) _ _ _
  exact wpAny_bind (wpAny_holding h)
/-- a tuple taken apart over targets -/
theorem unpackS {elts : List PySem.Expr} {x1 : Nat} {pos : Pos} {v : Value} {ds : List PyData} {Q : Unit → Shared → Prop} (S : St w env G₀ h₀ own l G h) (r : Rep G v (.tuple ds)) (hh : A.handled = none)
    (hn : (assignEach elts env).length = ds.length) (hstar : (assignEach elts env).findIdx? (·.1) = none)
    (k : ∀ h' vs, St w env G₀ h₀ own l G h' → RepAll G vs ds → wpAny (model pw w) A (assignInOrder ((assignEach elts env).map (·.2)) vs) Q E (mkS s h' t)) :
    wpAny (model pw w) A (assign (.Tuple elts x1 pos) env v) Q E (mkS s h t) := by
  cases r with
  | tuple e c d q =>
    rename_i a o vs n
    refine assign_Tuple_tuple (s := mkS s h t) hh ⟨o, S.gin _ _ e, c, n, d⟩ (by rw [hn]; have := q.length; simpa using this.symm) hstar fun h' he => ?_
    exact k h' _ (S.ext fun b o q => he b o (Nat.ne_of_lt (Heap.lt_size q)) q) q
/-- zip of two lists, met as a loop's source -/
theorem zip2S {v v' : Value} {ds es : List PyData} {n : Nat} {elts : List PySem.Expr} {x1 : Nat} {pos : Pos} {Q : Value → Shared → Prop} (S : St w env G₀ h₀ own l G h) (r : Rep G v (.list ds)) (r' : Rep G v' (.list es)) (hn1 : ds.length = n) (hn2 : es.length = n)
    (k : ∀ h' p it Part, Iter w (.Tuple elts x1 pos) it n G Part (fun k G v => ∃ d e, ds[k]? = some d ∧ es[k]? = some e ∧ Rep G v (.tuple [d, e])) → Part 0 p → St w env G₀ h₀ (p ++ own) l G h' → Q it (mkS s h' t)) :
    wpAny (model pw w) A (call (.type "zip") [v, v']) (fun x s₁ => wpAny (model pw w) A (pyIter x) Q E s₁) E (mkS s h t) := by
  cases r with
  | list e1 c1 d1 q1 =>
    rename_i l1 o1 vs1 n1
    cases r' with
    | list e2 c2 d2 q2 =>
      rename_i l2 o2 vs2 n2
      have g1 := S.gin _ _ e1
      have g2 := S.gin _ _ e2
      refine call_zip_2 (s := mkS s h t) ⟨o1, g1, c1, n1, d1⟩ ⟨o2, g2, c2, n2, d2⟩ fun h' hz hTI hTO hi1 hi2 hsz hk => ?_
      refine wpAny_pyIter_zip (s := mkS s h' t) hz ?_
      have D : ZipApart (h.objs.size + 4) (h.objs.size + 2) (h.objs.size + 3) h.objs.size (h.objs.size + 1) l1 l2 := zipApart_new (Heap.lt_size g1) (Heap.lt_size g2)
      obtain ⟨oi1, ei1, ci1, di1⟩ := hi1
      obtain ⟨oi2, ei2, ci2, di2⟩ := hi2
      have I := Iter.zip2 (w := w) (elts := elts) (x1 := x1) (pos := pos) (n := n) D e1 c1 ⟨n1, by rw [d1, Array.toArray_toList]⟩ q1 e2 c2 ⟨n2, by rw [d2, Array.toArray_toList]⟩ q2 hn1 hn2
      refine k h' [(h.objs.size + 4, zipO (h.objs.size + 2) (h.objs.size + 3)), (h.objs.size + 2, tupO [.ref h.objs.size, .ref (h.objs.size + 1)]), (h.objs.size + 3, tupO [.none, .none]), (h.objs.size, oi1), (h.objs.size + 1, oi2)] (.ref (h.objs.size + 4)) _ I ⟨.none, .none, oi1, oi2, rfl, ⟨ci1, di1⟩, ci2, di2⟩ ?_
      have S1 := S.ext hk
      have new : ∀ b, h.objs.size ≤ b → h₀.get? b = none ∧ G b = none ∧ b ≠ env.locals ∧ ∀ p ∈ own, p.1 ≠ b := fun b hb => by
        have big : ∀ {c : Addr} {x : Obj}, h.get? c = some x → c ≠ b := fun {c x} q z => by subst z; exact absurd (Heap.lt_size q) (Nat.not_lt.mpr hb)
        refine ⟨?_, ?_, fun q => absurd S.fr.ns.lt (by rw [← q]; exact Nat.not_lt.mpr hb), fun p hp => big (S.ow p hp).1⟩
        · cases q : h₀.get? b with
          | none => rfl
          | some x => exact absurd rfl (big (S.fr.keep _ _ q))
        · cases q : G b with
          | none => rfl
          | some x => exact absurd rfl (big (S.gin _ _ q))
      refine { S1 with ow := fun p hp => ?_, ond := ?_ }
      · rcases List.mem_append.mp hp with q | q
        · simp only [List.mem_cons, List.not_mem_nil, or_false] at q
          rcases q with rfl | rfl | rfl | rfl | rfl
          · have N := new (h.objs.size + 4) (by lia); exact ⟨hz, N.2.2.1, N.1, N.2.1⟩
          · have N := new (h.objs.size + 2) (by lia); exact ⟨hTI, N.2.2.1, N.1, N.2.1⟩
          · have N := new (h.objs.size + 3) (by lia); exact ⟨hTO, N.2.2.1, N.1, N.2.1⟩
          · have N := new (h.objs.size) (by lia); exact ⟨ei1, N.2.2.1, N.1, N.2.1⟩
          · have N := new (h.objs.size + 1) (by lia); exact ⟨ei2, N.2.2.1, N.1, N.2.1⟩
        · exact S1.ow p q
      · rw [List.map_append, List.nodup_append]
        refine ⟨?_, S.ond, fun a ha b hb q => ?_⟩
        · simp
        · subst q
          obtain ⟨p, hp, e⟩ := List.mem_map.mp hb
          simp only [List.map_cons, List.map_nil, List.mem_cons, List.not_mem_nil, or_false] at ha
          refine (new a ?_).2.2.2 p hp e
          rcases ha with q | q | q | q | q <;> rw [q] <;> first | exact Nat.le_refl _ | exact Nat.le_add_right _ _

/-! ## parts of a list -/
theorem RepAll.picks {vs : List Value} {ds : List PyData} (r : RepAll G vs ds) : ∀ is : List Nat, RepAll G (is.filterMap (vs[·]?)) (is.filterMap (ds[·]?))
  | [] => .nil
  | i :: is => by
    have ih := r.picks is
    by_cases hi : i < ds.length
    · obtain ⟨v, hv, rv⟩ := r.get (List.getElem?_eq_getElem hi)
      rw [List.filterMap_cons, List.filterMap_cons, hv, List.getElem?_eq_getElem hi]
      exact .cons rv ih
    · have h1 : ds[i]? = none := List.getElem?_eq_none (by lia)
      have h2 : vs[i]? = none := List.getElem?_eq_none (by rw [r.length]; lia)
      rw [List.filterMap_cons, List.filterMap_cons, h1, h2]; exact ih
theorem sliceS {value slice : PySem.Expr} {v vl vu vk : Value} {lo hi st : Option Int} {ds es : List PyData} {Q : Value → Shared → Prop} (S : St w env G₀ h₀ own l G h) (r : Rep G v (.list ds))
    (pl : IsPart vl lo) (pu : IsPart vu hi) (pk : IsPart vk st) (h0 : st ≠ some 0) (hz : ds.length ≤ sizeLine)
    (hp : ∀ vs : List Value, RepAll G vs ds → RepAll G (slicePick vs.toArray lo hi st).toList es)
    (k : ∀ h' G' x, St w env G₀ h₀ own l G' h' → G.Sub G' → Rep G' x (.list es) → Q x (mkS s h' t))
    (hs : ∀ a b, subscripted slice false (.ref a) (.ref b) = operate [.ref b, .ref a] (getItem (.ref a) (.ref b)) := by intro _ _; with_unfolding_all rfl)
    (ht : ∀ a r, letTemporaryGo value (.ref a) r = pure () := by intro _ _; with_unfolding_all rfl) :
    wpAny (model pw w) A (subscriptTail value slice v (.ref h.objs.size)) Q E (mkS s (h.push { cls := .type "slice", data := .fields #[vl, vu, vk] }) t) := by
  obtain ⟨a, vs, rfl, la, ra⟩ := r.isList S.gin
  refine subscriptTail_ops (s := mkS s (h.push { cls := .type "slice", data := .fields #[vl, vu, vk] }) t) (Heap.IsList.typeIs (s := mkS s (h.push { cls := .type "slice", data := .fields #[vl, vu, vk] }) t) (la.push _)) list_getitem_lookup
    (wpAny_getItem_list_slice (s := mkS s (h.push { cls := .type "slice", data := .fields #[vl, vu, vk] }) t) (la.push _) (Heap.IsSliceOf.new ..) pl pu pk h0 ?_ (by simpa [ra.length] using hz)) (hs _ _) (ht _)
  have S1 := S.ext (h' := h.push { cls := .type "slice", data := .fields #[vl, vu, vk] }) fun b o e => Heap.get?_push_of_some _ e
  obtain ⟨S2, g2⟩ := S1.push { cls := .type "list", data := .seq (slicePick vs.toArray lo hi st) } rfl
  exact k _ _ _ S2 g2 (.list Store.put_self rfl rfl ((hp vs ra).mono g2))
end
section
variable {w : World} {env : Env} {G₀ G : Store} {h₀ h h' : Heap} {own own' : List (Addr × Obj)} {l l' : Loc} {A : Around} {E : Value → Shared → Prop} {s : Shared} {t : Nat}
/-- x.append(e), x an own list -/
theorem appendStS {x : Str} {e : PySem.Expr} {p1 p2 p3 pos : Pos} {a : Addr} {vs : List Value} {n : Nat} {d : PyData} {ow : Value → List (Addr × Obj)} {pl : Sem Bool} {Q : Flow → Shared → Prop}
    (S : St w env G₀ h₀ own l G h) (hm : Has l x (.ref a)) (ho : ∀ v, OwnTo own a (lstO vs n) (lstO (vs ++ [v]) (n + 1)) (ow v)) (hz : vs.length ≤ sizeLine)
    (he : wpAny (model pw w) A (eval e env) (VS w env G₀ h₀ own l G s d) E (mkS s h t))
    (k : ∀ v h' G' t', St w env G₀ h₀ (ow v) l G' h' → G.Sub G' → Rep G' v d → Q .next (mkS s h' t'))
    (hi : interactive env = false := by rfl) (hs : swapsWith (.Call (.Attribute (.Name x p1) (Str.ofString "append") p2) [e] [] p3) none pos.line env = pure false := by rfl)
    (hc : eval (.Call (.Attribute (.Name x p1) (Str.ofString "append") p2) [e] [] p3) env = (do
      let ov ← eval (.Name x p1) env
      standAt p2.atName
      let (f, first) ← holding [ov] (getMethod ov (Str.ofString "append") pl)
      callWith p3 f first (backTo p3 (starEach [e] env)) []) := by rfl)
    (hst : starEach [e] env = (false, eval e env) :: starEach [] env := by rfl)
    (hd : (x == ("__debug__" : Str)) = false := by decide +kernel) :
    wpAny (model pw w) A (exec (.Expr (.Call (.Attribute (.Name x p1) (Str.ofString "append") p2) [e] [] p3) pos) env) Q E (mkS s h t) := by
  have g := (S.ow _ (ho .none).mem).1
  refine wpAny_Expr (MethodCall_ (pl := pl) (ldS S hm (getMethod_list_of (s := mkS s h t) PySem.F.slot_list_append (by kernel_rfl) ⟨_, g, rfl, n, rfl⟩ ?_ (callWith_method1 (args_cons (wpAny_mono he ?_ fun _ _ x => x) hst) hst)) hd) hc) hi hs
  · exact ⟨_, g, rfl⟩
  · rintro v s' ⟨h', G', t', rfl, S', g', r'⟩
    refine args_nil (appS S' (ho v) hz fun h'' t'' S'' => ?_)
    exact k v h'' G' t'' S'' g' r'
/-- two arms, one datum -/
theorem ifExpS {test a b : PySem.Expr} {pos : Pos} {c : Bool} {Q : Value → Shared → Prop}
    (ht : wpAny (model pw w) A (isTrue test env (eval test env)) (fun x s₁ => if x then wpAny (model pw w) A (eval a env) Q E s₁ else wpAny (model pw w) A (eval b env) Q E s₁) E (mkS s h t)) :
    wpAny (model pw w) A (eval (.IfExp test a b pos) env) Q E (mkS s h t) := wpAny_IfExp ht
theorem ownTail {a : Addr} {o o' : Obj} : ∀ p : List (Addr × Obj), OwnTo (p ++ [(a, o)]) a o o' (p ++ [(a, o')])
  | [] => .head
  | _ :: p => .tail (ownTail p)
end
theorem nz_range (P : Params) : nsIn (K P) mainGlobals (Str.ofString "range") = some none := by kernel_rfl
theorem bb_range : bootBuiltins (Str.ofString "range") = some (.type "range") := by kernel_rfl
theorem nz_zip (P : Params) : nsIn (K P) mainGlobals (Str.ofString "zip") = some none := by kernel_rfl
theorem bb_zip : bootBuiltins (Str.ofString "zip") = some (.type "zip") := by kernel_rfl
theorem nz_len (P : Params) : nsIn (K P) mainGlobals (Str.ofString "len") = some none := by kernel_rfl
theorem bb_len : bootBuiltins (Str.ofString "len") = some (.builtin "len") := by kernel_rfl
theorem nz_sum (P : Params) : nsIn (K P) mainGlobals (Str.ofString "sum") = some none := by kernel_rfl
theorem bb_sum : bootBuiltins (Str.ofString "sum") = some (.builtin "sum") := by kernel_rfl
theorem nz_enumerate (P : Params) : nsIn (K P) mainGlobals (Str.ofString "enumerate") = some none := by kernel_rfl
theorem bb_enumerate : bootBuiltins (Str.ofString "enumerate") = some (.type "enumerate") := by kernel_rfl
theorem nz_list (P : Params) : nsIn (K P) mainGlobals (Str.ofString "list") = some none := by kernel_rfl
theorem bb_list : bootBuiltins (Str.ofString "list") = some (.type "list") := by kernel_rfl
theorem nz_object (P : Params) : nsIn (K P) mainGlobals (Str.ofString "object") = some none := by kernel_rfl
theorem bb_object : bootBuiltins (Str.ofString "object") = some (.type "object") := by kernel_rfl
theorem nz_map (P : Params) : nsIn (K P) mainGlobals (Str.ofString "map") = some none := by kernel_rfl
theorem bb_map : bootBuiltins (Str.ofString "map") = some (.type "map") := by kernel_rfl
theorem nz_set (P : Params) : nsIn (K P) mainGlobals (Str.ofString "set") = some none := by kernel_rfl
theorem bb_set : bootBuiltins (Str.ofString "set") = some (.type "set") := by kernel_rfl
theorem nz_tuple (P : Params) : nsIn (K P) mainGlobals (Str.ofString "tuple") = some none := by kernel_rfl
theorem bb_tuple : bootBuiltins (Str.ofString "tuple") = some (.type "tuple") := by kernel_rfl
theorem nz_IndexError (P : Params) : nsIn (K P) mainGlobals (Str.ofString "IndexError") = some none := by kernel_rfl
theorem bb_IndexError : bootBuiltins (Str.ofString "IndexError") = some (.type "IndexError") := by kernel_rfl
theorem nz_ValueError (P : Params) : nsIn (K P) mainGlobals (Str.ofString "ValueError") = some none := by kernel_rfl
theorem bb_ValueError : bootBuiltins (Str.ofString "ValueError") = some (.type "ValueError") := by kernel_rfl
theorem gl_law_row (P : Params) : nsIn (K P) mainGlobals (Str.ofString "_law_row") = some (some (.ref 391)) := by kernel_rfl
theorem gl_law_edits (P : Params) : nsIn (K P) mainGlobals (Str.ofString "_law_edits") = some (some (.ref 398)) := by kernel_rfl
theorem gl_law_told (P : Params) : nsIn (K P) mainGlobals (Str.ofString "_law_told") = some (some (.ref 403)) := by kernel_rfl
theorem gl_law_hands (P : Params) : nsIn (K P) mainGlobals (Str.ofString "_law_hands") = some (some (.ref 408)) := by kernel_rfl
theorem gl_sorted_list_difference (P : Params) : nsIn (K P) mainGlobals (Str.ofString "sorted_list_difference") = some (some (.ref 71)) := by kernel_rfl
theorem gl_unorderable_list_difference (P : Params) : nsIn (K P) mainGlobals (Str.ofString "unorderable_list_difference") = some (some (.ref 78)) := by kernel_rfl
theorem gl_count_diff_all_purpose (P : Params) : nsIn (K P) mainGlobals (Str.ofString "_count_diff_all_purpose") = some (some (.ref 159)) := by kernel_rfl
theorem gl_SequenceMatcher (P : Params) : nsIn (K P) mainGlobals (Str.ofString "SequenceMatcher") = some (some (.ref 380)) := by kernel_rfl
theorem gl_Match (P : Params) : nsIn (K P) mainGlobals (Str.ofString "Match") = some (some (.ref 273)) := by kernel_rfl
theorem gl_Mismatch (P : Params) : nsIn (K P) mainGlobals (Str.ofString "_Mismatch") = some (some (.ref 149)) := by kernel_rfl
section
variable {w : World} {env env' : Env} {G₀ G G' : Store} {h₀ h h' : Heap} {own new new' : List (Addr × Obj)} {l l' : Loc} {A : Around} {E : Value → Shared → Prop} {s : Shared} {t : Nat}
noncomputable abbrev offH (h : Heap) (new : List (Addr × Obj)) : Heap := hideAll h (new.map (·.1))
/-- what a state with handed objects says of the heap without them -/
structure Off (w : World) (env : Env) (h₀ : Heap) (own : List (Addr × Obj)) (new : List (Addr × Obj)) (G : Store) (h : Heap) : Prop where
  bs : Bs w (offH h new)
  keep : ∀ b o, (offH h new).get? b = some o → h.get? b = some o
  size : (offH h new).objs.size = h.objs.size
  none : ∀ p ∈ new, (offH h new).get? p.1 = none
  old : ∀ b o, h₀.get? b = some o → (offH h new).get? b = some o
  gin : G.In (offH h new)
  loc : ∃ o es ep, (offH h new).get? env.locals = some o ∧ h.get? env.locals = some o ∧ o.data = .dict es ep
  own : ∀ p ∈ own, (offH h new).get? p.1 = some p.2
theorem St.off (S : St w env G₀ h₀ (new ++ own) l G h) : Off w env h₀ own new G h := by
  have nm : ∀ b, (∃ o, h₀.get? b = some o) ∨ (∃ o, G b = some o) ∨ b = env.locals ∨ (∃ p ∈ own, p.1 = b) → b ∉ new.map (·.1) := fun b hb q => by
    obtain ⟨p, hp, rfl⟩ := List.mem_map.mp q
    have D := S.ow p (List.mem_append_left _ hp)
    rcases hb with ⟨o, e⟩ | ⟨o, e⟩ | e | ⟨p', hp', e⟩
    · rw [D.2.2.1] at e; cases e
    · rw [D.2.2.2] at e; cases e
    · exact D.2.1 e
    · have hn := S.ond
      rw [List.map_append, List.nodup_append] at hn
      exact hn.2.2 _ q _ (List.mem_map_of_mem (f := (·.1)) hp') e.symm
  have old : ∀ b o, h₀.get? b = some o → (offH h new).get? b = some o := fun b o e => hideAll_get _ (S.fr.keep b o e) (nm b (.inl ⟨o, e⟩))
  obtain ⟨oL, es, ep, eL, dL, r⟩ := S.fr.ns
  exact { bs := S.bs.keeps old, keep := fun b o e => of_hideAll _ e, size := hideAll_size _ _, none := fun p hp => hideAll_none _ (List.mem_map_of_mem (f := (·.1)) hp), old := old, gin := fun b o e => hideAll_get _ (S.gin b o e) (nm b (.inr (.inl ⟨o, e⟩))), loc := ⟨oL, es, ep, hideAll_get _ eL (nm _ (.inr (.inr (.inl rfl)))), eL, dL⟩, own := fun p hp => hideAll_get _ (S.ow p (List.mem_append_right _ hp)).1 (nm _ (.inr (.inr (.inr ⟨p, hp, rfl⟩)))) }
/-- back from where some objects were handed: those that come back take their place -/
theorem St.leave (S : St w env G₀ h₀ (new ++ own) l G h) (S' : St w env' G (offH h new) new' l' G' h') : St w env G₀ h₀ (new' ++ own) l G' h' := by
  have O := S.off
  have Kp := S'.fr.keep
  obtain ⟨oL, es, ep, eL, dL, r⟩ := S.fr.ns
  obtain ⟨oL', _, _, eL', eL'', _⟩ := O.loc
  obtain rfl : oL' = oL := by rw [eL] at eL''; exact (Option.some.inj eL'').symm
  have hn := S.ond
  rw [List.map_append, List.nodup_append] at hn
  refine { bs := S.bs, kind := S.kind, glo := S.glo, blt := S.blt, fr := ⟨⟨oL', es, ep, Kp _ _ eL', dL, r⟩, fun b o q => Kp _ _ (O.old b o q), S.fr.above⟩, nd := S.nd, lc := S.lc, gin := S'.gin, gsub := S.gsub.trans S'.gsub, gnew := fun a o e => ?_, gL := ?_, ow := fun p hp => ?_, ond := ?_ }
  · rcases S'.gnew a o e with q | q
    · exact S.gnew a o q
    · right
      cases q' : h₀.get? a with
      | none => rfl
      | some o' => rw [O.old _ _ q'] at q; cases q
  · cases q : G' env.locals with
    | none => rfl
    | some o =>
      rcases S'.gnew _ _ q with e | e
      · rw [S.gL] at e; cases e
      · rw [eL'] at e; cases e
  · rcases List.mem_append.mp hp with q | q
    · have D := S'.ow p q
      refine ⟨D.1, fun e => ?_, ?_, D.2.2.2⟩
      · have := D.2.2.1; rw [e, eL'] at this; cases this
      · cases q' : h₀.get? p.1 with
        | none => rfl
        | some o' => have := D.2.2.1; rw [O.old _ _ q'] at this; cases this
    · have D := S.ow p (List.mem_append_right _ q)
      have e := O.own p q
      refine ⟨Kp _ _ e, D.2.1, D.2.2.1, ?_⟩
      cases z : G' p.1 with
      | none => rfl
      | some o =>
        rcases S'.gnew _ _ z with y | y
        · rw [D.2.2.2] at y; cases y
        · rw [e] at y; cases y
  · rw [List.map_append, List.nodup_append]
    refine ⟨S'.ond, hn.2.1, fun a ha b hb q => ?_⟩
    subst q
    obtain ⟨p, hp, e⟩ := List.mem_map.mp ha
    obtain ⟨p', hp', e'⟩ := List.mem_map.mp hb
    have D := (S'.ow p hp).2.2.1
    rw [e, ← e', O.own p' hp'] at D; cases D
end
section
variable {w : World} {A : Around} {env : Env} {s : Shared} {R : Result → Shared → Prop}
theorem comp_turn {elt target iter : PySem.Expr} {scope : Scope} {pos : Pos} {it acc : Value}
    (h : wpAny (model pw w) A (pyNext it) (fun r s₁ => match r with
      | none => R (.ok .next) s₁
      | some v => wpAny (model pw w) A (letOwnedTupleGo target it v) (fun _ s₁' => wpAny (model pw w) A (assign target env v) (fun _ s₂ => wpAny (model pw w) A (eval elt env) (fun x s₃ =>
          wpAny (model pw w) A (call (.builtin "list.append") [acc, x]) (fun _ s₄ => codeAny (model pw w) A (.compLoop (.ListComp elt [⟨target, iter, [], 0⟩] scope pos) 0 it acc env) R s₄) E0 s₃) E0 s₂) E0 s₁') E0 s₁) E0 s) :
    codeAny (model pw w) A (.compLoop (.ListComp elt [⟨target, iter, [], 0⟩] scope pos) 0 it acc env) R s := by
  refine codeAny_of_tree ?_
  show wpAny _ A ((compTurn (.ListComp elt [⟨target, iter, [], 0⟩] scope pos) 0 it acc env).onRaise (fun x => do noteFrame x env; theTreesLotGoes x)) _ _ s
  refine wpAny_noted ?_
  rw [compTurn_list1]
  refine wpAny_bind (wpAny_standAt (wpAny_bind (wpAny_mono h (fun r s₁ h₁ => ?_) fun _ _ h' => h'.elim)))
  cases r with
  | none => exact wpAny_pure h₁
  | some v =>
    refine wpAny_bind (wpAny_mono h₁ (fun _ s₁' h₁' => ?_) fun _ _ h' => h'.elim)
    exact wpAny_bind (wpAny_mono h₁' (fun _ s₂ h₂ => wpAny_bind (wpAny_bind (wpAny_mono h₂ (fun x s₃ h₃ => wpAny_bind (wpAny_mono h₃
      (fun _ s₄ h₄ => wpAny_pure (wpAny_pure ⟨rfl, h₄⟩)) fun _ _ h' => h'.elim)) fun _ _ h' => h'.elim))) fun _ _ h' => h'.elim)
theorem comp_turn_if {elt target iter c : PySem.Expr} {scope : Scope} {pos : Pos} {it acc : Value}
    (h : wpAny (model pw w) A (pyNext it) (fun r s₁ => match r with
      | none => R (.ok .next) s₁
      | some v => wpAny (model pw w) A (letOwnedTupleGo target it v) (fun _ s₁' => wpAny (model pw w) A (assign target env v) (fun _ s₂ => wpAny (model pw w) A (isTrue c env (eval c env)) (fun b s₂' =>
        if b then wpAny (model pw w) A (eval elt env) (fun x s₃ =>
          wpAny (model pw w) A (call (.builtin "list.append") [acc, x]) (fun _ s₄ => codeAny (model pw w) A (.compLoop (.ListComp elt [⟨target, iter, [c], 0⟩] scope pos) 0 it acc env) R s₄) E0 s₃) E0 s₂'
        else codeAny (model pw w) A (.compLoop (.ListComp elt [⟨target, iter, [c], 0⟩] scope pos) 0 it acc env) R s₂') E0 s₂) E0 s₁') E0 s₁) E0 s) :
    codeAny (model pw w) A (.compLoop (.ListComp elt [⟨target, iter, [c], 0⟩] scope pos) 0 it acc env) R s := by
  refine codeAny_of_tree ?_
  show wpAny _ A ((compTurn (.ListComp elt [⟨target, iter, [c], 0⟩] scope pos) 0 it acc env).onRaise (fun x => do noteFrame x env; theTreesLotGoes x)) _ _ s
  refine wpAny_noted ?_
  unfold compTurn
  show wpAny _ _ (standAt iter.pos >>= fun _ => pyNext it >>= _) _ _ s
  refine wpAny_bind (wpAny_standAt (wpAny_bind (wpAny_mono h (fun r s₁ h₁ => ?_) fun _ _ h' => h'.elim)))
  cases r with
  | none => exact wpAny_pure h₁
  | some v =>
    refine wpAny_bind (wpAny_mono h₁ (fun _ s₁' h₁' => ?_) fun _ _ h' => h'.elim)
    refine wpAny_bind (wpAny_mono h₁' (fun _ s₂ h₂ => ?_) fun _ _ h' => h'.elim)
    show wpAny _ _ (forIn [c] true _ >>= _) _ _ s₂
    rw [List.forIn_cons]
    refine wpAny_bind (wpAny_bind ?_)
    show wpAny _ _ (isTrue c env (eval c env) >>= _) _ _ s₂
    refine wpAny_bind (wpAny_mono h₂ (fun b s₂' hb => ?_) fun _ _ h' => h'.elim)
    refine wpAny_pure ?_
    show wpAny _ _ (forIn [] b _) _ _ s₂'
    rw [List.forIn_nil]
    refine wpAny_pure ?_
    cases b with
    | false =>
      show wpAny _ _ (pure () >>= fun _ => again _) _ _ s₂'
      exact wpAny_bind (wpAny_pure (wpAny_pure ⟨rfl, hb⟩))
    | true =>
      show wpAny _ _ ((eval elt env >>= fun x => call (.builtin "list.append") [acc, x] >>= fun _ => pure ()) >>= fun _ => again _) _ _ s₂'
      refine wpAny_bind (wpAny_bind (wpAny_mono hb (fun x s₃ h₃ => wpAny_bind (wpAny_mono h₃ (fun _ s₄ h₄ => wpAny_pure (wpAny_pure ⟨rfl, h₄⟩)) fun _ _ h' => h'.elim)) fun _ _ h' => h'.elim))
end
noncomputable abbrev compEnv (env : Env) (scope : Scope) (L : Addr) : Env := { newEnv scope L env.globals [] env.qual none .none (some env) 0 with scope := scope }
section
variable {w : World} {A : Around} {env : Env} {s : Shared} {G₀ G : Store} {h₀ h : Heap} {own : List (Addr × Obj)} {l : Loc} {t : Nat}
/-- a state met behind a change of one address that it knows nothing of -/
theorem St.garb {c : Addr} {h' : Heap} (S : St w env G₀ h₀ own l G h) (h1 : h₀.get? c = none) (h2 : G c = none) (h3 : env.locals ≠ c) (h4 : ∀ p ∈ own, p.1 ≠ c) (he : ∀ b o, b ≠ c → h.get? b = some o → h'.get? b = some o) : St w env G₀ h₀ own l G h' := by
  obtain ⟨oL, es, ep, eL, r⟩ := S.fr.ns
  refine { S with fr := ⟨⟨oL, es, ep, he _ _ h3 eL, r⟩, fun b o e => he _ _ (fun q => ?_) (S.fr.keep b o e), S.fr.above⟩, gin := fun b o e => he _ _ (fun q => ?_) (S.gin b o e), ow := fun p hp => ⟨he _ _ (h4 p hp) (S.ow p hp).1, (S.ow p hp).2⟩ }
  · subst q; rw [h1] at e; cases e
  · subst q; rw [h2] at e; cases e
/-- the inner state of a comprehension -/
theorem St.inner {scope : Scope} {names : List Str} {new : List (Addr × Obj)} (S : St w env G₀ h₀ (new ++ own) l G h)
    (hok : ((names.all fun n => decide (scope.names.lookup n = some .local)) && decide names.Nodup && decide (scope.kind = .function)) = true)
    {h' : Heap} (hns : h'.Ns h.objs.size (fun x => ([] : List (Str × Value)).reverse.lookup x)) (hk : ∀ b o, h.get? b = some o → h'.get? b = some o) :
    St w (compEnv env scope h.objs.size) G (offH h new) new (names.map fun n => (n, none)) G h' := by
  simp only [Bool.and_eq_true, decide_eq_true_eq, List.all_eq_true] at hok
  obtain ⟨⟨hl, hnd⟩, hki⟩ := hok
  have O := S.off
  have hnames : (names.map fun n => ((n, none) : Str × Option Value)).map (·.1) = names := by rw [List.map_map]; exact List.map_id' names
  have hn := S.ond
  rw [List.map_append, List.nodup_append] at hn
  refine { bs := O.bs, kind := hki, glo := S.glo, blt := S.blt, fr := ⟨?_, fun b o e => hk _ _ (O.keep b o e), Nat.le_of_eq O.size⟩, nd := by rw [hnames]; exact hnd, lc := fun x hx => by rw [hnames] at hx; exact hl x hx, gin := fun b o e => hk _ _ (S.gin b o e), gsub := fun _ _ e => e, gnew := fun _ _ e => .inl e, gL := ?_, ow := fun p hp => ?_, ond := hn.1 }
  · rw [look_none]; exact hns
  · cases q : G h.objs.size with
    | none => exact q
    | some o => exact absurd (Heap.lt_size (S.gin _ _ q)) (Nat.lt_irrefl _)
  · have D := S.ow p (List.mem_append_left _ hp)
    exact ⟨hk _ _ D.1, Nat.ne_of_lt (Heap.lt_size D.1), O.none p hp, D.2.2.2⟩

set_option maxHeartbeats 4000000 in
theorem compTailG (RR : Value → Env → Result → Shared → Prop) {target elt iter : PySem.Expr} {scope : Scope} {pos : Pos} {it : Value} {n : Nat} {Gz : Store} {Part : Nat → List (Addr × Obj) → Prop} {item : Nat → Store → Value → Prop} {p : List (Addr × Obj)} {names : List Str} {dat : Nat → PyData} {E : Value → Shared → Prop}
    (I : Iter w target it n Gz Part item) (hh : A.handled = none) (hz : Gz.Sub G) (hP : Part 0 p) (S : St w env G₀ h₀ (p ++ own) l G h) (hn : n ≤ 1000)
    (hag : ∀ {s : Shared} {Q : Value → Shared → Prop} {h : Heap} {t : Nat} {env' : Env} {G₀' h₀' own' l' G'} , St w env' G₀' h₀' (p ++ own') l' G' h → Q it (mkS s h t) → wpAny (model pw w) A (pyIter it) Q E0 (mkS s h t))
    (hok : ((names.all fun n => decide (scope.names.lookup n = some .local)) && decide names.Nodup && decide (scope.kind = .function)) = true) (hcell : ∀ x ∈ scope.names, x.2 ≠ .cell)
    (turn : ∀ (L : Addr) (G₁ : Store) (h₁ : Heap) (k : Nat), k < n → ∀ (own₁ : List (Addr × Obj)) (G₂ : Store) (h₂ : Heap) (t₂ : Nat) (vals : List (Option Value)) (v : Value), vals.length = names.length → item k G₂ v → G.Sub G₂ →
      St w (compEnv env scope L) G₁ h₁ own₁ (names.zip vals) G₂ h₂ →
      wpAny (model pw w) A (assign target (compEnv env scope L) v) (fun _ s₂ => wpAny (model pw w) A (eval elt (compEnv env scope L)) (fun x s₃ => ∃ h₃ G₃ t₃ vals', s₃ = mkS s h₃ t₃ ∧ St w (compEnv env scope L) G₁ h₁ own₁ (names.zip vals') G₃ h₃ ∧ vals'.length = names.length ∧ G₂.Sub G₃ ∧ Rep G₃ x (dat k)) E0 s₂) E0 (mkS s h₂ t₂))
    (fin : ∀ (L acc : Addr) (oC : Obj) (vs : List Value) (nn : Nat) h' G' t', St w env G₀ h₀ ((L, oC) :: (acc, lstO vs nn) :: own) l G' h' → (∀ h'' : Heap, h''.get? L = some oC → ∃ m, h''.Ns L m) → G.Sub G' → RepAll G' vs ((List.range n).map dat) →
      RR (.ref acc) (newEnv scope L env.globals [] env.qual none .none (some env) 0) (.ok .next) (mkS s h' t')) :
    wpAny (model pw w) A (newList []) (fun acc s₃ => wpAny (model pw w) A (newFunctionEnv scope env.globals [] [] env.qual none .none (some env)) (fun cenv s₄ =>
      codeAny (model pw w) A (.compStart (.ListComp elt [⟨target, iter, [], 0⟩] scope pos) 0 it acc { cenv with scope := scope }) (RR acc cenv) s₄) E s₃) E (mkS s h t) := by
  have Sa : St w env G₀ h₀ ((p ++ [(h.objs.size, listO [])]) ++ own) l G (h.push (listO [])) := by
    have S1 := S.pushOwn (listO []) rfl
    refine { S1 with ow := fun q hq => S1.ow q ?_, ond := ?_ }
    · simp only [List.mem_append, List.mem_cons, List.not_mem_nil, or_false] at hq ⊢
      rcases hq with (hq | hq) | hq
      · exact .inr (.inl hq)
      · exact .inl hq
      · exact .inr (.inr hq)
    · have := S1.ond
      simp only [List.map_cons, List.map_append, List.map_nil, List.append_assoc, List.cons_append, List.nil_append] at this ⊢
      exact (List.perm_middle.nodup_iff).mpr this
  refine wpAny_newList (s := mkS s h t) ?_
  refine wpAny_newFunctionEnv (s := mkS s (h.push (listO [])) t) hcell (fun _ hx => (nomatch hx)) (fun h₄ hns hsb => ?_) (by simp only [Bool.and_eq_true, decide_eq_true_eq] at hok; exact hok.2)
  have hk4 : ∀ b o, (h.push (listO [])).get? b = some o → h₄.get? b = some o := fun b o e => hsb.extBut b o (Nat.ne_of_lt (Heap.lt_size e)) (Heap.get?_push_of_some _ e)
  have Si := Sa.inner hok hns hk4
  have loop : ∀ (m k : Nat), m = n - k → k ≤ n → ∀ {p' vs nn vals G₂ h₂ t₂}, Part k p' → vals.length = names.length → RepAll G₂ vs ((List.range k).map dat) → G.Sub G₂ →
      St w (compEnv env scope (h.push (listO [])).objs.size) G (offH (h.push (listO [])) (p ++ [(h.objs.size, listO [])])) (p' ++ [(h.objs.size, lstO vs nn)]) (names.zip vals) G₂ h₂ →
      codeAny (model pw w) A (.compLoop (.ListComp elt [⟨target, iter, [], 0⟩] scope pos) 0 it (.ref h.objs.size) (compEnv env scope (h.push (listO [])).objs.size)) (RR (.ref h.objs.size) (newEnv scope (h.push (listO [])).objs.size env.globals [] env.qual none .none (some env) 0)) (mkS s h₂ t₂) := by
    intro m
    induction m with
    | zero =>
      intro k hm hk p' vs nn vals G₂ h₂ t₂ hp' hv hr hg S'
      obtain rfl : k = n := by lia
      refine comp_turn (I.stop hh (hz.trans hg) hp' S' fun h' t' S'' => ?_)
      have Lv := Sa.leave S''
      have big : ∀ {b : Addr} {o : Obj}, (h.push (listO [])).get? b = some o → b ≠ (h.push (listO [])).objs.size := fun {b o} e q => by subst q; exact absurd (Heap.lt_size e) (Nat.lt_irrefl _)
      have c1 : h₀.get? (h.push (listO [])).objs.size = none := by
        cases q : h₀.get? (h.push (listO [])).objs.size with
        | none => rfl
        | some o => exact absurd rfl (big (Sa.fr.keep _ _ q))
      have c4 : ∀ q ∈ [(h.objs.size, lstO vs nn)] ++ own, q.1 ≠ (h.push (listO [])).objs.size := fun q hq => by
        rcases List.mem_append.mp hq with z | z
        · exact (S''.ow q z).2.1
        · exact big (Sa.ow q (List.mem_append_right _ z)).1
      obtain ⟨oC, es, ep, eC, rC⟩ := S''.fr.ns
      have Lw : St w env G₀ h₀ ((((h.push (listO [])).objs.size, oC)) :: ([(h.objs.size, lstO vs nn)] ++ own)) l G₂ h' := by
        refine { Lv with ow := fun q hq => ?_, ond := ?_ }
        · rcases List.mem_cons.mp hq with rfl | hq
          · exact ⟨eC, Ne.symm (Nat.ne_of_lt Sa.fr.ns.lt), c1, S''.gL⟩
          · exact Lv.ow q hq
        · rw [List.map_cons, List.nodup_cons]
          refine ⟨fun q => ?_, Lv.ond⟩
          obtain ⟨x, hx, e⟩ := List.mem_map.mp q
          exact c4 x hx e
      exact fin _ _ oC vs nn _ _ _ Lw (fun h'' e => ⟨_, oC, es, ep, e, rC⟩) hg hr
    | succ m ih =>
      intro k hm hk p' vs nn vals G₂ h₂ t₂ hp' hv hr hg S'
      have hk' : k < n := by lia
      have hvl : vs.length ≤ sizeLine := by
        have := hr.length; rw [List.length_map, List.length_range] at this; rw [sizeLine_eq]; lia
      refine comp_turn (wpAny_mono (I.next (Q := fun v s' => wpAny (model pw w) A (assign target (compEnv env scope (h.push (listO [])).objs.size) v) (fun _ s₂ => wpAny (model pw w) A (eval elt (compEnv env scope (h.push (listO [])).objs.size)) (fun x s₃ =>
          wpAny (model pw w) A (call (.builtin "list.append") [.ref h.objs.size, x]) (fun _ s₄ => codeAny (model pw w) A (.compLoop (.ListComp elt [⟨target, iter, [], 0⟩] scope pos) 0 it (.ref h.objs.size) (compEnv env scope (h.push (listO [])).objs.size)) (RR (.ref h.objs.size) (newEnv scope (h.push (listO [])).objs.size env.globals [] env.qual none .none (some env) 0)) s₄) E0 s₃) E0 s₂) E0 s') hk' hh (hz.trans hg) hp' S' fun p'' v h₅ G₅ t₅ hp'' S₅ g₅ hi => ?_) (fun r s₁ h₁ => ?_) fun _ _ x => x)
      · refine wpAny_mono (turn _ _ _ k hk' _ _ _ t₅ vals v hv hi (hg.trans g₅) S₅) (fun _ s₂ h₂ => wpAny_mono h₂ (fun x s₃ h₃ => ?_) fun _ _ x => x) fun _ _ x => x
        obtain ⟨h₆, G₆, t₆, vals', rfl, S₆, hv', g₆, rx⟩ := h₃
        refine appS S₆ (ownTail p'') hvl fun h₇ t₇ S₇ => ?_
        refine ih (k + 1) (by lia) (by lia) hp'' hv' ?_ (hg.trans (g₅.trans g₆)) S₇
        rw [List.range_succ, List.map_append]
        exact (hr.mono (g₅.trans g₆)).app (.cons rx .nil)
      · cases r with
        | none => exact h₁.elim
        | some v => exact h₁
  have hzip : (names.map fun n => ((n, none) : Str × Option Value)) = names.zip (names.map fun _ => none) := by
    clear hok turn Si loop
    induction names with
    | nil => rfl
    | cons a as ih => simp [ih]
  have Sz := Si
  rw [hzip] at Sz
  have start : ∀ t', codeAny (model pw w) A (.compLoop (.ListComp elt [⟨target, iter, [], 0⟩] scope pos) 0 it (.ref h.objs.size) (compEnv env scope (h.push (listO [])).objs.size)) _ (mkS s h₄ t') := fun t' =>
    loop n 0 rfl (Nat.zero_le _) (nn := 0) hP (by simp) .nil (Store.Sub.refl _) Sz
  exact codeAny_compStart_list (start _) (wpAny_mono (hag Sz (start _)) (fun _ _ x => x) fun _ _ x => x.elim)
theorem compTail {target elt iter : PySem.Expr} {scope : Scope} {pos : Pos} {it : Value} {n : Nat} {Gz : Store} {Part : Nat → List (Addr × Obj) → Prop} {item : Nat → Store → Value → Prop} {p : List (Addr × Obj)} {names : List Str} {dat : Nat → PyData} {Q : Value → Shared → Prop} {E : Value → Shared → Prop}
    (I : Iter w target it n Gz Part item) (hh : A.handled = none) (hz : Gz.Sub G) (hP : Part 0 p) (S : St w env G₀ h₀ (p ++ own) l G h) (hn : n ≤ 1000)
    (hag : ∀ {s : Shared} {Q : Value → Shared → Prop} {h : Heap} {t : Nat} {env' : Env} {G₀' h₀' own' l' G'} , St w env' G₀' h₀' (p ++ own') l' G' h → Q it (mkS s h t) → wpAny (model pw w) A (pyIter it) Q E0 (mkS s h t))
    (hok : ((names.all fun n => decide (scope.names.lookup n = some .local)) && decide names.Nodup && decide (scope.kind = .function)) = true) (hcell : ∀ x ∈ scope.names, x.2 ≠ .cell)
    (turn : ∀ (L : Addr) (G₁ : Store) (h₁ : Heap) (k : Nat), k < n → ∀ (own₁ : List (Addr × Obj)) (G₂ : Store) (h₂ : Heap) (t₂ : Nat) (vals : List (Option Value)) (v : Value), vals.length = names.length → item k G₂ v → G.Sub G₂ →
      St w (compEnv env scope L) G₁ h₁ own₁ (names.zip vals) G₂ h₂ →
      wpAny (model pw w) A (assign target (compEnv env scope L) v) (fun _ s₂ => wpAny (model pw w) A (eval elt (compEnv env scope L)) (fun x s₃ => ∃ h₃ G₃ t₃ vals', s₃ = mkS s h₃ t₃ ∧ St w (compEnv env scope L) G₁ h₁ own₁ (names.zip vals') G₃ h₃ ∧ vals'.length = names.length ∧ G₂.Sub G₃ ∧ Rep G₃ x (dat k)) E0 s₂) E0 (mkS s h₂ t₂))
    (k : ∀ h' G' v t', St w env G₀ h₀ own l G' h' → G.Sub G' → Rep G' v (.list ((List.range n).map dat)) → Q v (mkS s h' t')) :
    wpAny (model pw w) A (newList []) (fun acc s₃ => wpAny (model pw w) A (newFunctionEnv scope env.globals [] [] env.qual none .none (some env)) (fun cenv s₄ =>
      codeAny (model pw w) A (.compStart (.ListComp elt [⟨target, iter, [], 0⟩] scope pos) 0 it acc { cenv with scope := scope }) (fun r s' => ∃ m, s'.heap.Ns cenv.locals m ∧ ∀ h', Heap.SameBut cenv.locals s'.heap h' →
        match r with | .ok _ => Q acc { s' with heap := h' } | .error x => wpAny (model pw w) A (passOn "comprehension.variables-let-go" x { cenv with scope := scope }) Q E { s' with heap := h' }) s₄) E s₃) E (mkS s h t) := by
  refine compTailG (fun acc cenv r s' => ∃ m, s'.heap.Ns cenv.locals m ∧ ∀ h', Heap.SameBut cenv.locals s'.heap h' →
        match r with | .ok _ => Q acc { s' with heap := h' } | .error x => wpAny (model pw w) A (passOn "comprehension.variables-let-go" x { cenv with scope := scope }) Q E { s' with heap := h' }) I hh hz hP S hn hag hok hcell turn fun L acc oC vs nn h' G' t' S' hN g' r' => ?_
  obtain ⟨m, hm⟩ := hN h' (S'.ow _ (.head _)).1
  refine ⟨m, hm, fun h'' hs => ?_⟩
  have Gb := S'.dropAll (part := [_]) (h' := h'') fun b o hb e => (hs.2 b (fun q => hb (by simp [q]; rfl))).trans e
  obtain ⟨Sf, gf⟩ := Gb.freeze .head
  exact k _ _ _ _ Sf (g'.trans gf) (.list Store.put_self rfl rfl (by simpa using r'.mono gf))
end
/-! ## a list's iterator -/
theorem goIter {w : World} {A' : Around} {target : PySem.Expr} {it l : Addr} {k : Nat} {x : Value} {oj : Obj} {Q : Value → Shared → Prop} {s : Shared} {h' : Heap} {t : Nat} (ej : h'.get? it = some oj) (cj : oj.cls = .type "list_iterator") (dj : oj.data = .fields #[.ref l, .int (k : Nat) 0]) (go : Q x (mkS s h' t)) :
    wpAny (model pw w) A' (letOwnedTupleGo target (.ref it) x) (fun _ => Q x) E0 (mkS s h' t) := by
  unfold letOwnedTupleGo
  split
  · cases x with
    | ref a =>
      show wpAny _ _ (load it >>= _) _ _ _
      refine wpAny_bind (wpAny_load (s := mkS s h' t) ej ?_)
      rw [cj, dj]
      dsimp only
      rw [if_neg (by simp)]
      exact wpAny_pure go
    | _ => exact wpAny_pure go
  · cases x with
    | ref a =>
      show wpAny _ _ (load it >>= _) _ _ _
      refine wpAny_bind (wpAny_load (s := mkS s h' t) ej ?_)
      rw [cj, dj]
      dsimp only
      rw [if_neg (by simp)]
      exact wpAny_pure go
    | _ => exact wpAny_pure go
  · exact wpAny_pure go
theorem Iter.listRaw {w : World} {target : PySem.Expr} {it l : Addr} {vs : List Value} {o : Obj} {n : Nat} {Gz : Store}
    (e : Gz l = some o) (c : o.cls = .type "list") (d : ∃ n, o.data = .seq vs.toArray n) (hn : vs.length = n) :
    Iter w target (.ref it) n Gz (fun k p => ∃ oi, p = [(it, oi)] ∧ oi.cls = .type "list_iterator" ∧ oi.data = .fields #[.ref l, .int (k : Nat) 0])
      (fun k _ v => vs[k]? = some v) where
  next {env G₀ h₀ own l' G h A s t k p Q} hk hh hz hp S q := by
    obtain ⟨oi, rfl, ci, di⟩ := hp
    have g := (S.ow _ (List.mem_append_left _ (List.mem_singleton.mpr rfl))).1
    have hl : h.IsList l vs.toArray := ⟨o, S.gin _ _ (hz _ _ e), c, d⟩
    obtain ⟨x, hx⟩ : ∃ x, vs[k]? = some x := ⟨_, List.getElem?_eq_getElem (by lia)⟩
    refine wpAny_pyNext_list_item (s := mkS s h t) ⟨oi, g, ci, di⟩ hl (by simpa using hx) fun h' hi hs => ?_
    obtain ⟨oj, ej, cj, dj⟩ := hi
    have S' := S.upd (own' := (it, oj) :: own) .head hs ej
    have go : Q x (mkS s h' t) := q [(it, oj)] x h' G t ⟨oj, rfl, cj, dj⟩ S' (Store.Sub.refl _) hx
    exact goIter ej cj dj go
  stop {env G₀ h₀ own l' G h A s t p Q} hh hz hp S q := by
    obtain ⟨oi, rfl, ci, di⟩ := hp
    have g := (S.ow _ (List.mem_append_left _ (List.mem_singleton.mpr rfl))).1
    have hl : h.IsList l vs.toArray := ⟨o, S.gin _ _ (hz _ _ e), c, d⟩
    refine wpAny_pyNext_list_end (s := mkS s h t) hh ⟨oi, g, ci, di⟩ hl (by simp; lia) fun h' he => q h' _ (S.dropAll fun b o hb e => he b o (fun z => hb (by simp [z])) e)
theorem Iter.imp {w : World} {target : PySem.Expr} {it : Value} {n : Nat} {Gz : Store} {Part : Nat → List (Addr × Obj) → Prop} {item item' : Nat → Store → Value → Prop} (I : Iter w target it n Gz Part item) (f : ∀ k G v, Gz.Sub G → item k G v → item' k G v) : Iter w target it n Gz Part item' where
  next := fun hk hh hz hp S q => I.next hk hh hz hp S fun p' v h' G' t' a b c d => q p' v h' G' t' a b c (f _ _ _ (hz.trans c) d)
  stop := I.stop
theorem Iter.list {w : World} {target : PySem.Expr} {it l : Addr} {vs : List Value} {ds : List PyData} {o : Obj} {n : Nat} {Gz : Store}
    (e : Gz l = some o) (c : o.cls = .type "list") (d : ∃ n, o.data = .seq vs.toArray n) (r : RepAll Gz vs ds) (hn : ds.length = n) :
    Iter w target (.ref it) n Gz (fun k p => ∃ oi, p = [(it, oi)] ∧ oi.cls = .type "list_iterator" ∧ oi.data = .fields #[.ref l, .int (k : Nat) 0])
      (fun k G v => ∃ d, ds[k]? = some d ∧ Rep G v d) := by
  obtain ⟨m, hm⟩ := d
  subst hn
  rw [← r.length]
  refine Iter.imp (Iter.listRaw (vs := vs) e c ⟨m, hm⟩ rfl) fun k G v g hv => ?_
  have hk : k < ds.length := by rw [← r.length]; exact (List.getElem?_eq_some_iff.mp hv).1
  have hd : ds[k]? = some ds[k] := List.getElem?_eq_getElem hk
  obtain ⟨x, hx, rx⟩ := r.get hd
  rw [hv] at hx
  cases hx
  exact ⟨_, hd, rx.mono g⟩
section
variable {w : World} {env : Env} {G₀ G : Store} {h₀ h : Heap} {own : List (Addr × Obj)} {l : Loc} {A : Around} {E : Value → Shared → Prop} {s : Shared} {t : Nat}
/-- a list met as a loop's source -/
theorem iterS {v : Value} {ds : List PyData} {target : PySem.Expr} {Q : Value → Shared → Prop} (S : St w env G₀ h₀ own l G h) (r : Rep G v (.list ds))
    (k : ∀ h' p it Part, Iter w target it ds.length G Part (fun k G v => ∃ d, ds[k]? = some d ∧ Rep G v d) → Part 0 p → St w env G₀ h₀ (p ++ own) l G h' →
      (∀ {A' : Around} {s : Shared} {Q : Value → Shared → Prop} {h : Heap} {t : Nat} {env' : Env} {G₀' h₀' own' l' G'}, St w env' G₀' h₀' (p ++ own') l' G' h → Q it (mkS s h t) → wpAny (model pw w) A' (pyIter it) Q E0 (mkS s h t)) → Q it (mkS s h' t)) :
    wpAny (model pw w) A (pyIter v) Q E (mkS s h t) := by
  cases r with
  | list e c d q =>
    rename_i a o vs n
    refine wpAny_pyIter_list (s := mkS s h t) ⟨o, S.gin _ _ e, c, n, d⟩ ?_
    have S1 := S.pushOwn { cls := .type "list_iterator", data := .fields #[.ref a, .int 0 0] } rfl
    refine k _ [(h.objs.size, { cls := .type "list_iterator", data := .fields #[.ref a, .int 0 0] })] (.ref h.objs.size) _ (Iter.list (vs := vs.toList) e c ⟨n, by rw [d, Array.toArray_toList]⟩ q rfl) ⟨_, rfl, rfl, rfl⟩ S1 fun S' hq => ?_
    have g := (S'.ow _ (List.mem_append_left _ (List.mem_singleton.mpr rfl))).1
    exact wpAny_pyIter_listiter ⟨_, g, rfl, rfl⟩ hq
end
theorem walksList {w : World} {A : Around} (hh : A.handled = none) (I l : Addr) (hne : l ≠ I) (vs : List Value) :
    Walks pw w A I [I, l] [I] vs.length (fun i v => vs[i]? = some v) (fun i h => h.IsListIter I l i ∧ h.IsList l vs.toArray) where
  sub := fun b hb => by simp at hb; simp [hb]
  frame := fun i h h' ⟨⟨o, e, c, d⟩, ⟨o', e', c', d'⟩⟩ k => ⟨⟨o, k _ (by simp) _ e, c, d⟩, ⟨o', k _ (by simp) _ e', c', d'⟩⟩
  item := fun i s Q E hi ⟨hit, hl⟩ hQ => by
    obtain ⟨v, hv⟩ : ∃ v, vs[i]? = some v := ⟨_, List.getElem?_eq_getElem hi⟩
    refine wpAny_pyNext_list_item hit hl (by simpa using hv) fun h' hi' hs => ?_
    obtain ⟨o', e', c', d'⟩ := hl
    exact hQ v h' s.toks hv ⟨hi', ⟨o', (hs.2 _ hne).trans e', c', d'⟩⟩ fun b o hb e => (hs.2 _ (fun q => hb (by simp [q]))).trans e
  done := fun s Q E ⟨hit, hl⟩ hQ => wpAny_pyNext_list_end hh hit hl (by simp) fun h' he => hQ h' s.toks fun b o hb e => he b o (fun q => hb (by simp [q])) e
  self := fun i s Q E ⟨hit, _⟩ hQ => wpAny_pyIter_listiter hit hQ
noncomputable def sumI (ns : List Int) : Int := preSum (fun i => ns.getD i 0) ns.length
section
variable {w : World} {env : Env} {G₀ G : Store} {h₀ h : Heap} {own : List (Addr × Obj)} {l : Loc} {A : Around} {E : Value → Shared → Prop} {s : Shared} {t : Nat}
theorem sumS {v : Value} {ns : List Int} {Q : Value → Shared → Prop} (S : St w env G₀ h₀ own l G h) (hh : A.handled = none) (r : Rep G v (dInts ns))
    (k : ∀ h' u t', St w env G₀ h₀ own l G h' → Q (.int (sumI ns) u) (mkS s h' t')) : wpAny (model pw w) A (call (.builtin "sum") [v]) Q E (mkS s h t) := by
  cases r with
  | list e c d q =>
    rename_i a o vs n
    have hlen : vs.toList.length = ns.length := by rw [q.length, List.length_map]
    refine call_sum_walkG (s := mkS s h t) (wpAny_pyIter_list (s := mkS s h t) ⟨o, S.gin _ _ e, c, n, d⟩ ?_)
    have hl : (h.push { cls := .type "list_iterator", data := .fields #[.ref a, .int 0 0] }).IsList a vs.toList.toArray := ⟨o, Heap.get?_push_of_some _ (S.gin _ _ e), c, n, by rw [d, Array.toArray_toList]⟩
    refine ⟨h.objs.size, [h.objs.size, a], [h.objs.size], vs.toList.length, _, _, (fun i => ns.getD i 0), rfl, walksList (by exact hh) h.objs.size a (Nat.ne_of_lt (Heap.lt_size (S.gin _ _ e))) vs.toList, ⟨⟨_, Heap.get?_push_size _ rfl, rfl, rfl⟩, hl⟩, ?_, ?_, ?_⟩
    · intro b hb
      have ha := Heap.lt_size (S.gin _ _ e)
      simp only [List.mem_cons, List.not_mem_nil, or_false] at hb
      show b < (h.push _).objs.size
      rw [Heap.size_push]
      rcases hb with q | q <;> rw [q]
      · exact Nat.lt_succ_self _
      · exact Nat.lt_succ_of_lt ha
    · intro i x hx
      have hi : i < ns.length := by rw [← hlen]; exact (List.getElem?_eq_some_iff.mp hx).1
      obtain ⟨y, hy, ry⟩ := q.get (k := i) (d := .int ns[i]) (by rw [List.getElem?_map, List.getElem?_eq_getElem hi]; rfl)
      rw [hx] at hy
      obtain rfl := Option.some.inj hy
      cases ry with
      | int i t => exact ⟨t, by simp [List.getD_eq_getElem?_getD, hi]⟩
    · intro h' tk t' hk
      rw [hlen]
      have S1 := S.pushOwn { cls := .type "list_iterator", data := .fields #[.ref a, .int 0 0] } rfl
      exact k h' t' tk (S1.dropAll (part := [_]) (own := own) fun b o hb e => hk b o (by simpa using hb) e)
theorem itemTmpS {value slice : PySem.Expr} {v : Value} {xs : List PyData} {k : Int} {u : Tok} {d : PyData} {Q : Value → Shared → Prop} (S : St w env G₀ h₀ own l G h) (r : Rep G v (.list xs)) (h0 : 0 ≤ k) (hf : k < 2 ^ 63) (hx : xs[k.toNat]? = some d)
    (kk : ∀ x, Rep G x d → Q x (mkS s h t))
    (hs : ∀ a, subscripted slice false (.ref a) (.int k u) = operate [.ref a, .int k u] (getItem (.ref a) (.int k u)) := by intro _; with_unfolding_all rfl) :
    wpAny (model pw w) A (subscriptTail value slice v (.int k u)) Q E (mkS s h t) := by
  obtain ⟨a, vs, rfl, la, ra⟩ := r.isList S.gin
  obtain ⟨x, hx', rx⟩ := ra.get hx
  have hT := Heap.IsList.typeIs (s := mkS s h t) la
  unfold subscriptTail
  refine wpAny_bind ?_
  rw [getitemInPython_of_ne hT.not_modules]
  refine wpAny_bind (wpAny_specialOf hT list_getitem_lookup ?_)
  have fin : wpAny (model pw w) A (subscripted slice false (.ref a) (.int k u)) (fun r s₃ => wpAny (model pw w) A (letTemporaryGo value (.ref a) r >>= fun _ => pure r) Q E s₃) E (mkS s h t) := by
    rw [hs]
    exact wpAny_operating (wpAny_getItem_list la h0 hf (by simpa using hx') (wpAny_bind (wpAny_letTemporaryGo (wpAny_pure (kk x rx)))))
  first
    | exact wpAny_pure (wpAny_bind fin)
    | exact wpAny_bind (wpAny_pure (wpAny_bind fin))
    | exact wpAny_bind fin
end
section
variable {w : World} {env : Env} {G₀ G : Store} {h₀ h : Heap} {own : List (Addr × Obj)} {l : Loc} {A : Around} {E : Value → Shared → Prop} {s : Shared} {t : Nat}
/-- an item of an own list -/
theorem itemOwn {value slice : PySem.Expr} {a : Addr} {vs : List Value} {n : Nat} {xs : List PyData} {k : Int} {u : Tok} {d : PyData} {Q : Value → Shared → Prop} (S : St w env G₀ h₀ own l G h) (ho : (a, lstO vs n) ∈ own) (ra : RepAll G vs xs) (h0 : 0 ≤ k) (hf : k < 2 ^ 63) (hx : xs[k.toNat]? = some d)
    (kk : ∀ x, Rep G x d → Q x (mkS s h t))
    (hs : ∀ a, subscripted slice false (.ref a) (.int k u) = operate [.ref a, .int k u] (getItem (.ref a) (.int k u)) := by intro _; with_unfolding_all rfl) (hg : ∀ a r, letTemporaryGo value (.ref a) r = pure () := by intro _ _; with_unfolding_all rfl) :
    wpAny (model pw w) A (subscriptTail value slice (.ref a) (.int k u)) Q E (mkS s h t) := by
  obtain ⟨x, hx', rx⟩ := ra.get hx
  exact item_list (s := mkS s h t) (⟨_, (S.ow _ ho).1, rfl, n, rfl⟩ : h.IsList a vs.toArray) h0 hf (by simpa using hx') (kk x rx) (hs a) (hg a)
/-- a tuple of own objects, taken apart at once -/
theorem tupUnpack {items : List Value} {Q : List Value → Shared → Prop} (S : St w env G₀ h₀ own l G h) (hh : A.handled = none) {m : Nat} (hm : m = items.length)
    (k : ∀ h', St w env G₀ h₀ own l G h' → Q items (mkS s h' t)) (hz : items.length ≤ sizeLine := by size_fits) :
    wpAny (model pw w) A (newTuple items) (fun v s₁ => wpAny (model pw w) A (unpackItems v m none) Q E s₁) E (mkS s h t) := by
  subst hm
  refine wpAny_newTuple (s := mkS s h t) ?_ hz
  have S1 := S.ext (h' := h.push (tupO items)) fun b o e => Heap.get?_push_of_some _ e
  have it : IsTup (h.push (tupO items)) h.objs.size items.toArray := ⟨_, Heap.get?_push_size _ rfl, rfl, 0, rfl⟩
  have := unpackItems_tuple (s := mkS s (h.push (tupO items)) t) (E := E) (prog := pw) (w := w) (A := A) (Q := Q) hh it fun h' he => by
    rw [show items.toArray.toList = items from rfl]
    exact k h' (S1.ext fun b o q => he b o (Nat.ne_of_lt (Heap.lt_size q)) q)
  simpa using this
/-- a name given its own object -/
theorem bindS {x : Str} {v : Value} {Q : Unit → Shared → Prop} {l' : Loc} (S : St w env G₀ h₀ own l G h) (hx : SetTo l x v l')
    (k : ∀ h' t', St w env G₀ h₀ own l' G h' → Q () (mkS s h' t')) : wpAny (model pw w) A (bindName env x v) Q E (mkS s h t) :=
  bindName_ (stS S hx k)
theorem RepAll.intI {G : Store} {P : List Value → List Int → Prop} (h0 : P [] []) (h1 : ∀ {vs ns} n t, P vs ns → P (.int n t :: vs) (n :: ns)) {vs : List Value} {ns : List Int} (r : RepAll G vs (ns.map .int)) : P vs ns := by
  induction ns generalizing vs with
  | nil => cases r; exact h0
  | cons n ns ih => cases r with | cons a b => cases a; exact h1 _ _ (ih b)
theorem RepAll.ints {G : Store} {vs : List Value} {ns : List Int} (r : RepAll G vs (ns.map .int)) : IntsAre vs ns := r.intI .nil fun n t e => .cons n t e
theorem IntsAre.rep {G : Store} {vs : List Value} {ns : List Int} (r : IntsAre vs ns) : RepAll G vs (ns.map .int) := by
  induction r with
  | nil => exact .nil
  | cons n t r ih => exact .cons (.int n t) ih
theorem pickNums_le (ns : List Int) (lo hi st : Option Int) : (pickNums ns lo hi st).length ≤ ns.length := by
  have : ∀ ns : List Int, IntsAre (ns.map fun n => Value.int n 0) ns := fun ns => by
    induction ns with
    | nil => exact .nil
    | cons n ns ih => exact .cons n 0 ih
  exact length_pickNums_le (this ns) lo hi st
/-- a slice with a step written out -/
theorem slice3S {value slice : PySem.Expr} {v vl vu vk : Value} {lo hi st : Option Int} {ds es : List PyData} {Q : Value → Shared → Prop} (S : St w env G₀ h₀ own l G h) (r : Rep G v (.list ds))
    (pl : IsPart vl lo) (pu : IsPart vu hi) (pk : IsPart vk st) (h0 : st ≠ some 0) (hz : ds.length ≤ sizeLine)
    (hp : ∀ vs : List Value, RepAll G vs ds → RepAll G (slicePick vs.toArray lo hi st).toList es)
    (k : ∀ h' G' x, St w env G₀ h₀ own l G' h' → G.Sub G' → Rep G' x (.list es) → Q x (mkS s h' t))
    (hs : ∀ a b, subscripted slice false (.ref a) (.ref b) = operate [.ref a, .ref b] (getItem (.ref a) (.ref b)) := by intro _ _; with_unfolding_all rfl)
    (ht : ∀ a r, letTemporaryGo value (.ref a) r = pure () := by intro _ _; with_unfolding_all rfl) :
    wpAny (model pw w) A (subscriptTail value slice v (.ref h.objs.size)) Q E (mkS s (h.push { cls := .type "slice", data := .fields #[vl, vu, vk] }) t) := by
  obtain ⟨a, vs, rfl, la, ra⟩ := r.isList S.gin
  refine subscriptTail_ops (s := mkS s (h.push { cls := .type "slice", data := .fields #[vl, vu, vk] }) t) (Heap.IsList.typeIs (s := mkS s (h.push { cls := .type "slice", data := .fields #[vl, vu, vk] }) t) (la.push _)) list_getitem_lookup
    (wpAny_getItem_list_slice (s := mkS s (h.push { cls := .type "slice", data := .fields #[vl, vu, vk] }) t) (la.push _) (Heap.IsSliceOf.new ..) pl pu pk h0 ?_ (by simpa [ra.length] using hz)) (hs _ _) (ht _)
  have S1 := S.ext (h' := h.push { cls := .type "slice", data := .fields #[vl, vu, vk] }) fun b o e => Heap.get?_push_of_some _ e
  obtain ⟨S2, g2⟩ := S1.push { cls := .type "list", data := .seq (slicePick vs.toArray lo hi st) } rfl
  exact k _ _ _ S2 g2 (.list Store.put_self rfl rfl ((hp vs ra).mono g2))
end
/-- an exception object, by its parts; a traceback entry, by its flight -/
noncomputable def IsExc (cls : String) (tb ctx : Value) (o : Obj) : Prop := ∃ t, o.cls = .type cls ∧ o.data = .fields #[t, tb, ctx, .none, .bool false, .none]
noncomputable def IsTb (fl : Value) (o : Obj) : Prop := ∃ ts, o.data = .fields ts ∧ ts[3]? = some fl
section
variable {w : World} {env : Env} {G₀ G : Store} {h₀ h h' : Heap} {own mid : List (Addr × Obj)} {l : Loc} {A : Around} {E : Value → Shared → Prop} {s : Shared} {t : Nat}
theorem St.unused {a : Addr} (S : St w env G₀ h₀ own l G h) (hn : h.get? a = none) : a ≠ env.locals ∧ h₀.get? a = none ∧ G a = none ∧ a ∉ own.map (·.1) := by
  refine ⟨?_, ?_, ?_, ?_⟩
  · rintro rfl; obtain ⟨oL, _, _, e, _⟩ := S.fr.ns; rw [hn] at e; cases e
  · cases q : h₀.get? a with
    | none => rfl
    | some x => have := S.fr.keep _ _ q; rw [hn] at this; cases this
  · cases q : G a with
    | none => rfl
    | some x => have := S.gin _ _ q; rw [hn] at this; cases this
  · intro q
    obtain ⟨p, hp, rfl⟩ := List.mem_map.mp q
    have := (S.ow p hp).1; rw [hn] at this; cases this
/-- a new own object, all else kept -/
theorem St.gain {a : Addr} {o : Obj} (S : St w env G₀ h₀ own l G h) (he : ∀ b x, h.get? b = some x → h'.get? b = some x) (hn : h.get? a = none) (e : h'.get? a = some o) : St w env G₀ h₀ ((a, o) :: own) l G h' := by
  have U := S.unused hn
  have S' := S.ext he
  refine { S' with ow := fun p hp => ?_, ond := ?_ }
  · rcases List.mem_cons.mp hp with rfl | q
    · exact ⟨e, U.1, U.2.1, U.2.2.1⟩
    · exact S'.ow p q
  · rw [List.map_cons, List.nodup_cons]; exact ⟨U.2.2.2, S.ond⟩
theorem St.slotsOnly {Lc : Addr} {oc : Obj} (S : St w env G₀ h₀ (mid ++ [(Lc, oc)]) l G h) (hs : Heap.SlotsOnly [env.locals, Lc] h h') :
    ∃ sl, St w env G₀ h₀ (mid ++ [(Lc, { oc with slots := sl })]) l G h' := by
  have D := S.ow (Lc, oc) (List.mem_append_right _ (List.mem_singleton.mpr rfl))
  obtain ⟨oL, es, ep, eL, r⟩ := S.fr.ns
  obtain ⟨s1, e1⟩ := hs.2.2 _ _ eL
  obtain ⟨s2, e2⟩ := hs.2.2 _ _ D.1
  have hL0 : h₀.get? env.locals = none := Heap.get?_none_of_le S.fr.above
  have keep : ∀ b, b ≠ env.locals → b ≠ Lc → h'.get? b = h.get? b := fun b x y => hs.2.1 b (by simp [x, y])
  have hn := S.ond
  rw [List.map_append, List.nodup_append] at hn
  refine ⟨s2, { bs := S.bs, kind := S.kind, glo := S.glo, blt := S.blt, fr := ⟨⟨_, es, ep, e1, r⟩, fun b o e => ?_, S.fr.above⟩, nd := S.nd, lc := S.lc, gin := fun b o e => ?_, gsub := S.gsub, gnew := S.gnew, gL := S.gL, ow := fun p hp => ?_, ond := ?_ }⟩
  · rw [keep b (fun q => by subst q; rw [hL0] at e; cases e) (fun q => by subst q; rw [D.2.2.1] at e; cases e)]; exact S.fr.keep b o e
  · rw [keep b (fun q => by subst q; rw [S.gL] at e; cases e) (fun q => by subst q; rw [D.2.2.2] at e; cases e)]; exact S.gin b o e
  · rcases List.mem_append.mp hp with q | q
    · have D' := S.ow p (List.mem_append_left _ q)
      refine ⟨(keep _ D'.2.1 fun z => ?_).trans D'.1, D'.2⟩
      exact hn.2.2 _ (List.mem_map_of_mem (f := (·.1)) q) Lc (by simp) z
    · obtain rfl := List.mem_singleton.mp q
      exact ⟨e2, D.2⟩
  · rw [List.map_append, List.nodup_append]; exact ⟨hn.1, by simp, fun a ha b hb => hn.2.2 a ha b (by simpa using hb)⟩
end
section
variable {w : World} {env envc : Env} {G₀ G : Store} {h₀ h h' : Heap} {own mid : List (Addr × Obj)} {l : Loc} {A : Around} {E : Value → Shared → Prop} {s : Shared} {t : Nat} {e T Lc : Addr} {oe oT oc : Obj} {cls : String} {ctx fl tb : Value}
theorem noteFirst {Q : Unit → Shared → Prop} (S : St w env G₀ h₀ ((e, oe) :: (mid ++ [(Lc, oc)])) l G h) (hx : IsExc cls .none ctx oe) (hfr : A.frames = some [env, envc]) (hf : env.frame = some env.locals) (hfc : envc.frame = some Lc) (hkc : envc.scope.kind ≠ .module) (hoc : ∀ vs, oc.data ≠ .fields vs)
    (k : ∀ h' T oe' oT sl, St w env G₀ h₀ ((T, oT) :: (e, oe') :: (mid ++ [(Lc, { oc with slots := sl })])) l G h' → IsExc cls (.ref T) ctx oe' → IsTb (rawInt env.locals) oT → Q () (mkS s h' t)) :
    wpAny (model pw w) A (noteFrame (.ref e) env) Q E (mkS s h t) := by
  obtain ⟨x, hc, hd⟩ := hx
  have D := S.ow (e, oe) (.head _)
  have Dc := S.ow (Lc, oc) (.tail _ (List.mem_append_right _ (List.mem_singleton.mpr rfl)))
  obtain ⟨oL, es, ep, eL, dL, r⟩ := id S.fr.ns
  have hl : h.FunFrames h₀ [env, envc] := ⟨by rw [S.kind]; decide, ⟨env.locals, oL, hf, Heap.get?_none_of_le S.fr.above, eL, fun vs q => by rw [dL] at q; cases q⟩, hkc, ⟨Lc, oc, hfc, Dc.2.2.1, Dc.1, hoc⟩, trivial⟩
  unfold noteFrame
  simp only [hf]
  refine wpAny_bind (wpAny_field (s := mkS s h t) (x := .none) D.1 hd rfl ?_)
  rw [if_neg (by decide)]
  refine wpAny_bind (wpAny_frameOf_fun (s := mkS s h t) hfr hl hf fun h₁ hs₁ => ?_)
  have hs : Heap.SlotsOnly [env.locals, Lc] h h₁ := by simpa [List.filterMap_cons, hf, hfc] using hs₁
  obtain ⟨sl, S1⟩ := St.slotsOnly (mid := (e, oe) :: mid) S hs
  refine wpAny_bind (wpAny_entryPlaceOf fun pl hpl => ?_)
  unfold EntryCells.newEntry newFields
  refine wpAny_bind (wpAny_newObj_type ?_ (hpl.sizeOk5 _ _ _ _ _))
  have S2 := S1.pushOwn { cls := .type "traceback", dict := none, data := .fields ([Value.none, .ref env.locals, .none, rawInt env.locals, .none] ++ (if pl.isEmpty then List.replicate 6 Value.none else pl)).toArray } rfl
  have D2 := (S2.ow (e, oe) (.tail _ (.head _))).1
  refine wpAny_setField (s := mkS s _ t) D2 hd (by show 1 < 6; decide) ?_
  have hd3 := Obj.data_mapFields hd (·.setIfInBounds 1 (Value.ref h₁.objs.size))
  refine k _ h₁.objs.size _ _ sl (S2.upd (.tail .head) (Heap.SameBut.update ..) (Heap.get?_update_self _ D2 (Obj.isFreed_of_fields hd3))) ⟨x, (Obj.cls_mapFields _ _).trans hc, hd3⟩ ⟨_, rfl, ?_⟩
  simp
theorem noteAgain {Q : Unit → Shared → Prop} (S : St w env G₀ h₀ own l G h) (he : (e, oe) ∈ own) (hT : (T, oT) ∈ own) (hx : IsExc cls (.ref T) ctx oe) (ht : IsTb (rawInt env.locals) oT) (hf : env.frame = some env.locals)
    (k : Q () (mkS s h t)) : wpAny (model pw w) A (noteFrame (.ref e) env) Q E (mkS s h t) := by
  obtain ⟨x, hc, hd⟩ := hx
  obtain ⟨ts, hdT, h3⟩ := ht
  unfold noteFrame
  simp only [hf]
  refine wpAny_bind (wpAny_field (s := mkS s h t) (x := .ref T) (S.ow _ he).1 hd rfl ?_)
  rw [if_pos (show (Value.ref T != Value.none) = true from by simp)]
  refine wpAny_bind (wpAny_field (s := mkS s h t) (S.ow _ hT).1 hdT h3 ?_)
  rw [if_pos (show (rawInt env.locals == rawInt env.locals) = true from by simp)]
  exact wpAny_pure k
theorem flightS {own' : Obj → List (Addr × Obj)} {f : Option Addr} {Q : Unit → Shared → Prop} (S : St w env G₀ h₀ own l G h) (he : (e, oe) ∈ own) (ho : ∀ o', OwnTo own T oT o' (own' o')) (hx : IsExc cls (.ref T) ctx oe) (ht : IsTb fl oT)
    (k : ∀ h' oT', St w env G₀ h₀ (own' oT') l G h' → IsTb (f.elim Value.none fun f => rawInt f) oT' → Q () (mkS s h' t)) : wpAny (model pw w) A (setFlight (.ref e) f) Q E (mkS s h t) := by
  obtain ⟨x, hc, hd⟩ := hx
  obtain ⟨ts, hdT, h3⟩ := ht
  have hsz3 : 3 < ts.size := (Array.getElem?_eq_some_iff.mp h3).1
  unfold setFlight
  refine wpAny_bind (wpAny_field (s := mkS s h t) (x := .ref T) (S.ow _ he).1 hd rfl ?_)
  rw [if_pos (show (Value.ref T != Value.none) = true from by simp)]
  have DT := (S.ow _ (ho oT).mem).1
  have hd3 := Obj.data_mapFields hdT (·.setIfInBounds 3 (f.elim Value.none fun f => rawInt f))
  refine wpAny_setField (s := mkS s h t) DT hdT hsz3 (k _ _ (S.upd (ho _) (Heap.SameBut.update ..) (Heap.get?_update_self _ DT (Obj.isFreed_of_fields hd3))) ⟨_, hd3, by simp [hsz3]⟩)
theorem camebackS {own' : Obj → List (Addr × Obj)} (S : St w env G₀ h₀ own l G h) (he : (e, oe) ∈ own) (ho : ∀ o', OwnTo own T oT o' (own' o')) (hx : IsExc cls (.ref T) ctx oe) (ht : IsTb fl oT) (hf : env.frame = some env.locals)
    (k : ∀ h' oT', St w env G₀ h₀ (own' oT') l G h' → IsTb (rawInt env.locals) oT' → E (.ref e) (mkS s h' t)) : cameBackBy (model pw w) A env E (.ref e) (mkS s h t) := by
  obtain ⟨x, hc, hd⟩ := id hx
  unfold cameBackBy
  refine wpAny_bind (wpAny_field (s := mkS s h t) (x := .ref T) (S.ow _ he).1 hd rfl ?_)
  rw [if_neg (show ¬ ((Value.ref T == Value.none) = true) from by simp), hf]
  exact flightS S he ho hx ht k
end
section
variable {w : World} {A : Around} {env : Env} {s : Shared} {R : Result → Shared → Prop}
theorem while_turnE {test : PySem.Expr} {body : List Stmt}
    (h : wpAny (model pw w) A (isTrue test env (eval test env)) (qTest (model pw w) A (notedBy (model pw w) A env fun e s' => R (.error e) s') env body (qAfter R) (qLoop R (qWh (model pw w) A env test body R))) (notedBy (model pw w) A env fun e s' => R (.error e) s') s) : codeAny (model pw w) A (.whileLoop test body [] env) R s := by
  refine codeAny_of_tree ?_
  show wpAny _ A ((whileTurn test body [] env).onRaise (fun x => do noteFrame x env; theTreesLotGoes x)) _ _ s
  refine wpAny_noted ?_
  simp only [whileTurn]
  refine wpAny_bind (wpAny_mono h (fun b s₂ h₂ => ?_) fun _ _ h' => h')
  cases b with
  | false =>
    simp only [Bool.false_eq_true, if_false] at h₂ ⊢
    exact wpAny_bind (wpAny_execs_nil (wpAny_pure h₂))
  | true =>
    simp only [if_true] at h₂ ⊢
    refine wpAny_bind (wpAny_mono h₂ (fun f s₃ h₃ => ?_) fun _ _ h' => h')
    cases f with
    | next => exact wpAny_pure ⟨rfl, h₃⟩
    | cont => exact wpAny_pure ⟨rfl, h₃⟩
    | brk => exact wpAny_pure h₃
    | ret v => exact wpAny_pure h₃
theorem while_E {test : PySem.Expr} {body : List Stmt} {pos : Pos} {Q : Flow → Shared → Prop} {E : Value → Shared → Prop}
    (h : codeAny (model pw w) A (.whileLoop test body [] env) (fun r s' => match r with | .ok f => Q f s' | .error e => cameBackBy (model pw w) A env E e s') s) :
    wpAny (model pw w) A (exec (.While test body [] pos) env) Q E s :=
  wpAny_While h
end
section
variable {w : World} {env envc : Env} {G₀ G : Store} {h₀ h h' : Heap} {own mid : List (Addr × Obj)} {l : Loc} {A : Around} {E : Value → Shared → Prop} {s : Shared} {t : Nat} {e T Lc : Addr} {oe oT oc : Obj} {cls : String} {ctx fl tb : Value}
theorem entry_unchain : entryFor table "proto.unchain" = some Builtin.«proto.unchain» := entryFor_of_fast (by kernel_rfl)
/-- raising with nothing handled, or while another is handled -/
theorem raiseS {α : Type} {Q : α → Shared → Prop} {ex : Addr} {ox : Obj} {cls' : String} {tb' : Value} (S : St w env G₀ h₀ ((e, oe) :: own) l G h) (hx : IsExc cls .none .none oe)
    (hh : A.handled = none ∨ (A.handled = some (.ref ex) ∧ (ex, ox) ∈ own ∧ IsExc cls' tb' .none ox))
    (k : ∀ h' ctx oe', St w env G₀ h₀ ((e, oe') :: own) l G h' → IsExc cls .none ctx oe' → E (.ref e) (mkS s h' t)) : wpAny (model pw w) A (raiseNew (.ref e) : Sem α) Q E (mkS s h t) := by
  obtain ⟨x, hc, hd⟩ := id hx
  rcases hh with hh | ⟨hh, hm, x', hc', hd'⟩
  · exact wpAny_raiseNew_none hh (k h _ oe S hx)
  · unfold raiseNew
    refine wpAny_bind (wpAny_handled ?_)
    rw [hh]
    have hne : ex ≠ e := by
      have := S.ond
      rw [List.map_cons, List.nodup_cons] at this
      rintro rfl
      exact this.1 (List.mem_map_of_mem (f := (·.1)) hm)
    dsimp only
    rw [if_pos (show (Value.ref ex != Value.ref e) = true by simp [hne])]
    refine wpAny_bind (wpAny_holding (wpAny_runValue (codeAny_builtin entry_unchain ?_)))
    unfold Builtin.«proto.unchain»
    refine wpAny_bind (wpAny_field (s := mkS s h t) (x := .none) (S.ow _ (.tail _ hm)).1 hd' rfl ?_)
    rw [if_pos (by decide)]
    refine wpAny_bind (wpAny_pure (wpAny_pure ?_))
    have D := (S.ow _ (.head _)).1
    have hd3 := Obj.data_mapFields hd (·.setIfInBounds 2 (Value.ref ex))
    unfold updateField
    refine wpAny_bind (wpAny_bind (wpAny_load (s := mkS s h t) D ?_))
    rw [hd]
    dsimp only
    rw [if_pos (by show 2 < 6; decide)]
    refine wpAny_update (s := mkS s h t) D (wpAny_throw ?_)
    exact k _ (.ref ex) _ (S.upd .head (Heap.SameBut.update ..) (Heap.get?_update_self _ D (Obj.isFreed_of_fields hd3))) ⟨x, (Obj.cls_mapFields _ _).trans hc, hd3⟩
end
section
variable {w : World} {env envc : Env} {G₀ G : Store} {h₀ h h' : Heap} {own mid : List (Addr × Obj)} {l : Loc} {A : Around} {E : Value → Shared → Prop} {s : Shared} {t : Nat} {e T Lc : Addr} {oe oT oc : Obj} {cls : String} {ctx fl tb : Value}
/-- what is handled: nothing, or an own exception without a context -/
noncomputable def Handles (A : Around) (own : List (Addr × Obj)) : Prop := A.handled = none ∨ ∃ ex ox cls tb, A.handled = some (.ref ex) ∧ (ex, ox) ∈ own ∧ IsExc cls tb .none ox
theorem raiseWordsS {α : Type} {msg : String} {Q : α → Shared → Prop} (S : St w env G₀ h₀ own l G h) (hp : PlainExc cls) (hh : Handles A own)
    (k : ∀ h' t' e ctx oe, St w env G₀ h₀ ((e, oe) :: own) l G h' → IsExc cls .none ctx oe → E (.ref e) (mkS s h' t')) : wpAny (model pw w) A (raiseErrorWords cls msg : Sem α) Q E (mkS s h t) := by
  unfold raiseErrorWords
  refine wpAny_bind (wpAny_mkText (wpAny_bind ?_))
  refine wpAny_newExc_plain (s := mkS s h (t + 1)) hp fun h' e hm => ?_
  obtain ⟨x, hx, _, _⟩ := hm.there
  have S' := S.gain hm.keeps hm.new hx
  rcases hh with q | ⟨ex, ox, c, tb, q, m, i⟩
  · exact raiseS (s := s) (t := t + 1) (ex := 0) (ox := { cls := .type cls }) (cls' := cls) (tb' := .none) S' ⟨_, rfl, rfl⟩ (.inl q) fun h'' ctx oe' S'' q => k _ _ _ _ _ S'' q
  · exact raiseS (s := s) (t := t + 1) S' ⟨_, rfl, rfl⟩ (.inr ⟨q, m, i⟩) fun h'' ctx oe' S'' q => k _ _ _ _ _ S'' q
/-- an index past a list's end -/
theorem getOutS {v : Value} {ds : List PyData} {j : Nat} {u : Tok} {Q : Value → Shared → Prop} (S : St w env G₀ h₀ own l G h) (r : Rep G v (.list ds)) (hj : ds.length ≤ j) (hhi : (j : Int) < 2 ^ 63) (hh : Handles A own)
    (k : ∀ h' t' e ctx oe, St w env G₀ h₀ ((e, oe) :: own) l G h' → IsExc "IndexError" .none ctx oe → E (.ref e) (mkS s h' t')) : wpAny (model pw w) A (getItem v (.int (Int.ofNat j) u)) Q E (mkS s h t) := by
  obtain ⟨a, vs, rfl, hl, ra⟩ := r.isList S.gin
  exact MineP.mine_getOut (s := mkS s h t) hl (by have := ra.length; simp; lia) rfl hhi (raiseWordsS S plainExc_IndexError (by exact hh) k)
end
section
variable {w : World} {env envc : Env} {G₀ : Store} {h₀ : Heap} {A : Around} {E : Value → Shared → Prop} {s : Shared} {Lc : Addr} {oc : Obj} {cls : String}
/-- an exception on its way through this frame: fresh, or noted here -/
inductive Thrown (w : World) (env : Env) (G₀ : Store) (h₀ : Heap) (s : Shared) (Lc : Addr) (oc : Obj) (cls : String) (P : Loc → Store → List (Addr × Obj) → Prop) : Value → Shared → Prop
  | raw {e oe ctx mid sl l G h t} : St w env G₀ h₀ ((e, oe) :: (mid ++ [(Lc, { oc with slots := sl })])) l G h → IsExc cls .none ctx oe → P l G mid → Thrown w env G₀ h₀ s Lc oc cls P (.ref e) (mkS s h t)
  | noted {e oe ctx T oT mid sl l G h t} : St w env G₀ h₀ ((T, oT) :: (e, oe) :: (mid ++ [(Lc, { oc with slots := sl })])) l G h → IsExc cls (.ref T) ctx oe → IsTb (rawInt env.locals) oT → P l G mid → Thrown w env G₀ h₀ s Lc oc cls P (.ref e) (mkS s h t)
variable {P : Loc → Store → List (Addr × Obj) → Prop}
/-- noted here -/
theorem Thrown.note {v : Value} {s' : Shared} (X : Thrown w env G₀ h₀ s Lc oc cls P v s') (hfr : A.frames = some [env, envc]) (hf : env.frame = some env.locals) (hfc : envc.frame = some Lc) (hkc : envc.scope.kind ≠ .module) (hoc : ∀ vs, oc.data ≠ .fields vs)
    {Q : Unit → Shared → Prop} (k : ∀ {e oe ctx T oT mid sl l G h t}, v = .ref e → St w env G₀ h₀ ((T, oT) :: (e, oe) :: (mid ++ [(Lc, { oc with slots := sl })])) l G h → IsExc cls (.ref T) ctx oe → IsTb (rawInt env.locals) oT → P l G mid → Q () (mkS s h t)) :
    wpAny (model pw w) A (noteFrame v env) Q E s' := by
  cases X with
  | raw S hx hp => exact noteFirst S hx hfr hf hfc hkc hoc fun h' T oe' oT sl S' i j => k rfl S' i j hp
  | noted S hx ht hp => exact noteAgain S (.tail _ (.head _)) (.head _) hx ht hf (k rfl S hx ht hp)
theorem Thrown.noted_ {v : Value} {s' : Shared} (X : Thrown w env G₀ h₀ s Lc oc cls P v s') (hfr : A.frames = some [env, envc]) (hf : env.frame = some env.locals) (hfc : envc.frame = some Lc) (hkc : envc.scope.kind ≠ .module) (hoc : ∀ vs, oc.data ≠ .fields vs)
    {R : Value → Shared → Prop} (k : ∀ v s', Thrown w env G₀ h₀ s Lc oc cls P v s' → R v s') : notedBy (model pw w) A env R v s' :=
  X.note hfr hf hfc hkc hoc fun e S i j p => e ▸ k _ _ (.noted S i j p)
end
section
variable {w : World} {env envc : Env} {G₀ : Store} {h₀ : Heap} {A : Around} {E : Value → Shared → Prop} {s : Shared} {Lc : Addr} {oc : Obj} {P : Loc → Store → List (Addr × Obj) → Prop}
/-- try: body; except X: suite -- a suite that raises nothing -/
theorem tryS {cls : String} {body suite : List Stmt} {b₀ : Stmt} {x : Str} {np hpos pos : Pos} {Q : Flow → Shared → Prop} {s' : Shared} (hfr : A.frames = some [env, envc]) (hf : env.frame = some env.locals) (hfc : envc.frame = some Lc) (hkc : envc.scope.kind ≠ .module) (hoc : ∀ vs, oc.data ≠ .fields vs)
    (hnz : ∀ P, nsIn (K P) mainGlobals x = some none) (hbb : bootBuiltins x = some (.type cls))
    (hexc : isSubtype (.type cls) (.type "BaseException") = pure true) (hnt : isSubtype (.type ((Manifest.find? cls).elim "type" fun x => x.metatype)) (.type "tuple") = pure false) (hsub : isSubtype (.type cls) (.type cls) = pure true)
    (hb : wpAny (model pw w) A (execs body env) Q (Thrown w env G₀ h₀ s Lc oc cls P) s')
    (hs : ∀ {e oe ctx T oT mid sl l G h t}, St w env G₀ h₀ ((T, oT) :: (e, oe) :: (mid ++ [(Lc, { oc with slots := sl })])) l G h → IsExc cls (.ref T) ctx oe → P l G mid →
      wpAny (model pw w) (A.mark (some (.ref e))) (execs (b₀ :: suite) env) Q E0 (mkS s h t))
    (hx : env.kindOf x = some .globalImplicit := by kernel_rfl!) (hn : x ≠ "__name__" := by decide +kernel) (hd : (x == ("__debug__" : Str)) = false := by decide +kernel) :
    wpAny (model pw w) A (exec (.Try body [.ExceptHandler (some (.Name x np)) none (b₀ :: suite) hpos] [] [] pos) env) Q E s' := by
  refine wpAny_Try_except (wpAny_mono hb (fun f s₁ h₁ => ?_) fun v s₁ X => ?_)
  · cases f with
    | next => exact wpAny_execs_nil h₁
    | _ => exact h₁
  · refine X.note hfr hf hfc hkc hoc fun {e oe ctx T oT mid sl l G h t} ev S i j p => ?_
    subst ev
    refine flightS (own' := fun o' => (T, o') :: (e, oe) :: (mid ++ [(Lc, { oc with slots := sl })])) S (.tail _ (.head _)) (fun _ => .head) i j fun h' oT' S' j' => ?_
    refine wpAny_handleBy_builtin (X := cls) (T := cls) (b := true) hexc hnt hsub (biS S' hnz hbb ⟨rfl, ?_, ?_⟩ hx hn hd)
    · obtain ⟨y, hc, hdt⟩ := id i
      exact ⟨oe, (S'.ow _ (.tail _ (.head _))).1, hc⟩
    · rw [if_pos rfl]
      refine flightS (own' := fun o' => (T, o') :: (e, oe) :: (mid ++ [(Lc, { oc with slots := sl })])) S' (.tail _ (.head _)) (fun _ => .head) i j' fun h'' oT'' S'' j'' => ?_
      exact wpAny_mono (hs S'' i p) (fun _ _ q => q) fun _ _ q => q.elim
end
theorem bind_loc {names : List Str} {binds : List (Str × Value)} {l₁ : Loc} {P : Str → Prop} (hB : BindTo (names.map fun n => (n, none)) binds l₁) (hl : ∀ n ∈ names, P n) : ∀ y ∈ binds, P y.1 := by
  have key : ∀ {l0 : Loc} {binds : List (Str × Value)} {l₁ : Loc}, BindTo l0 binds l₁ → ∀ y ∈ binds, y.1 ∈ l0.map (·.1) := by
    intro l0 binds l₁ hB
    induction hB with
    | nil => intro y hy; cases hy
    | cons h b ih =>
      intro y hy
      rcases List.mem_cons.mp hy with rfl | hy
      · exact h.mem
      · rw [← h.names]; exact ih y hy
  intro y hy
  have := key hB y hy
  rw [List.map_map] at this
  obtain ⟨n, hn, e⟩ := List.mem_map.mp this
  exact e ▸ hl n hn
section
variable {w : World} {env : Env} {G₀ G : Store} {h₀ h : Heap} {own new : List (Addr × Obj)} {l : Loc} {A : Around} {E : Value → Shared → Prop} {s : Shared} {t : Nat}
/-- a call of a def to which own objects are handed -/
theorem code_off {f : Addr} {fd : FuncData} {body : List Stmt} {args : Args} {binds : List (Str × Value)} {names : List Str} {l₁ : Loc} {R : Result → Shared → Prop}
    (S : St w env G₀ h₀ (new ++ own) l G h) (hK : ∀ P, (K P).lookup f = some ⟨.type "function", none, .func fd, #[]⟩) (hcd : ∀ P, codeIn (K P) fd.code fd.qualname = true)
    (hbody : fd.body = .stmts body) (hbind : BindsTo (mkS s h t) fd args binds) (hB : BindTo (names.map fun n => (n, none)) binds l₁)
    (hok : ((names.all fun n => decide (fd.scope.names.lookup n = some .local)) && decide names.Nodup && (fd.scope.names.all fun x => decide (x.2 ≠ .cell)) && decide (fd.scope.kind = .function) && decide (fd.globals = mainGlobals) && decide (fd.builtins = builtinsNs) && (!fd.scope.isCoroutine) && (!fd.scope.isGenerator)) = true)
    (hroom : A.depth < recursionLimit)
    (k : ∀ h₁ t₁, St w (callEnv fd h.objs.size f) G (offH h new) new l₁ G h₁ →
      wpAny (model pw w) (A.deeper (callEnv fd h.objs.size f)) (execs body (callEnv fd h.objs.size f)) (fun fl s' => R (.ok (.ret (retV fl))) s') E0 (mkS s h₁ t₁)) :
    codeAny (model pw w) A (.call (.ref f) args) R (mkS s h t) := by
  simp only [Bool.and_eq_true, decide_eq_true_eq, List.all_eq_true, Bool.not_eq_true'] at hok
  obtain ⟨⟨⟨⟨⟨⟨⟨hl, hnd⟩, hce⟩, hki⟩, hgl⟩, hbl⟩, hco⟩, hge⟩ := hok
  have O := S.off
  refine codeAny_call_def (fd := fd) (body := body) (binds := binds) hroom (S.bsNow.X _ _ (hK _)) rfl S.bsNow.lim (codeRec_of S.bsNow.X (hcd _)) hbody hbind (fun x hx => hce x hx) (bind_loc hB hl) (fun h₁ hns hk₁ => ?_) hco hge hki
  have hnames : (names.map fun n => ((n, none) : Str × Option Value)).map (·.1) = names := by rw [List.map_map]; exact List.map_id' names
  have hlook := hB.look (by rw [hnames]; exact hnd)
  rw [look_none] at hlook
  simp only [Option.or_none] at hlook
  have hn := S.ond
  rw [List.map_append, List.nodup_append] at hn
  refine wpAny_mono (k h₁ _ { bs := O.bs, kind := hki, glo := hgl, blt := hbl, fr := ⟨?_, fun b o e => hk₁ _ _ (O.keep b o e), Nat.le_of_eq O.size⟩, nd := by rw [hB.names, hnames]; exact hnd, lc := fun x hx => by rw [hB.names, hnames] at hx; exact hl x hx, gin := fun a o e => hk₁ _ _ (S.gin a o e), gsub := fun _ _ e => e, gnew := fun a o e => .inl e, gL := ?_, ow := fun p hp => ?_, ond := hn.1 }) (fun fl s' hq => by cases fl <;> exact hq) (fun _ _ x => x.elim)
  · rw [← hlook]; exact hns
  · cases q : G h.objs.size with
    | none => exact q
    | some o => exact absurd (Heap.lt_size (S.gin _ _ q)) (Nat.lt_irrefl _)
  · have D := S.ow p (List.mem_append_left _ hp)
    exact ⟨hk₁ _ _ D.1, Nat.ne_of_lt (Heap.lt_size D.1), O.none p hp, D.2.2.2⟩
theorem callOff {f : Addr} {fd : FuncData} {body : List Stmt} {args : List Value} {binds : List (Str × Value)} {names : List Str} {l₁ : Loc} {Q : Value → Shared → Prop}
    (S : St w env G₀ h₀ (new ++ own) l G h) (hK : ∀ P, (K P).lookup f = some ⟨.type "function", none, .func fd, #[]⟩) (hcd : ∀ P, codeIn (K P) fd.code fd.qualname = true)
    (hbody : fd.body = .stmts body) (hbind : bindArgs fd ⟨args, []⟩ = pure binds) (hB : BindTo (names.map fun n => (n, none)) binds l₁)
    (hok : ((names.all fun n => decide (fd.scope.names.lookup n = some .local)) && decide names.Nodup && (fd.scope.names.all fun x => decide (x.2 ≠ .cell)) && decide (fd.scope.kind = .function) && decide (fd.globals = mainGlobals) && decide (fd.builtins = builtinsNs) && (!fd.scope.isCoroutine) && (!fd.scope.isGenerator)) = true)
    (hroom : A.depth < recursionLimit)
    (k : ∀ h₁ t₁, St w (callEnv fd h.objs.size f) G (offH h new) new l₁ G h₁ →
      wpAny (model pw w) (A.deeper (callEnv fd h.objs.size f)) (execs body (callEnv fd h.objs.size f)) (fun fl s' => Q (retV fl) s') E0 (mkS s h₁ t₁)) :
    wpAny (model pw w) A (call (.ref f) args) Q E (mkS s h t) :=
  wpAny_call (code_off S hK hcd hbody (.of_eq hbind) hB hok hroom k)
end

/-! ## an object's own dict -/
noncomputable def DictM (m : Loc) (o : Obj) : Prop := ∃ es ep, o.data = .dict es ep ∧ StrKeys es ∧ UniqKeys es ∧ ∀ name, nsFind es name = look m name
theorem DictM.lookIn {m : Loc} {o : Obj} (D : DictM m o) (name : Str) : lookIn name o = some (look m name) := by
  obtain ⟨es, ep, hd, hk, _, hm⟩ := D
  unfold PySem.W.lookIn
  rw [hd]
  dsimp only
  rw [← hm name]
  simp only [nsFind, findBy, ← Array.find?_toList]
  cases hf : es.toList.find? (·.key.isStr name) with
  | some e => simp
  | none =>
    have : es.toList.any (·.refKey) = false := by
      rw [Bool.eq_false_iff]
      intro hh
      rw [List.any_eq_true] at hh
      obtain ⟨e, he, hr⟩ := hh
      obtain ⟨n, t, h⟩ := hk e (Array.mem_toList_iff.mp he)
      simp [DictEntry.refKey, h] at hr
    simp [this]
theorem DictM.ns {m : Loc} {o : Obj} {h : Heap} {a : Addr} (D : DictM m o) (e : h.get? a = some o) : h.Ns1 a (look m) :=
  let ⟨es, ep, hd, hk, hu, hm⟩ := D; ⟨o, es, ep, e, hd, hk, hu, hm⟩
theorem DictM.of_ns {m : Loc} {h : Heap} {a : Addr} (hn : h.Ns1 a (look m)) : ∃ o, h.get? a = some o ∧ DictM m o :=
  let ⟨o, es, ep, e, hd, hk, hu, hm⟩ := hn; ⟨o, e, es, ep, hd, hk, hu, hm⟩
theorem DictM.empty (ns : List Str) : DictM (ns.map fun n => (n, none)) emptyDict :=
  ⟨#[], 0, rfl, fun _ he => by simp at he, .nil, fun x => by rw [look_none]; rfl⟩
theorem look_in {m : Loc} {x : Str} {v : Value} (h : look m x = some v) : x ∈ m.map (·.1) := by
  cases q : m.lookup x with
  | none => simp [look, q] at h
  | some y => 
    clear h
    induction m with
    | nil => cases q
    | cons p m ih =>
      rw [List.lookup_cons] at q
      by_cases e : (x == p.1) = true
      · rw [List.map_cons, List.mem_cons]; exact .inl (by simpa using e)
      · rw [show (x == p.1) = false by simpa using e] at q
        rw [List.map_cons, List.mem_cons]; exact .inr (ih q)
theorem DictM.size {m : Loc} {o : Obj} (D : DictM m o) : ∃ es ep, o.data = .dict es ep ∧ es.size ≤ m.length := by
  obtain ⟨es, ep, hd, hk, hu, hm⟩ := D
  refine ⟨es, ep, hd, ?_⟩
  let f : DictEntry → Str := fun e => match e.key with | .str n _ => n | _ => Str.ofString ""
  have hf : ∀ e ∈ es.toList, e.key.isStr (f e) = true := fun e he => by
    obtain ⟨n, t, q⟩ := hk e (Array.mem_toList_iff.mp he)
    simp [f, q, Value.isStr]
  have nd : (es.toList.map f).Nodup := by
    unfold List.Nodup
    rw [List.pairwise_map]
    refine List.Pairwise.imp_of_mem (fun {a b} ha hb r q => ?_) hu
    exact r (f a) (hf a ha) (q ▸ hf b hb)
  have sub : es.toList.map f ⊆ m.map (·.1) := fun n hn => by
    obtain ⟨e, he, rfl⟩ := List.mem_map.mp hn
    cases q : nsFind es (f e) with
    | some v => rw [hm] at q; exact look_in q
    | none =>
      simp only [nsFind, findBy, Option.map_eq_none_iff, Array.find?_eq_none] at q
      exact absurd (hf e he) (q e (Array.mem_toList_iff.mp he))
  have := nd.length_le_of_subset sub
  simpa using this
theorem cls380 (P : Params) : clsIn (K P) 380 = some (ClassData.mk (Str.ofString "SequenceMatcher") [(Value.type "object")] [(Value.ref 380), (Value.type "object")] 379 (Str.ofString "SequenceMatcher") true [] [] false none false) := by kernel_rfl
theorem ga380 (P : Params) : findIn (K P) (.ref 380) "__getattribute__" = some (some (.builtin "object.__getattribute__")) := by kernel_rfl
theorem gt380 (P : Params) : findIn (K P) (.ref 380) "__getattr__" = some none := by kernel_rfl
theorem sa380 (P : Params) : findIn (K P) (.ref 380) "__setattr__" = some (some (.builtin "object.__setattr__")) := by kernel_rfl
theorem po380 (P : Params) : plainOver (K P) 380 = true := by kernel_rfl
noncomputable abbrev aJunk : Str := Str.ofString "isjunk"
noncomputable abbrev aA : Str := Str.ofString "a"
noncomputable abbrev aB : Str := Str.ofString "b"
noncomputable abbrev aAuto : Str := Str.ofString "autojunk"
noncomputable abbrev aMB : Str := Str.ofString "matching_blocks"
noncomputable abbrev aOp : Str := Str.ofString "opcodes"
noncomputable abbrev aFb : Str := Str.ofString "fullbcount"
noncomputable abbrev aB2j : Str := Str.ofString "b2j"
noncomputable abbrev aBj : Str := Str.ofString "bjunk"
noncomputable abbrev aPop : Str := Str.ofString "bpopular"
noncomputable def attrs : List Str := [aA, aB, aJunk, aAuto, aMB, aOp, aFb, aB2j, aBj, aPop]
theorem attrs_free (P : Params) : (attrs.all fun n => findIn (K P) (.ref 380) n == some none) = true := by kernel_rfl
theorem attr_none {n : Str} (P : Params) (h : n ∈ attrs) : findIn (K P) (.ref 380) n = some none := beq_iff_eq.mp (List.all_eq_true.mp (attrs_free P) n h)
theorem find_own {P : Params} {od : Obj} {name : Str} {v : Value} (hn : findIn (K P) (.ref 380) name = some none) (hl : lookIn name od = some (some v)) : findObj (K P) 380 (some od) name = some (.value v) := by
  unfold findObj
  rw [cls380, Option.bind_some, hn, Option.bind_some]
  simp [PySem.W.ownOf, hl]
section
variable {w : World} {env : Env} {G₀ G : Store} {h₀ h : Heap} {own : List (Addr × Obj)} {l : Loc} {A : Around} {E : Value → Shared → Prop} {s : Shared} {t : Nat} {x dx : Addr} {od : Obj} {m m' : Loc} {name : Str} {v : Value}
theorem inst_at (hx : h.get? x = some (instObj 380 dx)) (hd : h.get? dx = some od) : InstAt h x (instObj 380 dx) 380 (some od) := ⟨hx, rfl, rfl, hd⟩
theorem getA {expr : Bool} {Q : Value → Shared → Prop} (S : St w env G₀ h₀ own l G h) (hx : h.get? x = some (instObj 380 dx)) (hd : h.get? dx = some od) (D : DictM m od) (hm : Has m name v) (hn : (m.map (·.1)).Nodup) (ha : name ∈ attrs) (hh : handedIn v = true)
    (k : ∀ t', Q v (mkS s h t')) : wpAny (model pw w) A (getAttr (.ref x) name expr) Q E (mkS s h t) :=
  get_value (s := mkS s h t) S.bsNow.X (inst_at hx hd) (ga380 _) (find_own (attr_none _ ha) (by rw [D.lookIn, look_mem hm.mem hn])) hh (k _)
theorem setA {own' : Obj → List (Addr × Obj)} {Q : Unit → Shared → Prop} (S : St w env G₀ h₀ own l G h) (hx : h.get? x = some (instObj 380 dx)) (ho : ∀ o', OwnTo own dx od o' (own' o')) (D : DictM m od) (hm : SetTo m name v m') (hn : (m.map (·.1)).Nodup) (ha : name ∈ attrs) (hl : m.length ≤ 100)
    (k : ∀ h' t' od', St w env G₀ h₀ (own' od') l G h' → DictM m' od' → Q () (mkS s h' t')) : wpAny (model pw w) A (setAttr (.ref x) name v) Q E (mkS s h t) := by
  have hd := (S.ow _ (ho od).mem).1
  have X := S.bsNow.X
  have I := inst_at hx hd
  refine set_plain (s := mkS s h t) X I (sa380 _) ?_
  refine osa_open (s := mkS s h (t + 1)) X I (po380 _) (r := none) (by unfold takerIn; rw [attr_none _ ha]; rfl) fun b => ?_
  refine wpAny_bind (wpAny_pure (wpAny_bind (wpAny_bind (wpAny_loadPart hx (wpAny_bind ((looks_clsIn X (cls380 _)).here ?_))))))
  refine wpAny_pure (a := some dx) (wpAny_bind (wpAny_pure (wpAny_bind ?_)))
  refine wpAny_nsSet1 (s := mkS s h (t + 1)) (D.ns hd) fun h' hn' hs => ?_
  rw [hm.look hn] at hn'
  obtain ⟨od', e', D'⟩ := DictM.of_ns hn'
  obtain ⟨es, ep, hd', hz⟩ := D'.size
  have hz2 : m'.length = m.length := by have := congrArg List.length hm.names; simpa using this
  have := sizeLine_eq
  exact wpAny_bind (wpAny_lookBehind (s := mkS s h' _) e' (by rw [hd']; exact pastItsLine_dict (by lia)) (wpAny_pure (k h' _ od' (S.upd (ho od') hs e') D')))
theorem methA {f : Addr} {pl : Sem Bool} {Q : Value × List Value → Shared → Prop} (S : St w env G₀ h₀ own l G h) (hx : h.get? x = some (instObj 380 dx)) (hd : h.get? dx = some od) (D : DictM m od) (hm : look m name = none)
    (hf : ∀ P, findIn (K P) (.ref 380) name = some (some (.ref f))) (ht : ∀ P, typeIn (K P) (.ref f) = some (.type "function")) (k : Q (.ref f, [.ref x]) (mkS s h t)) :
    wpAny (model pw w) A (getMethod (.ref x) name pl) Q E (mkS s h t) :=
  method_fn (s := mkS s h t) S.bsNow.X (inst_at hx hd) (ga380 _) (gt380 _) (hf _) (ht _) (by show (lookIn name od).map _ = _; rw [D.lookIn, hm]; rfl) k
end
end Mine
end
section
open PySem PySem.W PyProof.Rows PySem.Calls Builtin Builtin.ObjectAttr
namespace Mine
set_option maxRecDepth 100000
/-! ## a built-in's method as a value -/
noncomputable abbrev bmO (id : String) (self : Value) : Obj := { cls := .type "builtin_function_or_method", data := .fields #[.builtin id, self] }
theorem slot_dict_ga : Slot "dict" "__getattribute__" "dict.__getattribute__" :=
  .of (owner := "dict") (n := "__getattribute__") (by rw [typeLookup_type, builtinLookup_eq_fast]; kernel_rfl) (by decide +kernel) (by decide +kernel) (by decide +kernel) (by first | exact .inl (by decide +kernel) | exact .inr (by decide +kernel)) (by rw [isSubtype_type]; kernel_rfl)
theorem slot_set_ga : Slot "set" "__getattribute__" "set.__getattribute__" :=
  .of (owner := "set") (n := "__getattribute__") (by rw [typeLookup_type, builtinLookup_eq_fast]; kernel_rfl) (by decide +kernel) (by decide +kernel) (by decide +kernel) (by first | exact .inl (by decide +kernel) | exact .inr (by decide +kernel)) (by rw [isSubtype_type]; kernel_rfl)
theorem entry_dga : entryFor table "dict.__getattribute__" = some Builtin.«object.__getattribute__» := entryFor_alias (id' := "object.__getattribute__") (by kernel_rfl) (by decide +kernel) (by decide +kernel) (by kernel_rfl)
theorem args_dga (a b : Value) : argsOk "dict.__getattribute__" ⟨[a, b], []⟩ := by unfold argsOk; kernel_rfl
theorem entry_sga : entryFor table "set.__getattribute__" = some Builtin.«object.__getattribute__» := entryFor_alias (id' := "object.__getattribute__") (by kernel_rfl) (by decide +kernel) (by decide +kernel) (by kernel_rfl)
theorem args_sga (a b : Value) : argsOk "set.__getattribute__" ⟨[a, b], []⟩ := by unfold argsOk; kernel_rfl
theorem slot_md_get : Slot "method_descriptor" "__get__" "method_descriptor.__get__" :=
  .of (owner := "method_descriptor") (n := "__get__") (by rw [typeLookup_type, builtinLookup_eq_fast]; kernel_rfl) (by decide +kernel) (by decide +kernel) (by decide +kernel) (by first | exact .inl (by decide +kernel) | exact .inr (by decide +kernel)) (by rw [isSubtype_type]; kernel_rfl)
theorem entry_md_get : entryFor table "method_descriptor.__get__" = some Builtin.«method_descriptor.__get__» := entryFor_of_tree (by kernel_rfl)
theorem args_md_get (a b c : Value) : argsOk "method_descriptor.__get__" ⟨[a, b, c], []⟩ := by unfold argsOk; kernel_rfl
theorem type_dget : typeOf (.builtin "dict.get") = pure (.type "method_descriptor") := by show builtinType _ = _; rw [builtinType_eq_fast]; kernel_rfl
theorem type_scon : typeOf (.builtin "set.__contains__") = pure (.type "method_descriptor") := by show builtinType _ = _; rw [builtinType_eq_fast]; kernel_rfl

theorem spec_dget (n : Str) {r : Option Value} (h : typeLookup (.type "method_descriptor") n = pure r) : specialOf (.builtin "dict.get") n = pure r := by
  unfold specialOf; rw [type_dget]; exact h
theorem md_set : typeLookup (.type "method_descriptor") "__set__" = pure none := by rw [typeLookup_type, builtinLookup_eq_fast]; kernel_rfl
theorem md_delete : typeLookup (.type "method_descriptor") "__delete__" = pure none := by rw [typeLookup_type, builtinLookup_eq_fast]; kernel_rfl
section
variable {prog : Program} {w : World} {A : Around} {E : Value → Shared → Prop} {s : Shared}
theorem bound_body {T id : String} {name : Str} {d : Addr} {o : Obj} {tk : Tok} (sl : Slot T name id) (ty : typeOf (.builtin id) = pure (.type "method_descriptor")) (ho : s.heap.get? d = some o) (hc : o.cls = .type T) (hdi : o.dict = none) (hno : notCls o = true) (hth : typeHasDict (.type T) = false)
    (hcopy : copiedNames.contains name = false) (P : Fin → Shared → Prop)
    (hg : wpAny (model prog w) A (call (.builtin "method_descriptor.__get__") [.builtin id, .ref d, .type T]) (fun v s' => P (.done (.ret v)) s') E s) :
    wpAny (model prog w) A (Builtin.«object.__getattribute__» ⟨[.ref d, .str name tk], []⟩) P E s := by
  have L0 : Looks (model prog w) s.heap (typeOf (.ref d)) (.type T) := by
    obtain ⟨oc, od, dt, sl⟩ := o; cases hc; exact (Looks.ld ho).andThen .now
  unfold Builtin.«object.__getattribute__»
  refine wpAny_bind (wpAny_of_eq (a := (.ref d, [.str name tk])) (by first | rfl | kernel_rfl) ?_)
  dsimp only
  refine wpAny_bind (wpAny_of_eq (a := name) (by rfl) ?_)
  refine wpAny_bind (L0.here ?_)
  have L1 : Looks (model prog w) s.heap (find (.ref d) (.type T) name) (.bind (.builtin "method_descriptor.__get__") (.builtin id)) := by
    unfold find
    refine (Looks.of_pure sl.lookup).andThen ?_
    have hg : getOf (some (.builtin id)) = pure (some (.builtin "method_descriptor.__get__")) := by
      unfold getOf specialOf; dsimp only; rw [ty]; exact slot_md_get.lookup
    have hs : takesStores (.builtin id) = pure false := by
      unfold takesStores specialOf
      rw [ty]
      show ((typeLookup (.type "method_descriptor") "__set__") >>= fun y => if y.isSome = true then pure true else typeLookup (.type "method_descriptor") "__delete__" >>= fun x => pure x.isSome) = _
      rw [md_set, md_delete]
      rfl
    refine (Looks.of_pure hg).andThen ?_
    have hd : dataDescriptor? (some (.builtin id)) (some (.builtin "method_descriptor.__get__")) = pure none := by
      unfold dataDescriptor?; dsimp only; rw [hs]; rfl
    refine (Looks.of_pure hd).andThen ?_
    unfold ownThenClass
    have L2 : Looks (model prog w) s.heap (inOwnDict name (.ref d)) none := by
      unfold inOwnDict ObjectAttr.ownDict
      obtain ⟨oc, od, dt, sl⟩ := o; cases hc; cases hdi
      refine Looks.andThen (a := none) ?_ .now
      refine (Looks.ld ho).andThen ?_
      have body : Looks (model prog w) s.heap (instanceDict d false) none := by
        unfold instanceDict
        refine (Looks.ld ho).andThen ?_
        exact .now
      cases dt <;> first | exact body | cases hno
    refine L2.andThen ?_
    have G : copiedAttributeGuard name (.ref d) = pure () := by
      unfold copiedAttributeGuard
      dsimp only
      have : copiedNames.contains name = false := hcopy
      rw [show ((["__module__", "__name__", "__qualname__", "__doc__", "__annotations__"] : List Str).contains name) = false from this]
      rfl
    refine (Looks.of_pure G).andThen ?_
    exact Looks.tag .now
  refine wpAny_bind (L1.here ?_)
  show wpAny _ _ (holding [.builtin id] (call (.builtin "method_descriptor.__get__") [.builtin id, .ref d, .type T]) >>= ret) _ _ _
  exact wpAny_bind (wpAny_holding (wpAny_mono hg (fun v s' z => wpAny_pure z) fun _ _ z => z))
theorem call_mdget {id T owner n : String} {d : Addr} {P : Value → Shared → Prop} (ty : typeOf (.builtin id) = pure (.type "method_descriptor")) (hT : s.TypeIs (.ref d) T) (htold : Manifest.toldItsClass.contains id = false) 
    (hon : (kfb_private% "ownerAndName") id = (owner, n)) (hsub : isSubtype (.type T) (.type owner) = pure true)
    (k : P (.ref s.heap.objs.size) { s with heap := s.heap.push (bmO id (.ref d)) }) :
    wpAny (model prog w) A (call (.builtin "method_descriptor.__get__") [.builtin id, .ref d, .type T]) P E s := by
  refine wpAny_call_entry slot_md_get ty entry_md_get ?_ (args_md_get _ _ _)
  unfold Builtin.«method_descriptor.__get__»
  refine wpAny_bind (wpAny_of_eq (a := (.builtin id, some (.ref d), some (.type T))) (by first | rfl | kernel_rfl) ?_)
  dsimp only
  rw [htold, if_neg (by decide)]
  refine wpAny_bind (m := (kfb_private% "checkInstance") (.builtin id) (.ref d)) ?_
  refine wpAny_bind (m := (kfb_private% "nameAndClass") (.builtin id)) (wpAny_of_eq (a := (Str.ofString n, .type owner)) ?_ ?_)
  · show (match (kfb_private% "ownerAndName") id with | (owner, name) => (pure (Str.ofString name, Value.type owner) : Sem _)) = _
    rw [hon]
  · dsimp only
    refine wpAny_bind (wpAny_isInstance hT hsub ?_)
    refine KFB.if_not (by decide) (wpAny_pure ?_)
    refine wpAny_bind (wpAny_newObj_type ?_)
    exact wpAny_pure ⟨_, rfl, k⟩
end
theorem split_dget : (kfb_private% "ownerAndName") "dict.get" = ("dict", "get") := by first | decide +kernel | kernel_rfl
theorem split_scon : (kfb_private% "ownerAndName") "set.__contains__" = ("set", "__contains__") := by first | decide +kernel | kernel_rfl
theorem told_dget : Manifest.toldItsClass.contains "dict.get" = false := by decide +kernel
theorem told_scon : Manifest.toldItsClass.contains "set.__contains__" = false := by decide +kernel
theorem sub_dd : isSubtype (.type "dict") (.type "dict") = pure true := by rw [isSubtype_type]; kernel_rfl
theorem sub_ss : isSubtype (.type "set") (.type "set") = pure true := by rw [isSubtype_type]; kernel_rfl
structure BmOf (T id : String) (name : Str) : Prop where
  slot : Slot T name id
  ty : typeOf (.builtin id) = pure (.type "method_descriptor")
  ga : ∃ g, Slot T "__getattribute__" g ∧ entryFor table g = some Builtin.«object.__getattribute__» ∧ ∀ a b, argsOk g ⟨[a, b], []⟩
  copy : copiedNames.contains name = false
  dict : typeHasDict (.type T) = false
  told : Manifest.toldItsClass.contains id = false
  own : ∃ owner n, (kfb_private% "ownerAndName") id = (owner, n) ∧ isSubtype (.type T) (.type owner) = pure true
theorem bm_dget : BmOf "dict" "dict.get" (Str.ofString "get") := ⟨PySem.F.slot_dict_get, type_dget, ⟨_, slot_dict_ga, entry_dga, args_dga⟩, by decide +kernel, by decide +kernel, told_dget, _, _, split_dget, sub_dd⟩
theorem bm_scon : BmOf "set" "set.__contains__" (Str.ofString "__contains__") := ⟨PySem.F.slot_set_contains, type_scon, ⟨_, slot_set_ga, entry_sga, args_sga⟩, by decide +kernel, by decide +kernel, told_scon, _, _, split_scon, sub_ss⟩
section
variable {w : World} {env : Env} {G₀ G : Store} {h₀ h : Heap} {own own' : List (Addr × Obj)} {l l' : Loc} {A : Around} {E : Value → Shared → Prop} {s : Shared} {t : Nat}
theorem getBm {T id : String} {name : Str} {d : Addr} {o : Obj} {expr : Bool} {Q : Value → Shared → Prop} (B : BmOf T id name) (S : St w env G₀ h₀ own l G h) (ho : h.get? d = some o) (hc : o.cls = .type T) (hdi : o.dict = none) (hno : notCls o = true)
    (k : ∀ h' G' q t', St w env G₀ h₀ own l G' h' → G.Sub G' → G' q = some (bmO id (.ref d)) → Q (.ref q) (mkS s h' t')) :
    wpAny (model pw w) A (getAttr (.ref d) name expr) Q E (mkS s h t) := by
  obtain ⟨g, sg, eg, ag⟩ := B.ga
  obtain ⟨ow, n, hon, hsub⟩ := B.own
  have hT : (mkS s h (t + 1)).TypeIs (.ref d) T := ⟨o, ho, hc⟩
  unfold getAttr getAttrBy
  refine wpAny_bind (wpAny_mkText (wpAny_holding (wpAny_bind (wpAny_typeOf (s := mkS s h (t + 1)) hT ?_))))
  refine wpAny_bind (wpAny_of_eq sg.lookup ?_)
  show wpAny _ _ (getAttrByItsOwn _ _ _ _ _ _) _ _ _
  unfold getAttrByItsOwn
  refine wpAny_bind (m := hookBefore (.type T)) (wpAny_pure ?_)
  refine wpAny_bind (wpAny_attempt ?_)
  refine wpAny_holding ?_
  have hcg : callGetattribute (.ref d) (.str name t) (.builtin g) expr = boundAndCalled (.builtin g) (.ref d) (.str name t) := by cases expr <;> rfl
  show wpAny _ _ (callGetattribute (.ref d) (.str name t) (.builtin g) expr) _ _ _
  rw [hcg]
  unfold boundAndCalled
  rw [sg.bind]
  refine wpAny_bind (wpAny_pure ?_)
  show wpAny _ _ (call (.builtin g) [.ref d, .str name t]) _ _ _
  refine wpAny_call_entry (s := mkS s h (t + 1)) sg hT eg ?_ (ag _ _)
  refine bound_body (s := mkS s h (t + 1)) B.slot B.ty ho hc hdi hno B.dict B.copy _ ?_
  refine call_mdget (s := mkS s h (t + 1)) B.ty hT B.told hon hsub ?_
  refine ⟨_, rfl, ?_⟩
  show wpAny _ _ (handedOut _) _ _ _
  obtain ⟨S', g'⟩ := S.push (bmO id (.ref d)) rfl
  exact wpAny_pure (k _ _ _ _ S' g' Store.put_self)
theorem callWith_bm0 {id : String} {self : Value} {pos : Pos} {q : Addr} {args : List (Bool × Sem Value)} {Q : Value → Shared → Prop} {s : Shared} (hplain : args.any (·.1) = false)
    (h : wpAny (model pw w) A (evalArgs (.ref q) true args []) (fun x s₁ => s₁.heap.get? q = some (bmO id self) ∧ wpAny (model pw w) A (call (.ref q) x.pos x.kw) Q E s₁) E s) : wpAny (model pw w) A (callWith pos (.ref q) [] args []) Q E s := by
  unfold callWith
  refine wpAny_bind (wpAny_holding (wpAny_mono h (fun x s₁ h₁ => wpAny_bind (wpAny_standAt ?_)) fun _ _ x => x))
  obtain ⟨ho, hcall⟩ := h₁
  simp only [hplain, List.any_nil, Bool.or_false]
  refine wpAny_bind (m := keeperOf (.ref q)) ?_
  unfold keeperOf
  refine wpAny_bind (wpAny_load ho ?_)
  simp only [show (Value.type "builtin_function_or_method" != Value.type "method") = true by decide, show (Value.type "builtin_function_or_method" == Value.type "builtin_function_or_method" || Value.type "builtin_function_or_method" == Value.type "method-wrapper") = true by decide, if_true]
  refine wpAny_pure ?_
  exact wpAny_bind (wpAny_mono hcall (fun r s₂ hr => wpAny_bind (wpAny_holding (wpAny_point (wpAny_pure hr)))) fun _ _ x => x)
theorem callWith_bm {id : String} {self : Value} {pos : Pos} {q : Addr} {e : PySem.Expr} {rest : List PySem.Expr} {Q : Value → Shared → Prop} {s : Shared}
    (hk : wpAny (model pw w) A (spliced (backTo pos (starEach (e :: rest) env))) (fun vs s₁ => s₁.heap.get? q = some (bmO id self) ∧ wpAny (model pw w) A (call (.ref q) vs) Q E s₁) E s)
    (he : starEach (e :: rest) env = (false, PySem.eval e env) :: starEach rest env := by rfl) (hplain : (backTo pos (starEach rest env)).any (·.1) = false := by rfl) :
    wpAny (model pw w) A (callWith pos (.ref q) [] (backTo pos (starEach (e :: rest) env)) []) Q E s := by
  rw [he] at hk ⊢
  refine callWith_bm0 (id := id) (self := self) (by show (false || (backTo pos (starEach rest env)).any (·.1)) = false; rw [hplain]; rfl) ?_
  exact evalArgs_plain hk
theorem call_bm {id : String} {d : Addr} {q : Addr} {B : Builtin} {vs : List Value} {Q : Value → Shared → Prop} {s : Shared} (ho : s.heap.get? q = some (bmO id (.ref d))) (hq : ∀ as, (Code.builtin id as).quiet = true) (hpl : plainId id = true) (eb : entryFor table id = some B)
    (hc : wpAny (model pw w) A.in1 (checkBoundCall id ⟨.ref d :: vs, []⟩) (fun _ s' => s' = s) (fun _ _ => False) s)
    (hb : wpAny (model pw w) A.in1 (B ⟨.ref d :: vs, []⟩) (fun fin s' => ∃ v, fin = .done (.ret v) ∧ Q v s') E s) : wpAny (model pw w) A (call (.ref q) vs) Q E s := by
  refine wpAny_call (codeAny_of_tree ?_)
  show wpAny _ A.in1 (callAny (.ref q) ⟨vs, []⟩) _ _ s
  simp only [callAny]
  refine wpAny_bind (wpAny_load ho ?_)
  simp only [show (Value.type "builtin_function_or_method" == Value.type "method" || Value.type "builtin_function_or_method" == Value.type "builtin_function_or_method" || Value.type "builtin_function_or_method" == Value.type "method-wrapper") = true by decide, if_true]
  refine KFB.if_so (by decide) ?_
  refine wpAny_bind (wpAny_mono hc (fun _ s' e => ?_) fun _ _ x => x.elim)
  subst e
  refine wpAny_bind (wpAny_pure (wpAny_pure ⟨hq _, codeAny_builtin eb ?_⟩))
  rw [Around.under_plainId hpl _]
  exact wpAny_mono hb (fun fin s' h' => by obtain ⟨v, rfl, hv⟩ := h'; exact hv) fun _ _ x => x
end
end Mine
end
section
open PySem PySem.W PyProof.Rows PySem.Calls
namespace Mine
set_option maxRecDepth 100000
noncomputable abbrev ik (w : World) : PySem.KeyKind pw w Int := intKind pw w
noncomputable def DMap (w : World) (f : Int → Option Value) (n : Nat) (o : Obj) : Prop := o.ExactDict ∧ ∃ es ep, o.data = .dict es ep ∧ PySem.KeysOf (ik w) es ∧ (∀ k, findBy (ik w).is es k = f k) ∧ es.size ≤ n
theorem DMap.map {w : World} {f : Int → Option Value} {n : Nat} {o : Obj} {h : Heap} {a : Addr} (D : DMap w f n o) (e : h.get? a = some o) : h.MapOf (ik w) a f :=
  let ⟨hc, es, ep, hd, hk, hf, _⟩ := D; ⟨o, es, ep, e, hc, hd, hk, hf⟩
theorem DMap.new (w : World) : DMap w (fun _ => none) 0 emptyDict := ⟨⟨rfl, rfl, rfl⟩, #[], 0, rfl, fun _ he => by simp at he, fun _ => rfl, Nat.le_refl _⟩
theorem DMap.mono {w : World} {f : Int → Option Value} {n m : Nat} {o : Obj} (D : DMap w f n o) (h : n ≤ m) : DMap w f m o :=
  let ⟨hc, es, ep, hd, hk, hf, hz⟩ := D; ⟨hc, es, ep, hd, hk, hf, Nat.le_trans hz h⟩
theorem sig_dget : Manifest.signature? "dict.get" = some ⟨.positional, "dict.get", "get", .self, [⟨"key", .posOnly, true⟩, ⟨"default", .posOnly, false⟩]⟩ := by
  rw [signature?_of (id := "dict.get") (n := ['t', 'e', 'g']) (o := ['t', 'c', 'i', 'd']) (by kernel_rfl) PySem.F.owner_dict]; kernel_rfl
theorem sig_scon : Manifest.signature? "set.__contains__" = some ⟨.oneArg, "set.__contains__", "__contains__", .self, [⟨"object", .posOnly, true⟩]⟩ := by
  rw [signature?_of (id := "set.__contains__") (n := "__contains__".toList.reverse) (o := ['t', 'e', 's']) (by kernel_rfl) PySem.F.owner_set]; kernel_rfl
theorem kind_dget : builtinKind "dict.get" = some .method := by decide +kernel
theorem kind_scon : builtinKind "set.__contains__" = some .method := by decide +kernel
theorem va_dget : Manifest.varargsMethods.contains "dict.get" = false := by decide +kernel
theorem va_scon : Manifest.varargsMethods.contains "set.__contains__" = false := by decide +kernel
theorem dmod : isSubtype (.type "dict") (.type "module") = pure false := by rw [isSubtype_type]; kernel_rfl
theorem smod : isSubtype (.type "set") (.type "module") = pure false := by rw [isSubtype_type]; kernel_rfl
section
variable {w : World} {env : Env} {G₀ G : Store} {h₀ h : Heap} {own : List (Addr × Obj)} {l : Loc} {A : Around} {E : Value → Shared → Prop} {s : Shared} {t : Nat} {d : Addr} {o : Obj} {ow : Obj → List (Addr × Obj)} {f : Int → Option Value} {n : Nat} {x : Int} {tk : Tok} {v : Value}
theorem dictSetS {Q : Unit → Shared → Prop} (S : St w env G₀ h₀ own l G h) (ho : ∀ o', OwnTo own d o o' (ow o')) (D : DMap w f n o) (hn : n ≤ 1000)
    (k : ∀ h' o' t', St w env G₀ h₀ (ow o') l G h' → DMap w (fun y => if y = x then some v else f y) (n + 1) o' → Q () (mkS s h' t')) : wpAny (model pw w) A (dictSet d (.int x tk) v) Q E (mkS s h t) := by
  have e := (S.ow _ (ho o).mem).1
  obtain ⟨hc, es, ep, hd, hk, hf, hz⟩ := D
  have hx : (ik w).is x (Value.int x tk) = true := by simp [ik, intKind, Value.isInt]
  have hsz := sizeLine_eq
  unfold dictSet
  refine wpAny_holding (wpAny_bind ((ik w).pyHash hx ?_))
  unfold dictSetHashed
  refine wpAny_holding (wpAny_bind (wpAny_dictFind_of (s := mkS s h (t + 1)) hx e hd hk ?_))
  cases hi : es.findIdx? fun e => (ik w).is x e.key with
  | some i =>
    have hd' := Obj.data_mapDict hd (fun es => es.modify i fun e => { e with val := v })
    refine wpAny_bind (wpAny_rule (wpAny_bind (wpAny_updateDict (s := mkS s h (t + 1)) e hd (wpAny_point (k _ _ _ (S.upd (ho _) (Heap.SameBut.update ..) (Heap.get?_update_self _ e (Obj.isFreed_of_dict hd'))) ?_)))))
    refine ⟨hc.mapDict _, _, _, hd', hk.modify _ _, fun y => ?_, by rw [Array.size_modify]; lia⟩
    rw [findBy_modify (ik w).is (ik w).inj es x y v i hi, hf]
  | none =>
    have hd' := Obj.data_mapDictKeys hd (fun es => es.push ⟨(ik w).hash x, .int x tk, v⟩)
    refine wpAny_bind (wpAny_rule (wpAny_updateDictKeys (hz := by lia) (s := mkS s h (t + 1)) e hd (k _ _ _ (S.upd (ho _) (Heap.SameBut.update ..) (Heap.get?_update_self _ e (Obj.isFreed_of_dict hd'))) ?_)))
    refine ⟨hc.mapDictKeys _, _, _, hd', hk.push hx _, fun y => ?_, by rw [Array.size_push]; lia⟩
    rw [findBy_push (ik w).is es x y _ _ v (PySem.KeyKind.is_eq_decide hx) hi, hf]
theorem dictSetdefS {Q : Value → Shared → Prop} (S : St w env G₀ h₀ own l G h) (ho : ∀ o', OwnTo own d o o' (ow o')) (D : DMap w f n o) (hn : n ≤ 1000) (hx0 : f x = none)
    (k : ∀ h' o' t', St w env G₀ h₀ (ow o') l G h' → DMap w (fun y => if y = x then some v else f y) (n + 1) o' → Q v (mkS s h' t')) : wpAny (model pw w) A (dictSetDefault d (.int x tk) v) Q E (mkS s h t) := by
  have e := (S.ow _ (ho o).mem).1
  obtain ⟨hc, es, ep, hd, hk, hf, hz⟩ := D
  have hx : (ik w).is x (Value.int x tk) = true := by simp [ik, intKind, Value.isInt]
  have hsz := sizeLine_eq
  unfold dictSetDefault
  refine wpAny_holding (wpAny_bind ((ik w).pyHash hx ?_))
  refine wpAny_bind (wpAny_dictFind_of (s := mkS s h (t + 1)) hx e hd hk ?_)
  cases hi : es.findIdx? fun e => (ik w).is x e.key with
  | some i =>
    exfalso
    have hfk : f x = (es[i]?).map (·.val) := by rw [← hf x, findBy_of_findIdx?, hi]
    have hlt : i < es.size := (Array.findIdx?_eq_some_iff_findIdx_eq.mp hi).1
    rw [hx0, Array.getElem?_eq_getElem hlt] at hfk
    cases hfk
  | none =>
    have hd' := Obj.data_mapDictKeys hd (fun es => es.push ⟨(ik w).hash x, .int x tk, v⟩)
    refine wpAny_bind (wpAny_rule (wpAny_bind (wpAny_updateDictKeys (hz := by lia) (s := mkS s h (t + 1)) e hd (wpAny_pure (k _ _ _ (S.upd (ho _) (Heap.SameBut.update ..) (Heap.get?_update_self _ e (Obj.isFreed_of_dict hd'))) ?_)))))
    refine ⟨hc.mapDictKeys _, _, _, hd', hk.push hx _, fun y => ?_, by rw [Array.size_push]; lia⟩
    rw [findBy_push (ik w).is es x y _ _ v (PySem.KeyKind.is_eq_decide hx) hi, hf]
/-- d[x] = v -/
theorem setItemD {Q : Unit → Shared → Prop} (S : St w env G₀ h₀ own l G h) (ho : ∀ o', OwnTo own d o o' (ow o')) (D : DMap w f n o) (hn : n ≤ 1000)
    (k : ∀ h' o' t', St w env G₀ h₀ (ow o') l G h' → DMap w (fun y => if y = x then some v else f y) (n + 1) o' → Q () (mkS s h' t')) : wpAny (model pw w) A (setItem (.ref d) (.int x tk) v) Q E (mkS s h t) := by
  have hT : (mkS s h t).TypeIs (.ref d) "dict" := ⟨o, (S.ow _ (ho o).mem).1, D.1.1⟩
  unfold setItem
  refine wpAny_holding ?_
  refine wpAny_bind (wpAny_sequenceKey hT (by decide) ?_)
  refine wpAny_bind (wpAny_callSpecial?_slot (name := Str.ofString "__setitem__") hT slot_dict_setitem
    (wpAny_call_entry slot_dict_setitem hT entry_dict_setitem ?_ (args_dict_setitem _ _ _)))
  show wpAny _ _ (Builtin.Dict.notOrdered "__setitem__" ⟨[.ref d, .int x tk, v], []⟩ >>= _) _ _ _
  refine wpAny_bind (wpAny_notOrdered_dict hT ?_)
  show wpAny _ _ (dictSet d (.int x tk) v >>= _) _ _ _
  exact wpAny_bind (dictSetS S ho D hn fun h' o' t' S' D' => wpAny_pure ⟨.none, rfl, wpAny_pure (k h' o' t' S' D')⟩)
/-- d.setdefault(x, v), x new -/
theorem setdefCall {Q : Value → Shared → Prop} (S : St w env G₀ h₀ own l G h) (ho : ∀ o', OwnTo own d o o' (ow o')) (D : DMap w f n o) (hn : n ≤ 1000) (hx0 : f x = none) (hsys : (d == sysModules) = false)
    (k : ∀ h' o' t', St w env G₀ h₀ (ow o') l G h' → DMap w (fun y => if y = x then some v else f y) (n + 1) o' → Q v (mkS s h' t')) : wpAny (model pw w) A (call (.builtin "dict.setdefault") [.ref d, .int x tk, v]) Q E (mkS s h t) := by
  have hT : (mkS s h t).TypeIs (.ref d) "dict" := ⟨o, (S.ow _ (ho o).mem).1, D.1.1⟩
  refine wpAny_call_entry PySem.F.slot_dict_setdefault hT PySem.F.entry_dict_setdefault ?_ (PySem.F.args_dict_setdefault_3 _ _ _)
  unfold Builtin.«dict.setdefault»
  refine wpAny_bind ?_
  unfold Builtin.Dict.keyAndDefault
  refine wpAny_bind (wpAny_notOrdered_dict hT ?_)
  show wpAny _ _ (pure (d, Value.int x tk, some v)) _ _ _
  refine wpAny_pure ?_
  show wpAny _ _ (if (d == sysModules) = true then _ else (dictSetDefault d (.int x tk) v >>= _)) _ _ _
  rw [if_neg (by rw [hsys]; exact Bool.false_ne_true)]
  exact wpAny_bind (dictSetdefS S ho D hn hx0 fun h' o' t' S' D' => wpAny_pure ⟨v, rfl, k h' o' t' S' D'⟩)
/-- d.get(x, dflt) -/
theorem getDfltRun {P : Fin → Shared → Prop} {dflt : Value} {s : Shared} (hm : s.heap.MapOf (ik w) d f) (hsys : (d == sysModules) = false) (k : P (.done (.ret ((f x).getD dflt))) { s with toks := s.toks + 1 }) :
    wpAny (model pw w) A (Builtin.«dict.get» ⟨[.ref d, .int x tk, dflt], []⟩) P E s := by
  have hx : (ik w).is x (Value.int x tk) = true := by simp [ik, intKind, Value.isInt]
  show wpAny _ _ (dictGet d (.int x tk) >>= _) _ _ s
  refine wpAny_bind (wpAny_dictGet_of (knd := ik w) hx hm ?_)
  cases hf : f x with
  | some v => rw [hf] at k; exact wpAny_pure k
  | none =>
    rw [hf] at k
    show wpAny _ _ (Builtin.Dict.missed d (.int x tk) >>= _) _ _ _
    exact wpAny_bind (wpAny_missed_other hsys (wpAny_pure k))
theorem check_dget {s : Shared} {dflt : Value} (ho : s.heap.get? d = some o) (hc : o.cls = .type "dict") (hno : notCls o = true) : wpAny (model pw w) A (checkBoundCall "dict.get" ⟨[.ref d, .int x tk, dflt], []⟩) (fun _ s' => s' = s) (fun _ _ => False) s := by
  have hT : s.TypeIs (.ref d) "dict" := ⟨o, ho, hc⟩
  have hty : Looks (model pw w) s.heap (isType (.ref d)) false := by
    refine (Looks.ld ho).andThen ?_
    obtain ⟨oc, od, dt, sl⟩ := o
    cases dt <;> first | exact .now | cases hno
  unfold checkBoundCall
  rw [sig_dget, kind_dget]
  dsimp only
  refine KFB.if_not (by decide) ?_
  refine wpAny_bind (wpAny_isInstance hT dmod ?_)
  rw [va_dget]
  refine KFB.if_not (by decide) ?_
  refine wpAny_bind (hty.here ?_)
  refine KFB.if_not (by decide) (wpAny_bind (wpAny_typeOf hT ?_))
  exact wpAny_of_eq (a := ()) (by kernel_rfl) rfl
theorem check_scon {s : Shared} (ho : s.heap.get? d = some o) (hc : o.cls = .type "set") (hno : notCls o = true) : wpAny (model pw w) A (checkBoundCall "set.__contains__" ⟨[.ref d, .int x tk], []⟩) (fun _ s' => s' = s) (fun _ _ => False) s := by
  have hT : s.TypeIs (.ref d) "set" := ⟨o, ho, hc⟩
  have hty : Looks (model pw w) s.heap (isType (.ref d)) false := by
    refine (Looks.ld ho).andThen ?_
    obtain ⟨oc, od, dt, sl⟩ := o
    cases dt <;> first | exact .now | cases hno
  unfold checkBoundCall
  rw [sig_scon, kind_scon]
  dsimp only
  refine KFB.if_not (by decide) ?_
  refine wpAny_bind (wpAny_isInstance hT smod ?_)
  rw [va_scon]
  refine KFB.if_not (by decide) ?_
  refine wpAny_bind (hty.here ?_)
  refine KFB.if_not (by decide) (wpAny_bind (wpAny_typeOf hT ?_))
  exact wpAny_of_eq (a := ()) (by kernel_rfl) rfl
theorem quiet_dget (as : Args) : (Code.builtin "dict.get" as).quiet = true := Code.quiet_builtin _ (by decide +kernel)
theorem quiet_scon (as : Args) : (Code.builtin "set.__contains__" as).quiet = true := Code.quiet_builtin _ (by decide +kernel)
theorem plain_dget : plainId "dict.get" = true := by decide +kernel
theorem plain_scon : plainId "set.__contains__" = true := by decide +kernel
/-- a bound dict.get called -/
theorem bmGetS {q : Addr} {dflt : Value} {Q : Value → Shared → Prop} (hq : h.get? q = some (bmO "dict.get" (.ref d))) (ho : h.get? d = some o) (D : DMap w f n o) (hsys : (d == sysModules) = false)
    (k : ∀ t', Q ((f x).getD dflt) (mkS s h t')) : wpAny (model pw w) A (call (.ref q) [.int x tk, dflt]) Q E (mkS s h t) := by
  have hno : notCls o = true := by obtain ⟨hc, es, ep, hd, r⟩ := D; unfold notCls; rw [hd]
  refine call_bm (s := mkS s h t) hq quiet_dget plain_dget PySem.F.entry_dict_get (check_dget ho D.1.1 hno) ?_
  exact getDfltRun (s := mkS s h t) (D.map ho) hsys ⟨_, rfl, k _⟩
noncomputable abbrev setO (led : Bool) : Obj := { cls := .type "set", dict := none, data := .set #[] 0 (.fresh 0 0 led) }
/-- a bound set.__contains__ called, the set empty -/
theorem bmInS {q : Addr} {led : Bool} {Q : Value → Shared → Prop} (hq : h.get? q = some (bmO "set.__contains__" (.ref d))) (ho : h.get? d = some (setO led))
    (k : ∀ t', Q (.bool false) (mkS s h t')) : wpAny (model pw w) A (call (.ref q) [.int x tk]) Q E (mkS s h t) := by
  have hx : (ik w).is x (Value.int x tk) = true := by simp [ik, intKind, Value.isInt]
  refine call_bm (s := mkS s h t) hq quiet_scon plain_scon entry_set_contains (check_scon ho rfl rfl) ?_
  have hS : h.SetOf (ik w) d (fun _ => false) 0 := (setObjOf_fresh led).setOf ho (by decide)
  unfold Builtin.«frozenset.__contains__» Builtin.Frozenset.oneOther
  simp only [List.isEmpty_nil, bind_assoc]
  unfold Builtin.Frozenset.addrOf Builtin.Frozenset.withSetAsKey setContains
  refine wpAny_bind (wpAny_pure ?_)
  try dsimp only
  refine wpAny_bind (wpAny_pure ?_)
  try dsimp only
  refine wpAny_bind (wpAny_tryCatch ?_)
  refine wpAny_holding ?_
  refine wpAny_bind ((ik w).pyHash hx ?_)
  refine wpAny_bind (wpAny_setFind_of (s := mkS s h (t + 1)) hx rfl hS fun r hr => ?_)
  refine wpAny_pure ?_
  show wpAny _ _ (ret (Value.bool r.isSome)) _ _ _
  rw [hr]
  exact wpAny_pure ⟨_, rfl, k _⟩
theorem St.big (S : St w env G₀ h₀ own l G h) : 413 < h.objs.size := Heap.lt_size (S.bsNow.X 413 (ob413 _) rfl)
theorem St.notSys (S : St w env G₀ h₀ own l G h) : (h.objs.size == sysModules) = false := by
  have := S.big
  have e : sysModules = 1 := rfl
  rw [e]
  simp; lia
theorem newDictS {pos : Pos} {Q : Value → Shared → Prop} (S : St w env G₀ h₀ own l G h)
    (k : ∀ h' d, St w env G₀ h₀ ((d, emptyDict) :: own) l G h' → (d == sysModules) = false → Q (.ref d) (mkS s h' t)) : wpAny (model pw w) A (PySem.eval (.Dict [] [] pos) env) Q E (mkS s h t) :=
  wpAny_Dict_empty (s := mkS s h t) (k _ _ (S.pushOwn emptyDict rfl) S.notSys)
theorem newSetS {Q : Value → Shared → Prop} (S : St w env G₀ h₀ own l G h)
    (k : ∀ h' G' d led, St w env G₀ h₀ own l G' h' → G.Sub G' → G' d = some (setO led) → Q (.ref d) (mkS s h' t)) : wpAny (model pw w) A (call (.type "set") []) Q E (mkS s h t) :=
  call_set_0 (s := mkS s h t) fun led => by
    obtain ⟨S', g'⟩ := S.push (setO led) rfl
    exact k _ _ _ led S' g' Store.put_self
end
noncomputable abbrev enumO (it : Addr) (i : Int) (old : Value) : Obj := { cls := .type "enumerate", dict := none, data := .fields #[.none, .bool false, .ref it, rawInt i, .none, old], slots := #[] }
noncomputable def LIter (l : Addr) (k : Nat) (o : Obj) : Prop := o.cls = .type "list_iterator" ∧ o.data = .fields #[.ref l, .int (k : Nat) 0]
section
variable {w : World} {env : Env} {G₀ G : Store} {h₀ h h' : Heap} {own own' : List (Addr × Obj)} {l l' : Loc} {A : Around} {E : Value → Shared → Prop} {s : Shared} {t : Nat}
theorem St.gain2 {a b : Addr} {oa ob : Obj} (S : St w env G₀ h₀ own l G h) (he : ∀ b x, h.get? b = some x → h'.get? b = some x) (hn : h.get? a = none) (hn' : h.get? b = none) (hab : a ≠ b) (e : h'.get? a = some oa) (e' : h'.get? b = some ob) :
    St w env G₀ h₀ ((a, oa) :: (b, ob) :: own) l G h' := by
  have S1 := S.gain he hn e
  have S2 := S.gain he hn' e'
  refine { S1 with ow := fun p hp => ?_, ond := ?_ }
  · rcases List.mem_cons.mp hp with rfl | q
    · exact S1.ow _ (.head _)
    · exact S2.ow p q
  · have h1 := S1.ond
    have h2 := S2.ond
    simp only [List.map_cons, List.nodup_cons, List.mem_cons, not_or] at h1 h2 ⊢
    exact ⟨⟨hab, h1.1⟩, h2⟩
theorem none_size (h : Heap) (k : Nat) (hk : h.objs.size ≤ k) : h.get? k = none := by
  cases q : h.get? k with
  | none => rfl
  | some o => exact absurd (Heap.lt_size q) (Nat.not_lt.mpr hk)
/-- enumerate(list), met as a loop's source -/
theorem enumMake {la : Addr} {vs : List Value} {Q : Value → Shared → Prop} (S : St w env G₀ h₀ own l G h) (hl : h.IsList la vs.toArray)
    (k : ∀ h' e it oi, St w env G₀ h₀ ((e, enumO it 0 .none) :: (it, oi) :: own) l G h' → LIter la 0 oi → Q (.ref e) (mkS s h' t)) :
    wpAny (model pw w) A (call (.type "enumerate") [.ref la]) (fun x s₁ => wpAny (model pw w) A (pyIter x) Q E s₁) E (mkS s h t) := by
  refine call_enumerate_list (s := mkS s h t) hl fun h' he hi hsz hk => ?_
  obtain ⟨oi, ei, ci, di⟩ := hi
  have S' := S.gain2 hk (none_size h (h.objs.size + 1) (Nat.le_succ _)) (none_size h h.objs.size (Nat.le_refl _)) (Nat.succ_ne_self _) he ei
  exact wpAny_pyIter_enum he (k h' _ _ oi S' ⟨ci, di⟩)
theorem enumNext {la e it : Addr} {vs : List Value} {oi : Obj} {old x : Value} {k : Nat} {elts : List PySem.Expr} {x1 : Nat} {pos : Pos} {Q : Value → Shared → Prop} (S : St w env G₀ h₀ ((e, enumO it k old) :: (it, oi) :: own) l G h) (hi : LIter la k oi) (hl : h.IsList la vs.toArray) (hx : vs[k]? = some x)
    (q : ∀ h' G' a t' tk oi', St w env G₀ h₀ ((e, enumO it ((k + 1 : Nat) : Int) x) :: (it, oi') :: own) l G' h' → G.Sub G' → LIter la (k + 1) oi' → G' a = some (tupO [.int k tk, x]) → Q (.ref a) (mkS s h' t')) :
    wpAny (model pw w) A (pyNext (.ref e)) (fun r s₁ => match r with | none => False | some v => wpAny (model pw w) A (letOwnedTupleGo (.Tuple elts x1 pos) (.ref e) v) (fun _ => Q v) E0 s₁) E0 (mkS s h t) := by
  have He := (S.ow _ (.head _)).1
  have Hi := (S.ow _ (.tail _ (.head _))).1
  have hne : e ≠ it := by have := S.ond; simp only [List.map_cons, List.nodup_cons, List.mem_cons, not_or] at this; exact this.1.1
  refine wpAny_pyNext_enum_item (s := mkS s h t) He ⟨oi, Hi, hi.1, hi.2⟩ hl (by simpa using hx) hne fun h' he' hi' hT hsz hkeep => ?_
  refine wpAny_letOwnedTupleGo_enum (s := mkS s h' _) he' fun h'' he'' hsb => ?_
  obtain ⟨oj, ej, cj, dj⟩ := hi'
  have elt : e < h.objs.size := Heap.lt_size He
  have S' : St w env G₀ h₀ ([(e, enumO it ((k : Int) + 1) x), (it, oj)] ++ own) l G h'' := by
    refine St.remake (part := [(e, enumO it k old), (it, oi)]) S (fun c o hc ho => ?_) rfl fun p hp => ?_
    · simp only [List.map_cons, List.map_nil, List.mem_cons, List.not_mem_nil, or_false, not_or] at hc
      exact (hsb.2 _ hc.1).trans (hkeep c o hc.1 hc.2 ho)
    · simp only [List.mem_cons, List.not_mem_nil, or_false] at hp
      rcases hp with rfl | rfl
      · exact he''
      · exact (hsb.2 _ (Ne.symm hne)).trans ej
  obtain ⟨S'', g''⟩ := S.learn S' (Nat.le_refl _) ((hsb.2 _ (Nat.ne_of_gt elt)).trans hT) rfl
  refine q _ _ h.objs.size _ t oj (by simpa using S'') g'' ⟨cj, dj⟩ Store.put_self
theorem enumStop {la e it : Addr} {vs : List Value} {oi : Obj} {old : Value} {k : Nat} {Q : Option Value → Shared → Prop} (hh : A.handled = none) (S : St w env G₀ h₀ ((e, enumO it k old) :: (it, oi) :: own) l G h) (hi : LIter la k oi) (hl : h.IsList la vs.toArray) (hx : vs[k]? = none)
    (q : ∀ h' t', St w env G₀ h₀ own l G h' → Q none (mkS s h' t')) : wpAny (model pw w) A (pyNext (.ref e)) Q E0 (mkS s h t) := by
  have He := (S.ow _ (.head _)).1
  have Hi := (S.ow _ (.tail _ (.head _))).1
  refine wpAny_pyNext_enum_end (s := mkS s h t) hh He ⟨oi, Hi, hi.1, hi.2⟩ hl (by simpa using hx) fun h' he => q h' _ (St.dropAll (part := [(e, enumO it k old), (it, oi)]) S fun b o hb x => he b o (fun z => hb (by simp [z])) x)
/-- a tuple of the store taken apart over targets -/
theorem unpackRaw {elts : List PySem.Expr} {x1 : Nat} {pos : Pos} {a : Addr} {vs : List Value} {o : Obj} {n : Nat} {Q : Unit → Shared → Prop} (S : St w env G₀ h₀ own l G h) (e : G a = some o) (c : o.cls = .type "tuple") (d : o.data = .seq vs.toArray n) (hh : A.handled = none)
    (hn : (assignEach elts env).length = vs.length) (hstar : (assignEach elts env).findIdx? (·.1) = none)
    (k : ∀ h', St w env G₀ h₀ own l G h' → wpAny (model pw w) A (assignInOrder ((assignEach elts env).map (·.2)) vs) Q E (mkS s h' t)) :
    wpAny (model pw w) A (assign (.Tuple elts x1 pos) env (.ref a)) Q E (mkS s h t) := by
  refine assign_Tuple_tuple (s := mkS s h t) hh ⟨o, S.gin _ _ e, c, n, d⟩ (by rw [hn]; simp) hstar fun h' he => ?_
  exact k h' (S.ext fun b o q => he b o (Nat.ne_of_lt (Heap.lt_size q)) q)
end
section
variable {w : World} {env : Env} {G₀ : Store} {h₀ : Heap} {A : Around} {s : Shared} {R : Result → Shared → Prop} {elts : List PySem.Expr} {x1 : Nat} {pos : Pos} {body : List Stmt} {la e : Addr} {n : Nat}
@[reducible] noncomputable def qStepV (w : World) (env : Env) (G₀ : Store) (h₀ : Heap) (s : Shared) (p : List (Addr × Obj)) (J : Store → Loc → List (Addr × Obj) → List Value → Prop) : Shared → Prop :=
  fun s₃ => ∃ G' l' own' vs' h' t', s₃ = mkS s h' t' ∧ St w env G₀ h₀ (p ++ own') l' G' h' ∧ J G' l' own' vs'
/-- a loop over enumerate(list), the list may change in it -/
theorem for_enum (hh : A.handled = none) (J : Nat → Store → Loc → List (Addr × Obj) → List Value → Prop)
    (hlist : ∀ k G l own h vs, J k G l own vs → St w env G₀ h₀ own l G h → h.IsList la vs.toArray ∧ vs.length = n)
    (mono : ∀ k G G' l own vs, J k G l own vs → G.Sub G' → J k G' l own vs)
    (step : ∀ k, k < n → ∀ p G l own h t a tk vs x, J k G l own vs → vs[k]? = some x → G a = some (tupO [.int k tk, x]) → St w env G₀ h₀ (p ++ own) l G h →
      wpAny (model pw w) A (assign (.Tuple elts x1 pos) env (.ref a)) (qBody (model pw w) A E0 env body (qLoop R (qStepV w env G₀ h₀ s p (J (k + 1))))) E0 (mkS s h t))
    (fin : ∀ G l own h t vs, J n G l own vs → St w env G₀ h₀ own l G h → R (.ok .next) (mkS s h t)) :
    ∀ (m k : Nat), m = n - k → k ≤ n → ∀ {G l own h t it oi old vs}, LIter la k oi → J k G l own vs → St w env G₀ h₀ ((e, enumO it k old) :: (it, oi) :: own) l G h → codeAny (model pw w) A (.forLoop (.Tuple elts x1 pos) (.ref e) body [] env) R (mkS s h t) := by
  intro m
  induction m with
  | zero =>
    intro k hm hk G l own h t it oi old vs hi hJ S
    obtain rfl : k = n := by lia
    obtain ⟨hl, hn⟩ := hlist _ _ _ _ _ _ hJ (St.dropAll (part := [_, _]) S fun _ _ _ x => x)
    exact for_turn (enumStop hh S hi hl (by rw [List.getElem?_eq_none]; lia) fun h' t' S' => fin _ _ _ _ _ _ hJ S')
  | succ m ih =>
    intro k hm hk G l own h t it oi old vs hi hJ S
    have hk' : k < n := by lia
    obtain ⟨hl, hn⟩ := hlist _ _ _ _ _ _ hJ (St.dropAll (part := [_, _]) S fun _ _ _ x => x)
    obtain ⟨x, hx⟩ : ∃ x, vs[k]? = some x := ⟨_, List.getElem?_eq_getElem (by lia)⟩
    refine for_turn (wpAny_mono (enumNext (elts := elts) (x1 := x1) (pos := pos) (Q := fun v s' => wpAny (model pw w) A (assign (.Tuple elts x1 pos) env v) (qBody (model pw w) A E0 env body (qLoop R fun s₃ => codeAny (model pw w) A (.forLoop (.Tuple elts x1 pos) (.ref e) body [] env) R s₃)) E0 s') S hi hl hx fun h' G' a t' tk oi' S' g' hi' ha => ?_) (fun r s₁ h₁ => ?_) fun _ _ x => x)
    · refine wpAny_mono (step k hk' [(e, enumO it ((k + 1 : Nat) : Int) x), (it, oi')] G' l own h' t' a tk vs x (mono _ _ _ _ _ _ hJ g') hx ha S') (fun _ s₂ h₂ => wpAny_mono h₂ (fun f s₃ h₃ => ?_) fun _ _ x => x) fun _ _ x => x
      have go : (∃ G'' l' own' vs' h'' t'', s₃ = mkS s h'' t'' ∧ St w env G₀ h₀ ([(e, enumO it ((k + 1 : Nat) : Int) x), (it, oi')] ++ own') l' G'' h'' ∧ J (k + 1) G'' l' own' vs') → codeAny (model pw w) A (.forLoop (.Tuple elts x1 pos) (.ref e) body [] env) R s₃ := by
        rintro ⟨G'', l', own', vs', h'', t'', rfl, S3, j3⟩
        exact ih (k + 1) (by lia) (by lia) hi' j3 S3
      cases f with
      | next => exact go h₃
      | cont => exact go h₃
      | brk => exact h₃
      | ret v => exact h₃
    · cases r with
      | none => exact h₁.elim
      | some v => exact h₁
end

/-! ## attributes of self in statements -/
section
variable {w : World} {env : Env} {G₀ G : Store} {h₀ h : Heap} {own : List (Addr × Obj)} {l : Loc} {A : Around} {E : Value → Shared → Prop} {s : Shared} {t : Nat} {x dx : Addr} {od : Obj} {m m' : Loc} {name sf : Str} {v : Value}
structure SelfAt (h : Heap) (x dx : Addr) (od : Obj) (m : Loc) : Prop where
  inst : h.get? x = some (instObj 380 dx)
  dict : h.get? dx = some od
  map : DictM m od
  nd : (m.map (·.1)).Nodup
theorem attrS {p1 p2 : Pos} {Q : Value → Shared → Prop} (S : St w env G₀ h₀ own l G h) (hs : Has l sf (.ref x)) (X : SelfAt h x dx od m) (hm : Has m name v) (ha : name ∈ attrs) (hh : handedIn v = true)
    (k : ∀ t', Q v (mkS s h t')) (hd : (sf == ("__debug__" : Str)) = false := by decide +kernel)
    (he : PySem.eval (.Attribute (.Name sf p1) name p2) env = (do
      let o ← PySem.eval (.Name sf p1) env
      standAt p2.atName
      let r ← holding [o] (getAttr o name true)
      letTemporaryGo (.Name sf p1) o r
      pure r) := by with_unfolding_all rfl) :
    wpAny (model pw w) A (PySem.eval (.Attribute (.Name sf p1) name p2) env) Q E (mkS s h t) :=
  Attribute_Name_ (ldS S hs (getA S X.inst X.dict X.map hm X.nd ha hh k) hd) he
theorem assign_attr {o : PySem.Expr} {attr : Str} {pos : Pos} {Q : Unit → Shared → Prop} {s : Shared}
    (h : wpAny (model pw w) A (PySem.eval o env) (fun ov s₂ => wpAny (model pw w) A (setAttr ov attr v) Q E s₂) E s) : wpAny (model pw w) A (assign (.Attribute o attr pos) env v) Q E s := by
  rw [assign_Attribute]
  exact wpAny_bind (wpAny_holding (wpAny_mono h (fun ov s₂ h₂ => wpAny_bind (wpAny_standAt (wpAny_bind (wpAny_holding (wpAny_mono h₂ (fun _ _ q => wpAny_release q) fun _ _ x => x))))) fun _ _ x => x))
/-- self.name = v, met as a target -/
theorem putS {p1 p2 : Pos} {own' : Obj → List (Addr × Obj)} {Q : Unit → Shared → Prop} (S : St w env G₀ h₀ own l G h) (hs : Has l sf (.ref x)) (X : SelfAt h x dx od m) (ho : ∀ o', OwnTo own dx od o' (own' o')) (hm : SetTo m name v m') (ha : name ∈ attrs) (hl : m.length ≤ 100)
    (k : ∀ h' t' od', St w env G₀ h₀ (own' od') l G h' → DictM m' od' → Q () (mkS s h' t')) (hd : (sf == ("__debug__" : Str)) = false := by decide +kernel) :
    wpAny (model pw w) A (assign (.Attribute (.Name sf p1) name p2) env v) Q E (mkS s h t) :=
  assign_attr (ldS S hs (setA S X.inst ho X.map hm X.nd ha hl k) hd)
/-- a call of a def, its arguments by places -/
theorem callWithK {f : Value} {first : List Value} {pos : Pos} {e : PySem.Expr} {rest : List PySem.Expr} {Q : Value → Shared → Prop} {s : Shared} (hk : ∀ P, keepIn (K P) f = true) (S : St w env G₀ h₀ own l G h)
    (hc : wpAny (model pw w) A (spliced (backTo pos (starEach (e :: rest) env))) (fun vs s₁ => (K w.params).In s₁.heap ∧ wpAny (model pw w) A (call f (first ++ vs)) Q E s₁) E s)
    (he : starEach (e :: rest) env = (false, PySem.eval e env) :: starEach rest env := by rfl) (hplain : (backTo pos (starEach rest env)).any (·.1) = false := by rfl) :
    wpAny (model pw w) A (callWith pos f first (backTo pos (starEach (e :: rest) env)) []) Q E s :=
  callWith_K S.bsNow.X (hk _) hc he hplain
end
local macro_rules | `(tactic| walk_at "set") => `(tactic| first | with_reducible exact SetTo.nth 0 rfl | with_reducible exact SetTo.nth 1 rfl | with_reducible exact SetTo.nth 2 rfl | with_reducible exact SetTo.nth 3 rfl | with_reducible exact SetTo.nth 4 rfl | with_reducible exact SetTo.nth 5 rfl | with_reducible exact SetTo.nth 6 rfl | with_reducible exact SetTo.nth 7 rfl | with_reducible exact SetTo.nth 8 rfl | with_reducible exact SetTo.nth 9 rfl | with_reducible exact SetTo.nth 10 rfl | with_reducible exact SetTo.nth 11 rfl | with_reducible exact SetTo.nth 12 rfl | with_reducible exact SetTo.nth 13 rfl | with_reducible exact SetTo.nth 14 rfl | with_reducible exact SetTo.nth 15 rfl | with_reducible exact SetTo.nth 16 rfl | with_reducible exact SetTo.nth 17 rfl | with_reducible exact SetTo.nth 18 rfl | with_reducible exact SetTo.nth 19 rfl | with_reducible exact SetTo.nth 20 rfl | with_reducible exact SetTo.nth 21 rfl)
local macro_rules | `(tactic| walk_at "mem") => `(tactic| first | with_reducible exact Has.nth 0 rfl | with_reducible exact Has.nth 1 rfl | with_reducible exact Has.nth 2 rfl | with_reducible exact Has.nth 3 rfl | with_reducible exact Has.nth 4 rfl | with_reducible exact Has.nth 5 rfl | with_reducible exact Has.nth 6 rfl | with_reducible exact Has.nth 7 rfl | with_reducible exact Has.nth 8 rfl | with_reducible exact Has.nth 9 rfl | with_reducible exact Has.nth 10 rfl | with_reducible exact Has.nth 11 rfl | with_reducible exact Has.nth 12 rfl | with_reducible exact Has.nth 13 rfl | with_reducible exact Has.nth 14 rfl | with_reducible exact Has.nth 15 rfl | with_reducible exact Has.nth 16 rfl | with_reducible exact Has.nth 17 rfl | with_reducible exact Has.nth 18 rfl | with_reducible exact Has.nth 19 rfl | with_reducible exact Has.nth 20 rfl | with_reducible exact Has.nth 21 rfl)
noncomputable abbrev fd326 : FuncData := fnOf (Str.ofString "__chain_b") (Str.ofString "SequenceMatcher.__chain_b") F326.1 F326.2.1 F326.2.2.1 Value.none Value.none Value.none (Value.str (Str.ofString "cpy313.difflib") 431) none (Value.ref 325) Value.none
theorem K326 (P : Params) : (K P).lookup 326 = some ⟨.type "function", none, .func fd326, #[]⟩ := by rfl
theorem C326 (P : Params) : codeIn (K P) fd326.code fd326.qualname = true := by rfl
noncomputable abbrev nSelf : Str := Str.ofString "self"
noncomputable abbrev LCB (s b d i e v j q p n : Option Value) : Loc := [(nSelf, s), (Str.ofString "b", b), (Str.ofString "b2j", d), (Str.ofString "i", i), (Str.ofString "elt", e), (Str.ofString "indices", v), (Str.ofString "junk", j), (Str.ofString "isjunk", q), (Str.ofString "popular", p), (Str.ofString "n", n)]
noncomputable def n326 : List Str := [nSelf, Str.ofString "b", Str.ofString "b2j", Str.ofString "i", Str.ofString "elt", Str.ofString "indices", Str.ofString "junk", Str.ofString "isjunk", Str.ofString "popular", Str.ofString "n"]
noncomputable abbrev mAt (va vb vmb vop vfb vb2j vbj vpop : Option Value) : Loc := [(aA, va), (aB, vb), (aJunk, some .none), (aAuto, some (.bool false)), (aMB, vmb), (aOp, vop), (aFb, vfb), (aB2j, vb2j), (aBj, vbj), (aPop, vpop)]
theorem mAt_nd {va vb vmb vop vfb vb2j vbj vpop : Option Value} : ((mAt va vb vmb vop vfb vb2j vbj vpop).map (·.1)).Nodup := by
  show ([aA, aB, aJunk, aAuto, aMB, aOp, aFb, aB2j, aBj, aPop] : List Str).Nodup
  decide +kernel
noncomputable def B2j (w : World) (G : Store) (d : Addr) (bs : List Int) : Prop := ∃ o f n, G d = some o ∧ DMap w f n o ∧ (d == sysModules) = false ∧
  (∀ (j : Nat) (y : Int), bs[j]? = some y → ∃ v, f y = some v ∧ Rep G v (dInts [(j : Int)])) ∧ ∀ y, y ∉ bs → f y = none
theorem B2j.mono {w : World} {G G' : Store} {d : Addr} {bs : List Int} (B : B2j w G d bs) (g : G.Sub G') : B2j w G' d bs :=
  B.elim fun o B => B.elim fun f B => B.elim fun n B => ⟨o, f, n, g _ _ B.1, B.2.1, B.2.2.1, fun j y hy => (B.2.2.2.1 j y hy).elim fun v q => ⟨v, q.1, q.2.mono g⟩, B.2.2.2.2⟩
theorem nodup_take {bs : List Int} (h : bs.Nodup) {k : Nat} {y : Int} (hk : bs[k]? = some y) : y ∉ bs.take k := fun hm => by
  obtain ⟨j, hj, e⟩ := List.mem_iff_getElem.mp hm
  rw [List.length_take] at hj
  obtain ⟨hk', e'⟩ := List.getElem?_eq_some_iff.mp hk
  rw [List.getElem_take] at e
  exact List.pairwise_iff_getElem.mp h j k (by lia) hk' (by lia) (e.trans e'.symm)
theorem nodup_inj {bs : List Int} (h : bs.Nodup) {j k : Nat} {y : Int} (hj : bs[j]? = some y) (hk : bs[k]? = some y) : j = k := by
  obtain ⟨hj', e⟩ := List.getElem?_eq_some_iff.mp hj
  obtain ⟨hk', e'⟩ := List.getElem?_eq_some_iff.mp hk
  rcases Nat.lt_trichotomy j k with q | q | q
  · exact absurd (e.trans e'.symm) (List.pairwise_iff_getElem.mp h j k hj' hk' q)
  · exact q
  · exact absurd (e'.trans e.symm) (List.pairwise_iff_getElem.mp h k j hk' hj' q)
theorem take_succ_mem {bs : List Int} {k : Nat} {y z : Int} (hk : bs[k]? = some y) : z ∈ bs.take (k + 1) ↔ z ∈ bs.take k ∨ z = y := by
  rw [List.take_succ, hk]; simp
theorem ownMid {a : Addr} {o o' : Obj} {r : List (Addr × Obj)} : ∀ p : List (Addr × Obj), OwnTo (p ++ (a, o) :: r) a o o' (p ++ (a, o') :: r)
  | [] => .head
  | _ :: p => .tail (ownMid p)
section
variable {w : World} {env : Env} {G₀ G : Store} {h₀ h : Heap} {own : List (Addr × Obj)} {l : Loc} {A : Around} {E : Value → Shared → Prop} {s : Shared} {t : Nat} {x dx : Addr} {od : Obj}
inductive JB1 (w : World) (vs : List Value) (G : Store) (d dx x lb : Addr) (o₅ : Obj) (bs : List Int) (k : Nat) (G' : Store) (l : Loc) (own : List (Addr × Obj)) (vs' : List Value) : Prop
  | mk (e1 : vs' = vs) (e2 : G.Sub G') (f : Int → Option Value) (o : Obj) (iv ev nv : Option Value) (e3 : own = [(d, o), (dx, o₅)]) (e4 : DMap w f k o) (e5 : (∀ (j : Nat) (y : Int), j < k → bs[j]? = some y → ∃ v, f y = some v ∧ Rep G' v (dInts [(j : Int)]))) (e6 : (∀ y, y ∉ bs.take k → f y = none)) (e7 : l = (LCB (some (.ref x)) (some (.ref lb)) (some (.ref d)) iv ev nv none none none none))
set_option maxHeartbeats 4000000 in
theorem chain_spec {va : Option Value} {lb : Addr} {bs : List Int} {Q : Value → Shared → Prop} (S : St w env G₀ h₀ ((dx, od) :: own) l G h) (hx : G x = some (instObj 380 dx))
    (D : DictM (mAt va (some (.ref lb)) (some .none) (some .none) (some .none) none none none) od) (rb : Rep G (.ref lb) (dInts bs)) (hnd : bs.Nodup) (hlen : bs.length ≤ 500) (hh : A.handled = none) (hroom : A.depth < recursionLimit)
    (k : ∀ h' G' t' od' d sj sp led, St w env G₀ h₀ ((dx, od') :: own) l G' h' → G.Sub G' → DictM (mAt va (some (.ref lb)) (some .none) (some .none) (some .none) (some (.ref d)) (some (.ref sj)) (some (.ref sp))) od' → B2j w G' d bs → G' sj = some (setO led) → Q .none (mkS s h' t')) :
    wpAny (model pw w) A (call (.ref 326) [.ref x]) Q E (mkS s h t) := by
  refine callOff (new := [(dx, od)]) (names := n326) (l₁ := (LCB (some (.ref x)) none none none none none none none none none)) S K326 C326 rfl (by rfl) (.cons .head .nil) (by decide +kernel) hroom fun h₁ t₁ S₁ => ?_
  have X : ∀ {env G₀ h₀ own l G' h' o m}, St w env G₀ h₀ own l G' h' → G.Sub G' → (dx, o) ∈ own → DictM m o → (m.map (·.1)).Nodup → SelfAt h' x dx o m := fun S' g hm D hn => ⟨S'.gin _ _ (g _ _ hx), (S'.ow _ hm).1, D, hn⟩
  refine seqS (setS (attrS S₁ (by walk_at "mem") (X S₁ (Store.Sub.refl _) (.head _) D mAt_nd) (name := aB) (by walk_at "mem") (by decide +kernel) rfl fun t₂ => stS S₁ (by walk_at "set") fun h₃ t₃ S₃ => ?_))
  refine seqS (wpAny_Assign_two (newDictS S₃ fun h₄ d S₄ hsys => ?_))
  refine putS S₄ (by walk_at "mem") (X S₄ (Store.Sub.refl _) (.tail _ (.head _)) D mAt_nd) (fun o' => .tail .head) (by walk_at "set") (by decide +kernel) (Nat.le_of_ble_eq_true rfl) fun h₅ t₅ o₅ S₅ D₅ => ?_
  refine wpAny_assign_Name (stS S₅ (by walk_at "set") fun h₆ t₆ S₆ => ?_)
  obtain ⟨_, vs, e1, hl0, rv⟩ := rb.isList S.gin
  cases e1
  obtain ⟨ob, n0, eb, cb, db⟩ : ∃ ob n, G lb = some ob ∧ ob.cls = .type "list" ∧ ob.data = .seq vs.toArray n := by
    cases rb with
    | list e c d q =>
      obtain ⟨o, ho, hc, n, hd⟩ := hl0
      rw [S.gin _ _ e] at ho; cases ho
      exact ⟨_, n, e, hc, hd⟩
  have hvl : vs.length = bs.length := by rw [rv.length, List.length_map]
  refine seqS (for_ (Call_ (biS S₆ nz_enumerate bb_enumerate (PyProof.Rows.callWith_type1 (args_cons (ldS S₆ (by walk_at "mem") (args_nil ?_)))))))
  refine enumMake (vs := vs) S₆ ⟨ob, S₆.gin _ _ eb, cb, n0, db⟩ fun h₇ e it oi S₇ hi => ?_
  refine for_enum (la := lb) (n := bs.length) (vs := vs) (by exact hh) (JB1 w vs G d dx x lb o₅ bs) ?_ ?_ ?_ ?_ bs.length 0 rfl (Nat.zero_le _) hi ?_ S₇
  · rintro k G' l own h vs' ⟨rfl, g, f, o, iv, ev, nv, rfl, Dm, hin, hout, rfl⟩ S'
    exact ⟨⟨ob, S'.gin _ _ (g _ _ eb), cb, n0, db⟩, hvl⟩
  · rintro k G' G'' l own vs' ⟨rfl, g, f, o, iv, ev, nv, rfl, Dm, hin, hout, rfl⟩ g'
    exact ⟨rfl, g.trans g', f, o, iv, ev, nv, rfl, Dm, fun j y hj hy => let ⟨v, a, b⟩ := hin j y hj hy; ⟨v, a, b.mono g'⟩, hout, rfl⟩
  · rintro k hk p G' l own h t a tk vs' xv hJ hxv ha S'
    refine hideQ fun Q' hQ' => ?_
    obtain ⟨rfl, g, f, o, iv, ev, nv, rfl, Dm, hin, hout, rfl⟩ := hJ
    have hy : bs[k]? = some bs[k] := List.getElem?_eq_getElem hk
    obtain ⟨xv', hxv', rx⟩ := rv.get (k := k) (d := .int bs[k]) (by rw [List.getElem?_map, hy]; rfl)
    rw [hxv] at hxv'; cases hxv'
    obtain ⟨te, rfl⟩ := rx.intv
    generalize hyk : bs[k] = y at *
    have hnew : f y = none := hout y (nodup_take hnd hy)
    refine unpackRaw S' ha rfl rfl (by exact hh) rfl rfl fun h₈ S₈ => ?_
    refine inOrder_cons (wpAny_assign_Name (stS S₈ (by walk_at "set") fun h₉ t₉ S₉ => inOrder_cons (wpAny_assign_Name (stS S₉ (by walk_at "set") fun h₁₀ t₁₀ S₁₀ => inOrder_nil ?_))))
    have hdo := (S₁₀.ow (d, o) (List.mem_append_right _ (.head _))).1
    refine seqS (setS (MethodCall_ (ldS S₁₀ (by walk_at "mem") (getMethod_builtin (v := .ref d) (T := "dict") (s := mkS s h₁₀ t₁₀) ⟨o, hdo, Dm.1.1⟩ PySem.F.plainAttrs_dict PySem.F.slot_dict_setdefault PySem.F.type_dict_setdefault (Dm.map hdo).noDict ?_))))
    refine callWith_method1 (args_cons (ldS S₁₀ (by walk_at "mem") (args_cons (List_ (args_nil (listOwn S₁₀ fun h₁₁ li S₁₁ => args_nil ?_))))))
    refine setdefCall S₁₁ (fun o' => .tail (ownMid (o' := o') p)) Dm (by lia) hnew hsys fun h₁₂ o₁₂ t₁₂ S₁₂ D₁₂ => stS S₁₂ (by walk_at "set") fun h₁₃ t₁₃ S₁₃ => ?_
    refine seqS (appendStS (a := li) (vs := []) (n := 0) (d := .int k) S₁₃ (by walk_at "mem") (fun v => .head) (by rw [sizeLine_eq]; decide) (ldS S₁₃ (by walk_at "mem") ⟨_, _, _, rfl, S₁₃, Store.Sub.refl _, .int _ _⟩) fun v₁₄ h₁₄ G₁₄ t₁₄ S₁₄ g₁₄ r₁₄ => wpAny_execs_nil ?_)
    obtain ⟨S₁₅, g₁₅⟩ := S₁₄.freeze .head
    subst hQ'
    refine ⟨_, _, _, _, _, _, rfl, S₁₅, rfl, g.trans (g₁₄.trans g₁₅), _, _, _, _, _, rfl, D₁₂, ?_, ?_, rfl⟩
    · intro j z hj hz
      by_cases e : z = y
      · subst e
        refine ⟨_, if_pos rfl, ?_⟩
        have : j = k := nodup_inj hnd hz hy
        subst this
        exact .list (G := G₁₄.put li _) Store.put_self rfl rfl (.cons (r₁₄.mono g₁₅) .nil)
      · have hjk : j ≠ k := fun q => e (by subst q; rw [hy] at hz; exact (Option.some.inj hz).symm)
        obtain ⟨v, a, b⟩ := hin j z (by lia) hz
        exact ⟨v, by rw [if_neg e]; exact a, b.mono (g₁₄.trans g₁₅)⟩
    · intro z hz
      rw [take_succ_mem hy, not_or] at hz
      show (if z = y then _ else f z) = none
      rw [if_neg hz.2]; exact hout z hz.1
  · rintro G' l own h t vs' ⟨rfl, g, f, o, iv, ev, nv, rfl, Dm, hin, hout, rfl⟩ S'
    refine seqS (wpAny_Assign_two (Call_ (biS S' nz_set bb_set (PyProof.Rows.callWith_type0 (newSetS S' fun h₁₆ G₁₆ sj led S₁₆ g₁₆ e₁₆ => ?_)))))
    refine putS S₁₆ (by walk_at "mem") (X S₁₆ (g.trans g₁₆) (.tail _ (.head _)) D₅ mAt_nd) (fun o' => .tail .head) (by walk_at "set") (by decide +kernel) (Nat.le_of_ble_eq_true rfl) fun h₁₇ t₁₇ o₁₇ S₁₇ D₁₇ => ?_
    refine wpAny_assign_Name (stS S₁₇ (by walk_at "set") fun h₁₈ t₁₈ S₁₈ => ?_)
    refine seqS (setS (attrS S₁₈ (by walk_at "mem") (X S₁₈ (g.trans g₁₆) (.tail _ (.head _)) D₁₇ mAt_nd) (name := aJunk) (by walk_at "mem") (by decide +kernel) rfl fun t₁₉ => stS S₁₈ (by walk_at "set") fun h₂₀ t₂₀ S₂₀ => ?_))
    refine seqS (wpAny_If (isTrue_plain (ldS S₂₀ (by walk_at "mem") (truthy_none ?_))))
    refine wpAny_execs_nil ?_
    refine seqS (wpAny_Assign_two (Call_ (biS S₂₀ nz_set bb_set (PyProof.Rows.callWith_type0 (newSetS S₂₀ fun h₂₁ G₂₁ sp led' S₂₁ g₂₁ e₂₁ => ?_)))))
    refine putS S₂₁ (by walk_at "mem") (X S₂₁ (g.trans (g₁₆.trans g₂₁)) (.tail _ (.head _)) D₁₇ mAt_nd) (fun o' => .tail .head) (by walk_at "set") (by decide +kernel) (Nat.le_of_ble_eq_true rfl) fun h₂₂ t₂₂ o₂₂ S₂₂ D₂₂ => ?_
    refine wpAny_assign_Name (stS S₂₂ (by walk_at "set") fun h₂₃ t₂₃ S₂₃ => ?_)
    have g23 := g.trans (g₁₆.trans g₂₁)
    refine seqS (setS (Call_ (biS S₂₃ nz_len bb_len (PyProof.Rows.callWith_builtin1 (args_cons (ldS S₂₃ (by walk_at "mem") (args_nil (lenS S₂₃ (rb.mono g23) (by rw [List.length_map]; lia) fun u t₂₄ => stS S₂₃ (by walk_at "set") fun h₂₅ t₂₅ S₂₅ => ?_))))))))
    refine seqS (wpAny_If (isTrue_and (isTrue_plain (attrS S₂₅ (by walk_at "mem") (X S₂₅ g23 (.tail _ (.head _)) D₂₂ mAt_nd) (name := aAuto) (by walk_at "mem") (by decide +kernel) rfl fun t₂₆ => wpAny_truthy_bool ?_))))
    refine wpAny_execs_nil (wpAny_execs_nil ?_)
    obtain ⟨S₂₇, g₂₇⟩ := S₂₅.freeze .head
    refine k _ _ _ _ d sj sp led (S.leave S₂₇) (g23.trans g₂₇) D₂₂ ⟨o, f, bs.length, Store.put_self, Dm, hsys, fun j y hy => ?_, fun y hy => hout y (by rw [List.take_length]; exact hy)⟩ ((g₂₁.trans g₂₇) _ _ e₁₆)
    obtain ⟨hj, _⟩ := List.getElem?_eq_some_iff.mp hy
    obtain ⟨v, a, b⟩ := hin j y hj hy
    exact ⟨v, a, b.mono ((g₁₆.trans g₂₁).trans g₂₇)⟩
  · exact ⟨rfl, Store.Sub.refl _, _, _, none, none, none, rfl, DMap.new w, fun j y hj => absurd hj (Nat.not_lt_zero _), fun _ _ => rfl, rfl⟩
end
theorem look_mAt {va vb vmb vop vfb vb2j vbj vpop : Option Value} {n : Str} (h : n ∉ attrs) : look (mAt va vb vmb vop vfb vb2j vbj vpop) n = none := by
  unfold look
  rw [lookup_none (by exact h)]
  rfl
/-- a method of the class -/
structure Meth (n : Str) (f : Addr) : Prop where
  find : ∀ P, findIn (K P) (.ref 380) n = some (some (.ref f))
  typ : ∀ P, typeIn (K P) (.ref f) = some (.type "function")
  keep : ∀ P, keepIn (K P) (.ref f) = true
  free : n ∉ attrs
theorem meth_seqs : Meth (Str.ofString "set_seqs") 305 := ⟨fun P => by kernel_rfl, fun P => by kernel_rfl, fun P => by kernel_rfl, by decide +kernel⟩
theorem meth_seq1 : Meth (Str.ofString "set_seq1") 312 := ⟨fun P => by kernel_rfl, fun P => by kernel_rfl, fun P => by kernel_rfl, by decide +kernel⟩
theorem meth_seq2 : Meth (Str.ofString "set_seq2") 319 := ⟨fun P => by kernel_rfl, fun P => by kernel_rfl, fun P => by kernel_rfl, by decide +kernel⟩
theorem meth_chain : Meth (Str.ofString "_SequenceMatcher__chain_b") 326 := ⟨fun P => by kernel_rfl, fun P => by kernel_rfl, fun P => by kernel_rfl, by decide +kernel⟩
theorem meth_longest : Meth (Str.ofString "find_longest_match") 334 := ⟨fun P => by kernel_rfl, fun P => by kernel_rfl, fun P => by kernel_rfl, by decide +kernel⟩
theorem meth_blocks : Meth (Str.ofString "get_matching_blocks") 341 := ⟨fun P => by kernel_rfl, fun P => by kernel_rfl, fun P => by kernel_rfl, by decide +kernel⟩
theorem meth_opcodes : Meth (Str.ofString "get_opcodes") 348 := ⟨fun P => by kernel_rfl, fun P => by kernel_rfl, fun P => by kernel_rfl, by decide +kernel⟩
noncomputable abbrev fd312 : FuncData := fnOf (Str.ofString "set_seq1") (Str.ofString "SequenceMatcher.set_seq1") F312.1 F312.2.1 F312.2.2.1 Value.none Value.none (Value.str (docOr F312.2.1) 673) (Value.str (Str.ofString "cpy313.difflib") 431) none (Value.ref 311) Value.none
theorem K312 (P : Params) : (K P).lookup 312 = some ⟨.type "function", none, .func fd312, #[]⟩ := by rfl
theorem C312 (P : Params) : codeIn (K P) fd312.code fd312.qualname = true := by rfl
noncomputable def n312 : List Str := [nSelf, Str.ofString "a"]
noncomputable abbrev fd319 : FuncData := fnOf (Str.ofString "set_seq2") (Str.ofString "SequenceMatcher.set_seq2") F319.1 F319.2.1 F319.2.2.1 Value.none Value.none (Value.str (docOr F319.2.1) 682) (Value.str (Str.ofString "cpy313.difflib") 431) none (Value.ref 318) Value.none
theorem K319 (P : Params) : (K P).lookup 319 = some ⟨.type "function", none, .func fd319, #[]⟩ := by rfl
theorem C319 (P : Params) : codeIn (K P) fd319.code fd319.qualname = true := by rfl
noncomputable def n319 : List Str := [nSelf, Str.ofString "b"]
noncomputable abbrev fd305 : FuncData := fnOf (Str.ofString "set_seqs") (Str.ofString "SequenceMatcher.set_seqs") F305.1 F305.2.1 F305.2.2.1 Value.none Value.none (Value.str (docOr F305.2.1) 664) (Value.str (Str.ofString "cpy313.difflib") 431) none (Value.ref 304) Value.none
theorem K305 (P : Params) : (K P).lookup 305 = some ⟨.type "function", none, .func fd305, #[]⟩ := by rfl
theorem C305 (P : Params) : codeIn (K P) fd305.code fd305.qualname = true := by rfl
noncomputable def n305 : List Str := [nSelf, Str.ofString "a", Str.ofString "b"]
noncomputable abbrev fd298 : FuncData := fnOf (Str.ofString "__init__") (Str.ofString "SequenceMatcher.__init__") F298.1 F298.2.1 F298.2.2.1 (Value.ref 291) Value.none (Value.str (docOr F298.2.1) 654) (Value.str (Str.ofString "cpy313.difflib") 431) none (Value.ref 297) Value.none
theorem K298 (P : Params) : (K P).lookup 298 = some ⟨.type "function", none, .func fd298, #[]⟩ := by rfl
theorem C298 (P : Params) : codeIn (K P) fd298.code fd298.qualname = true := by rfl
noncomputable def n298 : List Str := [nSelf, Str.ofString "isjunk", Str.ofString "a", Str.ofString "b", Str.ofString "autojunk"]
section
variable {w : World} {env : Env} {G₀ G : Store} {h₀ h : Heap} {own : List (Addr × Obj)} {l : Loc} {A : Around} {E : Value → Shared → Prop} {s : Shared} {t : Nat} {x dx : Addr} {od : Obj}
theorem selfAt {env : Env} {G₀ : Store} {h₀ : Heap} {own : List (Addr × Obj)} {l : Loc} {G' : Store} {h' : Heap} {o : Obj} {m : Loc} (S' : St w env G₀ h₀ own l G' h') (hx : G' x = some (instObj 380 dx)) (hm : (dx, o) ∈ own) (D : DictM m o) (hn : (m.map (·.1)).Nodup) : SelfAt h' x dx o m :=
  ⟨S'.gin _ _ hx, (S'.ow _ hm).1, D, hn⟩
theorem nd0 {a : List (Option Value)} : (attrs.zip a).map (·.1) = (attrs.zip a).map (·.1) := rfl
/-- set_seq1 -/
theorem seq1_spec {la : Addr} {Q : Value → Shared → Prop} (S : St w env G₀ h₀ ((dx, od) :: own) l G h) (hx : G x = some (instObj 380 dx))
    (D : DictM (mAt (some .none) (some .none) none none none none none none) od) (hroom : A.depth < recursionLimit)
    (k : ∀ h' G' t' od', St w env G₀ h₀ ((dx, od') :: own) l G' h' → G.Sub G' → DictM (mAt (some (.ref la)) (some .none) (some .none) (some .none) none none none none) od' → Q .none (mkS s h' t')) :
    wpAny (model pw w) A (call (.ref 312) [.ref x, .ref la]) Q E (mkS s h t) := by
  refine callOff (new := [(dx, od)]) (names := n312) (l₁ := [(nSelf, some (.ref x)), (Str.ofString "a", some (.ref la))]) S K312 C312 rfl (by rfl) (.cons .head (.cons (.tail .head) .nil)) (by decide +kernel) hroom fun h₁ t₁ S₁ => ?_
  refine seqS (wpAny_Expr (Calls.Constant_str ?_))
  refine seqS (wpAny_If (wpAny_isTrue_Compare1 (ldS S₁ (by walk_at "mem") (attrS S₁ (by walk_at "mem") (selfAt S₁ hx (.head _) D mAt_nd) (name := aA) (by walk_at "mem") (by decide +kernel) rfl fun t₂ => is_ref_none (wpAny_truthy_bool ?_)))))
  refine wpAny_execs_nil ?_
  refine seqS (plainObj_wpAny_Assign_Attribute (ldS S₁ (by walk_at "mem") (ldS S₁ (by walk_at "mem") (setA S₁ (S₁.gin _ _ hx) (fun o' => .head) D (name := aA) (by walk_at "set") mAt_nd (by decide +kernel) (Nat.le_of_ble_eq_true rfl) fun h₃ t₃ o₃ S₃ D₃ => ?_))))
  refine seqS (wpAny_Assign_two (wpAny_Constant_none ?_))
  refine putS S₃ (by walk_at "mem") (selfAt S₃ hx (.head _) D₃ mAt_nd) (fun o' => .head) (by walk_at "set") (by decide +kernel) (Nat.le_of_ble_eq_true rfl) fun h₄ t₄ o₄ S₄ D₄ => ?_
  refine putS S₄ (by walk_at "mem") (selfAt S₄ hx (.head _) D₄ mAt_nd) (fun o' => .head) (by walk_at "set") (by decide +kernel) (Nat.le_of_ble_eq_true rfl) fun h₅ t₅ o₅ S₅ D₅ => ?_
  exact wpAny_execs_nil (k _ _ _ _ (S.leave S₅) (Store.Sub.refl _) D₅)
/-- self.m(..) as a statement, a method of no arguments -/
theorem selfCall0S {m : Str} {f : Addr} {p1 p2 p3 : Pos} {pl : Sem Bool} {va vb vmb vop vfb vb2j vbj vpop : Option Value} {sf : Str} {Q : Value → Shared → Prop} (M : Meth m f) (S : St w env G₀ h₀ own l G h) (hs : Has l sf (.ref x)) (X : SelfAt h x dx od (mAt va vb vmb vop vfb vb2j vbj vpop))
    (k : wpAny (model pw w) A (call (.ref f) [.ref x]) Q E (mkS s h t))
    (he : PySem.eval (.Call (.Attribute (.Name sf p1) m p2) [] [] p3) env = (do
      let ov ← PySem.eval (.Name sf p1) env
      standAt p2.atName
      let (f, first) ← holding [ov] (getMethod ov m pl)
      callWith p3 f first (backTo p3 (starEach [] env)) []) := by rfl) (hd : (sf == ("__debug__" : Str)) = false := by decide +kernel) :
    wpAny (model pw w) A (PySem.eval (.Call (.Attribute (.Name sf p1) m p2) [] [] p3) env) Q E (mkS s h t) :=
  MethodCall_ (ldS S hs (methA S X.inst X.dict X.map (look_mAt M.free) M.find M.typ (callWith_K0 S.bsNow.X (M.keep _) k)) hd) he
theorem selfCallS {m : Str} {f : Addr} {p1 p2 p3 : Pos} {pl : Sem Bool} {va vb vmb vop vfb vb2j vbj vpop : Option Value} {sf : Str} {e : PySem.Expr} {rest : List PySem.Expr} {Q : Value → Shared → Prop} (M : Meth m f) (S : St w env G₀ h₀ own l G h) (hs : Has l sf (.ref x)) (X : SelfAt h x dx od (mAt va vb vmb vop vfb vb2j vbj vpop))
    (k : wpAny (model pw w) A (spliced (backTo p3 (starEach (e :: rest) env))) (fun vs s₁ => (K w.params).In s₁.heap ∧ wpAny (model pw w) A (call (.ref f) (.ref x :: vs)) Q E s₁) E (mkS s h t))
    (he : PySem.eval (.Call (.Attribute (.Name sf p1) m p2) (e :: rest) [] p3) env = (do
      let ov ← PySem.eval (.Name sf p1) env
      standAt p2.atName
      let (f, first) ← holding [ov] (getMethod ov m pl)
      callWith p3 f first (backTo p3 (starEach (e :: rest) env)) []) := by rfl) (hd : (sf == ("__debug__" : Str)) = false := by decide +kernel)
    (he2 : starEach (e :: rest) env = (false, PySem.eval e env) :: starEach rest env := by rfl) (hplain : (backTo p3 (starEach rest env)).any (·.1) = false := by rfl) :
    wpAny (model pw w) A (PySem.eval (.Call (.Attribute (.Name sf p1) m p2) (e :: rest) [] p3) env) Q E (mkS s h t) :=
  MethodCall_ (ldS S hs (methA S X.inst X.dict X.map (look_mAt M.free) M.find M.typ (callWithK M.keep S k he2 hplain)) hd) he
/-- set_seq2 -/
theorem seq2_spec {la lb : Addr} {bs : List Int} {Q : Value → Shared → Prop} (S : St w env G₀ h₀ ((dx, od) :: own) l G h) (hx : G x = some (instObj 380 dx))
    (D : DictM (mAt (some (.ref la)) (some .none) (some .none) (some .none) none none none none) od) (rb : Rep G (.ref lb) (dInts bs)) (hnd : bs.Nodup) (hlen : bs.length ≤ 500) (hh : A.handled = none) (hroom : A.depth + 2 < recursionLimit)
    (k : ∀ h' G' t' od' d sj sp led, St w env G₀ h₀ ((dx, od') :: own) l G' h' → G.Sub G' → DictM (mAt (some (.ref la)) (some (.ref lb)) (some .none) (some .none) (some .none) (some (.ref d)) (some (.ref sj)) (some (.ref sp))) od' → B2j w G' d bs → G' sj = some (setO led) → Q .none (mkS s h' t')) :
    wpAny (model pw w) A (call (.ref 319) [.ref x, .ref lb]) Q E (mkS s h t) := by
  refine callOff (new := [(dx, od)]) (names := n319) (l₁ := [(nSelf, some (.ref x)), (Str.ofString "b", some (.ref lb))]) S K319 C319 rfl (by rfl) (.cons .head (.cons (.tail .head) .nil)) (by decide +kernel) (by lia) fun h₁ t₁ S₁ => ?_
  refine seqS (wpAny_Expr (Calls.Constant_str ?_))
  refine seqS (wpAny_If (wpAny_isTrue_Compare1 (ldS S₁ (by walk_at "mem") (attrS S₁ (by walk_at "mem") (selfAt S₁ hx (.head _) D mAt_nd) (name := aB) (by walk_at "mem") (by decide +kernel) rfl fun t₂ => is_ref_none (wpAny_truthy_bool ?_)))))
  refine wpAny_execs_nil ?_
  refine seqS (plainObj_wpAny_Assign_Attribute (ldS S₁ (by walk_at "mem") (ldS S₁ (by walk_at "mem") (setA S₁ (S₁.gin _ _ hx) (fun o' => .head) D (name := aB) (by walk_at "set") mAt_nd (by decide +kernel) (Nat.le_of_ble_eq_true rfl) fun h₃ t₃ o₃ S₃ D₃ => ?_))))
  refine seqS (wpAny_Assign_two (wpAny_Constant_none ?_))
  refine putS S₃ (by walk_at "mem") (selfAt S₃ hx (.head _) D₃ mAt_nd) (fun o' => .head) (by walk_at "set") (by decide +kernel) (Nat.le_of_ble_eq_true rfl) fun h₄ t₄ o₄ S₄ D₄ => ?_
  refine putS S₄ (by walk_at "mem") (selfAt S₄ hx (.head _) D₄ mAt_nd) (fun o' => .head) (by walk_at "set") (by decide +kernel) (Nat.le_of_ble_eq_true rfl) fun h₅ t₅ o₅ S₅ D₅ => ?_
  refine seqS (plainObj_wpAny_Assign_Attribute (wpAny_Constant_none (ldS S₅ (by walk_at "mem") (setA S₅ (S₅.gin _ _ hx) (fun o' => .head) D₅ (name := aFb) (by walk_at "set") mAt_nd (by decide +kernel) (Nat.le_of_ble_eq_true rfl) fun h₆ t₆ o₆ S₆ D₆ => ?_))))
  refine seqS (wpAny_Expr (selfCall0S meth_chain S₆ (by walk_at "mem") (selfAt S₆ hx (.head _) D₆ mAt_nd) ?_))
  refine chain_spec S₆ hx D₆ rb hnd hlen (by exact hh) (by show A.depth + 1 < _; lia) fun h₇ G₇ t₇ o₇ d sj sp led S₇ g₇ D₇ B₇ e₇ => ?_
  exact wpAny_execs_nil (k _ _ _ _ d sj sp led (S.leave S₇) g₇ D₇ B₇ e₇)
/-- set_seqs -/
theorem seqs_spec {la lb : Addr} {bs : List Int} {Q : Value → Shared → Prop} (S : St w env G₀ h₀ ((dx, od) :: own) l G h) (hx : G x = some (instObj 380 dx))
    (D : DictM (mAt (some .none) (some .none) none none none none none none) od) (rb : Rep G (.ref lb) (dInts bs)) (hnd : bs.Nodup) (hlen : bs.length ≤ 500) (hh : A.handled = none) (hroom : A.depth + 3 < recursionLimit)
    (k : ∀ h' G' t' od' d sj sp led, St w env G₀ h₀ ((dx, od') :: own) l G' h' → G.Sub G' → DictM (mAt (some (.ref la)) (some (.ref lb)) (some .none) (some .none) (some .none) (some (.ref d)) (some (.ref sj)) (some (.ref sp))) od' → B2j w G' d bs → G' sj = some (setO led) → Q .none (mkS s h' t')) :
    wpAny (model pw w) A (call (.ref 305) [.ref x, .ref la, .ref lb]) Q E (mkS s h t) := by
  refine callOff (new := [(dx, od)]) (names := n305) (l₁ := [(nSelf, some (.ref x)), (Str.ofString "a", some (.ref la)), (Str.ofString "b", some (.ref lb))]) S K305 C305 rfl (by rfl) (.cons .head (.cons (.tail .head) (.cons (.tail (.tail .head)) .nil))) (by decide +kernel) (by lia) fun h₁ t₁ S₁ => ?_
  refine seqS (wpAny_Expr (Calls.Constant_str ?_))
  refine seqS (wpAny_Expr (selfCallS meth_seq1 S₁ (by walk_at "mem") (selfAt S₁ hx (.head _) D mAt_nd) (args_cons (ldS S₁ (by walk_at "mem") (args_nil ⟨S₁.bsNow.X, ?_⟩)))))
  refine seq1_spec S₁ hx D (by show A.depth + 1 < _; lia) fun h₂ G₂ t₂ o₂ S₂ g₂ D₂ => ?_
  refine seqS (wpAny_Expr (selfCallS meth_seq2 S₂ (by walk_at "mem") (selfAt S₂ (g₂ _ _ hx) (.head _) D₂ mAt_nd) (args_cons (ldS S₂ (by walk_at "mem") (args_nil ⟨S₂.bsNow.X, ?_⟩)))))
  refine seq2_spec S₂ (g₂ _ _ hx) D₂ (rb.mono g₂) hnd hlen (by exact hh) (by show A.depth + 1 + 2 < _; lia) fun h₃ G₃ t₃ o₃ d sj sp led S₃ g₃ D₃ B₃ e₃ => ?_
  exact wpAny_execs_nil (k _ _ _ _ d sj sp led (S.leave S₃) (g₂.trans g₃) D₃ B₃ e₃)
theorem attrs_nd : attrs.Nodup := by decide +kernel
/-- __init__ -/
theorem init_code {la lb : Addr} {bs : List Int} {R : Result → Shared → Prop} (S : St w env G₀ h₀ ((dx, emptyDict) :: own) l G h) (hx : G x = some (instObj 380 dx))
    (rb : Rep G (.ref lb) (dInts bs)) (hnd : bs.Nodup) (hlen : bs.length ≤ 500) (hh : A.handled = none) (hroom : A.depth + 4 < recursionLimit)
    (k : ∀ h' G' t' od' d sj sp led, St w env G₀ h₀ ((dx, od') :: own) l G' h' → G.Sub G' → DictM (mAt (some (.ref la)) (some (.ref lb)) (some .none) (some .none) (some .none) (some (.ref d)) (some (.ref sj)) (some (.ref sp))) od' → B2j w G' d bs → G' sj = some (setO led) → R (.ok (.ret .none)) (mkS s h' t')) :
    codeAny (model pw w) A (.call (.ref 298) ⟨[.ref x, .none, .ref la, .ref lb, .bool false], []⟩) R (mkS s h t) := by
  have hb : BindsTo (mkS s h t) fd298 ⟨[.ref x, .none, .ref la, .ref lb, .bool false], []⟩ [(nSelf, .ref x), (Str.ofString "isjunk", .none), (Str.ofString "a", .ref la), (Str.ofString "b", .ref lb), (Str.ofString "autojunk", .bool false)] :=
    BindsTo.of_defaults (T := 291) rfl (S.bsNow.X 291 (ob291 _) rfl) rfl rfl rfl
  refine code_off (new := [(dx, emptyDict)]) (names := n298) (l₁ := [(nSelf, some (.ref x)), (Str.ofString "isjunk", some .none), (Str.ofString "a", some (.ref la)), (Str.ofString "b", some (.ref lb)), (Str.ofString "autojunk", some (.bool false))]) S K298 C298 rfl hb
    (.cons .head (.cons (.tail .head) (.cons (.tail (.tail .head)) (.cons (.tail (.tail (.tail .head))) (.cons (.tail (.tail (.tail (.tail .head)))) .nil))))) (by decide +kernel) (by lia) fun h₁ t₁ S₁ => ?_
  have D : DictM (attrs.map fun n => (n, none)) emptyDict := DictM.empty attrs
  have nd : ∀ {m : Loc}, m.map (·.1) = attrs → (m.map (·.1)).Nodup := fun e => e ▸ attrs_nd
  refine seqS (wpAny_Expr (Calls.Constant_str ?_))
  refine seqS (plainObj_wpAny_Assign_Attribute (ldS S₁ (by walk_at "mem") (ldS S₁ (by walk_at "mem") (setA (m' := [(aA, none), (aB, none), (aJunk, some .none), (aAuto, none), (aMB, none), (aOp, none), (aFb, none), (aB2j, none), (aBj, none), (aPop, none)]) S₁ (S₁.gin _ _ hx) (fun o' => .head) D (name := aJunk) (.tail (.tail .head)) (nd rfl) (by decide +kernel) (Nat.le_of_ble_eq_true rfl) fun h₂ t₂ o₂ S₂ D₂ => ?_))))
  refine seqS (wpAny_Assign_two (wpAny_Constant_none ?_))
  refine putS S₂ (by walk_at "mem") (selfAt S₂ hx (.head _) D₂ (nd rfl)) (fun o' => .head) (by walk_at "set") (by decide +kernel) (Nat.le_of_ble_eq_true rfl) fun h₃ t₃ o₃ S₃ D₃ => ?_
  refine putS S₃ (by walk_at "mem") (selfAt S₃ hx (.head _) D₃ (nd rfl)) (fun o' => .head) (by walk_at "set") (by decide +kernel) (Nat.le_of_ble_eq_true rfl) fun h₄ t₄ o₄ S₄ D₄ => ?_
  refine seqS (plainObj_wpAny_Assign_Attribute (ldS S₄ (by walk_at "mem") (ldS S₄ (by walk_at "mem") (setA S₄ (S₄.gin _ _ hx) (fun o' => .head) D₄ (name := aAuto) (by walk_at "set") (nd rfl) (by decide +kernel) (Nat.le_of_ble_eq_true rfl) fun h₅ t₅ o₅ S₅ D₅ => ?_))))
  refine seqS (wpAny_Expr (selfCallS meth_seqs S₅ (by walk_at "mem") (selfAt S₅ hx (.head _) D₅ mAt_nd) (args_cons (ldS S₅ (by walk_at "mem") (args_cons (ldS S₅ (by walk_at "mem") (args_nil ⟨S₅.bsNow.X, ?_⟩)))))))
  refine seqs_spec S₅ hx D₅ rb hnd hlen (by exact hh) (by show A.depth + 1 + 3 < _; lia) fun h₆ G₆ t₆ o₆ d sj sp led S₆ g₆ D₆ B₆ e₆ => ?_
  exact wpAny_execs_nil (k _ _ _ _ d sj sp led (S.leave S₆) g₆ D₆ B₆ e₆)
theorem wt380 (args : List Value) : (Code.builtin "type.__call__" ⟨.ref 380 :: args, []⟩).weight = 1 := by kernel_rfl
theorem makes380 (P : Params) : makesIn (K P) 380 = true := by kernel_rfl
theorem init380 (P : Params) : findIn (K P) (.ref 380) "__init__" = some (some (.ref 298)) := by kernel_rfl
theorem typ298 (P : Params) : typeIn (K P) (.ref 298) = some (.type "function") := by kernel_rfl
/-- SequenceMatcher(None, a, b, False) -/
theorem matcher_spec {la lb : Addr} {bs : List Int} {Q : Value → Shared → Prop} (S : St w env G₀ h₀ own l G h)
    (rb : Rep G (.ref lb) (dInts bs)) (hnd : bs.Nodup) (hlen : bs.length ≤ 500) (hh : A.handled = none) (hroom : A.depth + 6 < recursionLimit)
    (k : ∀ h' G' t' x dx od' d sj sp led, St w env G₀ h₀ ((dx, od') :: own) l G' h' → G.Sub G' → G' x = some (instObj 380 dx) → DictM (mAt (some (.ref la)) (some (.ref lb)) (some .none) (some .none) (some .none) (some (.ref d)) (some (.ref sj)) (some (.ref sp))) od' → B2j w G' d bs → G' sj = some (setO led) → Q (.ref x) (mkS s h' t')) :
    wpAny (model pw w) A (call (.ref 380) [.none, .ref la, .ref lb, .bool false]) Q E (mkS s h t) := by
  have X := S.bsNow.X
  refine wpAny_call (make_core (makes_of X (makes380 _)) (looks_findIn X (init380 _)) (fun self => bind_fn X self (typ298 _)) (.inl rfl) ?_)
  have S1 := S.pushOwn emptyDict rfl
  obtain ⟨S2, g2⟩ := S1.push (instObj 380 h.objs.size) rfl
  have e2 : (h.push emptyDict).objs.size = h.objs.size + 1 := Heap.size_push ..
  rw [e2] at S2 g2
  refine init_code (x := h.objs.size + 1) (dx := h.objs.size) (t := t) S2 Store.put_self (rb.mono g2) hnd hlen (by exact hh) (by show A.depth + (Code.builtin "type.__call__" ⟨.ref 380 :: _, []⟩).weight + 4 < _; rw [wt380]; lia) fun h' G' t' od' d sj sp led S' g' D' B' e' => ?_
  exact ⟨rfl, k _ _ _ _ _ _ _ _ _ _ S' (g2.trans g') (g' _ _ Store.put_self) D' B' e'⟩
end
structure TC (C fN sm : Addr) : Prop where
  obj : ∀ P, ∃ oc od cd sl, (K P).lookup C = some ⟨oc, od, .cls cd, sl⟩ ∧ cd.mro = [.ref C, .type "tuple", .type "object"] ∧ cd.bases = [.type "tuple"] ∧ cd.hasDel = false ∧ sl[4]? = some (some .none)
  call : ∀ P, specialIn (K P) (.ref C) "__call__" = some (some (.builtin "type.__call__"))
  typ : ∀ P, instIn (K P) (.ref C) (.type "type") = some true
  init : ∀ P, findIn (K P) (.ref C) "__init__" = some (some (.builtin "object.__init__"))
  reads : ∀ P, readsIn (K P) C (.type "type") = true
  new : ∀ P, findCls (K P) (.ref C) (.type "type") "__new__" = some (.get (.builtin "staticmethod.__get__") (.ref sm) .none (.ref C))
  sta : ∀ P, recIn (K P) sm "staticmethod" = some [.ref fN]
  iter : ∀ P, findIn (K P) (.ref C) "__iter__" = some (some (.builtin "tuple.__iter__"))
  keep : ∀ P, keepIn (K P) (.ref C) = true
theorem tc_match : TC 273 220 274 := ⟨fun P => ⟨_, _, _, _, rfl, rfl, rfl, rfl, rfl⟩, fun P => by kernel_rfl, fun P => by kernel_rfl, fun P => by kernel_rfl, fun P => by kernel_rfl, fun P => by kernel_rfl, fun P => by kernel_rfl, fun P => by kernel_rfl, fun P => by kernel_rfl⟩
theorem tc_mismatch : TC 149 96 150 := ⟨fun P => ⟨_, _, _, _, rfl, rfl, rfl, rfl, rfl⟩, fun P => by kernel_rfl, fun P => by kernel_rfl, fun P => by kernel_rfl, fun P => by kernel_rfl, fun P => by kernel_rfl, fun P => by kernel_rfl, fun P => by kernel_rfl, fun P => by kernel_rfl⟩
theorem oi_args4 (a b c d : Value) : argsOk "object.__init__" ⟨[a, b, c, d], []⟩ := by unfold argsOk; kernel_rfl
theorem made_tuple : Bind.madeBy (.type "tuple") = pure (some "tuple.__new__") := PySem.F.called_tuple.made
section
variable {w : World} {C fN sm : Addr} {h : Heap}
theorem TC.mro {M : Model} (T : TC C fN sm) (X : (K w.params).In h) : Looks M h (mroOf (.ref C)) [.ref C, .type "tuple", .type "object"] := by
  obtain ⟨oc, od, cd, sl, ho, hm, hb, hd, hs⟩ := T.obj w.params
  have hc : clsIn (K w.params) C = some cd := by unfold clsIn; rw [ho]
  exact hm ▸ (looks_clsIn X hc).andThen .now
theorem TC.made {M : Model} (T : TC C fN sm) (X : (K w.params).In h) : Looks M h (Bind.madeBy (.ref C)) none := by
  have hm := T.mro (M := M) X
  obtain ⟨oc, od, cd, sl, ho, _, hb, hd, hs⟩ := T.obj w.params
  intro A Q E s k q
  unfold Bind.madeBy
  refine wpAny_bind (hm A _ E s k ?_)
  rw [List.forIn_cons]
  refine wpAny_bind (wpAny_bind (wpAny_bind (wpAny_bind (wpAny_loadPart (k _ _ (X _ _ ho)) (wpAny_pure ?_)))))
  dsimp only
  rw [hs]
  exact wpAny_pure (wpAny_pure (wpAny_pure q))
theorem TC.base {M : Model} (T : TC C fN sm) (X : (K w.params).In h) : Looks M h (Bind.staticBase (.ref C)) (.type "tuple") := by
  have hm := T.mro (M := M) X
  have made := T.made (M := M) X
  obtain ⟨oc, od, cd, sl, ho, _, hb, hd, hs⟩ := T.obj w.params
  have hc : clsIn (K w.params) C = some cd := by unfold clsIn; rw [ho]
  have hbest : Builtin.Slots.bestBase [.type "tuple"] = pure (.type "tuple") := by first | rfl | kernel_rfl
  intro A Q E s k q
  unfold Bind.staticBase
  refine wpAny_bind (hm A _ E s k ?_)
  rw [List.forIn_cons]
  refine wpAny_bind (wpAny_bind (wpAny_bind (made A _ E s k ?_)))
  refine KFB.if_not (by decide) ?_
  refine wpAny_bind ((looks_clsIn X hc) A _ E s k ?_)
  rw [hb, hbest]
  refine wpAny_bind (wpAny_pure (wpAny_pure ?_))
  dsimp only
  rw [List.forIn_cons]
  have made2 : Looks M h (Bind.madeBy (.type "tuple")) (some "tuple.__new__") := Looks.of_pure made_tuple
  refine wpAny_bind (wpAny_bind (made2 A _ E s k ?_))
  refine KFB.if_so (by decide) ?_
  exact wpAny_pure (wpAny_pure (wpAny_pure q))
theorem TC.here {M : Model} (T : TC C fN sm) (X : (K w.params).In h) : Looks M h (Bind.madeHere "tuple.__new__" (.ref C)) () := by
  unfold Bind.madeHere
  refine (T.base X).andThen ?_
  rw [made_tuple]
  refine Looks.andThen .now ?_
  refine Looks.of_pure ?_
  show (if (some (Manifest.canonical "tuple.__new__") != some (Manifest.canonical "tuple.__new__")) = true then _ else _) = _
  rw [if_neg (by simp)]
theorem TC.sub {M : Model} (T : TC C fN sm) (X : (K w.params).In h) {b : Value} {r : Bool} (hr : ([.ref C, .type "tuple", .type "object"] : List Value).contains b = r) : Looks M h (isSubtype (.ref C) b) r := by
  obtain ⟨oc, od, cd, sl, ho, hm, hb, hd, hs⟩ := T.obj w.params
  refine looks_mroIn X ?_
  unfold mroIn clsIn
  rw [ho, Option.bind_some, hm, if_neg (by simp), hr]
end
/-- C(v..) over its own __new__ -/
theorem make_tup {w : World} {A : Around} {E : Value → Shared → Prop} {C fN sm : Addr} {va vb vc : Value} {Q : Value → Shared → Prop} {h : Heap} {g : Array GenState} {d : Drawn} {t : Nat} {os : OsState} (T : TC C fN sm) (X : (K w.params).In h)
    (hn : wpAny (model pw w) (A.under (.builtin "type.__call__" ⟨.ref C :: [va, vb, vc], []⟩)) (call (.ref fN) (.ref C :: [va, vb, vc])) (fun v s' => ∃ m om, v = .ref m ∧ s'.heap.get? m = some om ∧ om.cls = .ref C ∧ (K w.params).In s'.heap ∧ Q v s') E ⟨h, g, d, t + 1, os⟩) :
    wpAny (model pw w) A (call (.ref C) [va, vb, vc]) Q E ⟨h, g, d, t, os⟩ := by
  have hm := T.mro (M := model pw w) X
  have made := T.made (M := model pw w) X
  have hcall := looks_specialIn (M := model pw w) X (T.call _)
  have typ := looks_instIn (M := model pw w) X (T.typ _)
  obtain ⟨oc, od, cd, sl, ho, _, hb, hd, hs⟩ := T.obj w.params
  refine wpAny_call (codeAny_of_tree ?_)
  show wpAny _ _ (callAny (.ref C) _) _ _ _
  refine nd_load (X _ _ ho) ?_
  show wpAny _ _ (callAny.viaDunder (.ref C) _) _ _ _
  unfold callAny.viaDunder
  refine wpAny_bind (hcall.at ?_)
  dsimp only
  rw [tc_bind]
  refine wpAny_bind (wpAny_pure (wpAny_bind (wpAny_pure ?_)))
  refine wpAny_pure (a := Fin.again (.call (.builtin "type.__call__") ⟨.ref C :: [va, vb, vc], []⟩)) (And.intro rfl ?_)
  refine codeAny_call_builtin_at (Code.quiet_builtin _ (by decide +kernel)) entry_typeCall (@check_slot (model pw w) _ _ _ "type.__call__" "type" "__call__" (.ref C) [va, vb, vc] [] _ tc_kind tc_split typ (tc_args _ _ _) ?_)
  unfold Builtin.«type.__call__»
  dsimp only
  refine KFB.if_not (by rfl) ?_
  refine wpAny_bind (hm.at ?_)
  refine KFB.if_not (by rfl) ?_
  refine wpAny_bind (made.at ?_)
  dsimp only
  refine wpAny_bind (cls_bind (s := ⟨h, g, d, t, os⟩) X (T.reads _) (T.new _) ?_)
  refine wpAny_call (sm_get (s := ⟨h, g, d, t + 1, os⟩) X (T.sta _) ?_)
  refine handed_on rfl ?_
  refine wpAny_bind (wpAny_holding (wpAny_mono hn (fun v s' hv => ?_) fun _ _ e => ?_))
  · obtain ⟨m, om, rfl, hm', hc', X', q⟩ := hv
    have L0 : Looks (model pw w) s'.heap (typeOf (.ref m)) (.ref C) := hc' ▸ (Looks.ld hm').andThen .now
    have L1 : Looks (model pw w) s'.heap (isInstance (.ref m) (.ref C)) true := L0.andThen (T.sub X' (by simp))
    have L2 : Looks (model pw w) s'.heap (isInstance (.ref m) (.type "object")) true := L0.andThen (T.sub X' (by simp))
    have L3 := looks_findIn (M := model pw w) X' (T.init _)
    refine wpAny_bind (L1.here ?_)
    refine KFB.if_not (by decide) ?_
    refine wpAny_bind (wpAny_holding ?_)
    refine wpAny_bind (wpAny_bind (L0.here (L3.here (wpAny_holding ?_))))
    dsimp only
    rw [oi_bind]
    refine wpAny_bind (wpAny_pure ?_)
    show wpAny _ _ (call (.builtin "object.__init__") [.ref m, va, vb, vc] >>= _) _ _ _
    refine wpAny_bind (wpAny_call (codeAny_call_builtin oi_plain entry_oi (@check_slot (model pw w) _ _ s' "object.__init__" "object" "__init__" (.ref m) [va, vb, vc] [] _ oi_kind oi_split L2 (oi_args4 _ _ _ _) ?_)))
    unfold Builtin.«object.__init__»
    dsimp only
    refine KFB.if_so (by rfl) ?_
    refine wpAny_bind (L0.here ?_)
    refine wpAny_bind (L3.here ?_)
    refine wpAny_bind ((T.made X').here ?_)
    refine KFB.if_not (by simp) ?_
    refine KFB.if_not (by simp) ?_
    refine wpAny_pure ?_
    refine wpAny_pure ?_
    dsimp only
    refine KFB.if_not (by rfl) ?_
    exact wpAny_pure q
  · exact e
theorem kind_tn : builtinKind "tuple.__new__" = some .builtinFn := by decide +kernel
theorem split_tn : splitId "tuple.__new__" = some ("tuple", "__new__") := by decide +kernel
theorem args_tn (C : Addr) (x : Value) : argsOk "tuple.__new__" ⟨[.ref C, x], []⟩ := by unfold argsOk; kernel_rfl
theorem plain_tn : plainId "tuple.__new__" = true := by decide +kernel
noncomputable abbrev tcO (C dm : Addr) (vs : List Value) : Obj := { cls := .ref C, dict := some dm, data := .seq vs.toArray }
theorem collect_tup {w : World} {A : Around} {E : Value → Shared → Prop} {s : Shared} {l : Addr} {vs : List Value} {o : Obj} {n : Nat} {Q : List Value → Shared → Prop} (ho : s.heap.get? l = some o) (hc : o.cls = .type "tuple") (hd : o.data = .seq vs.toArray n)
    (h : Q vs { s with heap := (s.heap.push (seqObj "list" #[] 0)).update s.heap.objs.size (Obj.mapSeq (· ++ vs.toArray)) }) (hsz : vs.length ≤ sizeLine) :
    wpAny (model pw w) A (collect (.ref l)) Q E s := by
  unfold collect
  refine wpAny_bind (wpAny_runValue (codeAny_builtin entry_proto_collect' ?_))
  show wpAny _ _ (do again (.builtin "list.__iadd__" ⟨[← newList [], .ref l], []⟩)) _ _ s
  refine wpAny_bind (wpAny_newList (wpAny_pure ⟨Code.quiet_builtin _ (by decide +kernel), codeAny_builtin entry_list_iadd' ?_⟩))
  show wpAny _ _ (Builtin.List.listExtendWith (.ref s.heap.objs.size) (.ref l) (.ref s.heap.objs.size)) _ _ { s with heap := s.heap.push (seqObj "list" #[] 0) }
  unfold Builtin.List.listExtendWith
  have ho' : (s.heap.push (seqObj "list" #[] 0)).get? l = some o := Heap.get?_push_of_some _ ho
  refine wpAny_bind (wpAny_typeOf (T := "tuple") ⟨o, ho', hc⟩ ?_)
  rw [if_pos (by simp)]
  refine wpAny_bind (listItems_at ho' hd ?_)
  refine wpAny_bind (listItems_at (xs := #[]) (n := 0) (Heap.get?_push_size _ rfl) rfl ?_)
  rw [if_neg (by simp)]
  refine wpAny_bind (listUpdate_at (xs := #[]) (n := 0) (Heap.get?_push_size _ rfl) rfl ?_ (Nat.zero_le _) (by show (#[] ++ vs.toArray).size ≤ sizeLine + 1; simp only [Array.size_append, List.size_toArray, List.length_nil]; lia))
  refine wpAny_pure ?_
  show wpAny (model pw w) A (do
      let o ← load s.heap.objs.size
      match o.data with
      | .seq xs _ => pure xs.toList
      | _ => unsupported "internal:collect") Q E { s with heap := (s.heap.push (seqObj "list" #[] 0)).update s.heap.objs.size (Obj.mapSeq (· ++ vs.toArray)) }
  refine wpAny_bind (wpAny_load (get?_update_seq (Heap.get?_push_size _ rfl) _) ?_)
  show wpAny _ _ (pure ((#[] : Array Value) ++ vs.toArray).toList) Q E _
  rw [show ((#[] : Array Value) ++ vs.toArray).toList = vs by simp]
  exact wpAny_pure h
section
variable {w : World} {env : Env} {G₀ G : Store} {h₀ h : Heap} {own : List (Addr × Obj)} {l : Loc} {A : Around} {E : Value → Shared → Prop} {s : Shared} {t : Nat} {C fN sm : Addr}
/-- tuple.__new__(C, tuple) -/
theorem tnewS {tp : Addr} {vs : List Value} {o : Obj} {n : Nat} {Q : Value → Shared → Prop} (T : TC C fN sm) (S : St w env G₀ h₀ own l G h) (ho : h.get? tp = some o) (hc : o.cls = .type "tuple") (hd : o.data = .seq vs.toArray n) (hz : vs.length ≤ 100)
    (k : ∀ h' G' m dm, St w env G₀ h₀ own l G' h' → G.Sub G' → G' m = some (tcO C dm vs) → Q (.ref m) (mkS s h' t)) :
    wpAny (model pw w) A (call (.builtin "tuple.__new__") [.ref C, .ref tp]) Q E (mkS s h t) := by
  have X := S.bsNow.X
  obtain ⟨oc, od, cd, sl, hC, hm, hb, hdel, hs⟩ := T.obj w.params
  have ity : Looks (model pw w) h (isType (.ref C)) true := (Looks.ld (X _ _ hC)).andThen .now
  have sub := T.sub (M := model pw w) X (b := .type "tuple") (r := true) (by simp)
  have base := T.base (M := model pw w) X
  have here := T.here (M := model pw w) X
  have init := looks_findIn (M := model pw w) X (T.init _)
  refine wpAny_call (codeAny_call_builtin plain_tn PySem.F.entry_tuple_new ?_)
  simp only [checkBuiltinCall, kind_tn, split_tn]
  refine KFB.if_so (by decide) ?_
  refine wpAny_bind (ity.at ?_)
  refine KFB.if_not (by decide) ?_
  refine wpAny_bind (sub.at ?_)
  refine KFB.if_not (by decide) ?_
  refine wpAny_bind (base.at ?_)
  rw [made_tuple]
  refine wpAny_bind (wpAny_pure ?_)
  dsimp only
  refine KFB.if_not (by simp) ?_
  have body : wpAny (model pw w) A.in1 (Builtin.«tuple.__new__» ⟨[.ref C, .ref tp], []⟩) (fun fin s' => match fin with | .done f => (match f with | .ret v => Q v s' | _ => False) | .again c' => False) E (mkS s h t) := by
    unfold Builtin.«tuple.__new__»
    dsimp only
    refine wpAny_bind (ity.at ?_)
    refine KFB.if_not (by decide) ?_
    refine wpAny_bind (sub.at ?_)
    refine KFB.if_not (by decide) ?_
    refine wpAny_bind (here.at ?_)
    refine wpAny_bind (init.at ?_)
    refine KFB.if_so (by simp) ?_
    refine wpAny_bind (wpAny_of_eq (a := ()) (by rfl) ?_)
    refine wpAny_bind (wpAny_of_eq (a := ()) (by rfl) ?_)
    refine KFB.if_not (by simp) ?_
    have hsz := sizeLine_eq
    refine wpAny_bind (collect_tup (s := mkS s h t) ho hc hd ?_ (by lia))
    have S1 := S.pushOwn (seqObj "list" #[] 0) rfl
    have e1 := get?_update_seq (Heap.get?_push_size h (o := seqObj "list" #[] 0) rfl) (· ++ vs.toArray)
    have S2 := (S1.upd .head (Heap.SameBut.update _ _ (Obj.mapSeq (· ++ vs.toArray))) e1).dropAll (part := [_]) (own := own) (fun _ _ _ x => x)
    generalize (h.push (seqObj "list" #[] 0)).update h.objs.size (Obj.mapSeq (· ++ vs.toArray)) = h2 at S2 ⊢
    have S3 := (S2.pushOwn emptyDict rfl).dropAll (part := [_]) (own := own) (fun _ _ _ x => x)
    obtain ⟨S4, g4⟩ := S3.push (tcO C h2.objs.size vs) rfl
    refine wpAny_bind (wpAny_pure ?_)
    refine wpAny_bind (wpAny_alloc (s := mkS s h2 t) ?_)
    refine wpAny_bind (m := newObj _ _ _) ?_
    unfold newObj newObjAsIs classHasDel
    dsimp only
    rw [if_neg (show ¬ vs.toArray.size > sizeLine by rw [List.size_toArray]; lia)]
    refine wpAny_bind (wpAny_alloc (s := mkS s (h2.push emptyDict) t) ?_)
    refine wpAny_bind (wpAny_bind (wpAny_load (S4.bsNow.X _ _ hC) (wpAny_pure ?_)))
    rw [hdel]
    refine wpAny_pure (wpAny_pure ?_)
    exact k _ _ _ _ S4 g4 Store.put_self
  have conv : ∀ (fin : Fin) (s' : Shared), (match fin with | .done f => (match f with | .ret v => Q v s' | _ => False) | .again c' => False) →
      (match fin with | .done f => (match (Except.ok f : Result) with | .ok (.ret v) => Q v s' | .ok _ => False | .error e => E e s') | .again c' => c'.quiet = true ∧ codeAny (model pw w) A c' (wants Q E) s') := fun fin s' q => by
    cases fin with
    | done f => cases f <;> first | exact q | exact q.elim
    | again c => exact q.elim
  have hfin := wpAny_mono body conv fun _ _ x => x
  cases hsig : Manifest.signature? "tuple.__new__" with
  | none => exact wpAny_pure hfin
  | some sig =>
    have ha := args_tn C (.ref tp)
    simp only [argsOk, hsig] at ha
    show wpAny _ _ (Bind.checkArgs "tuple.__new__" sig ⟨[.ref C, .ref tp], []⟩) _ _ _
    rw [ha]; exact wpAny_pure hfin
end
noncomputable abbrev fd220 : FuncData := fnOf (Str.ofString "__new__") (Str.ofString "Match.__new__") F220.1 F220.2.1 F220.2.2.1 Value.none Value.none (Value.str (docOr F220.2.1) 521) (Value.str (Str.ofString "cpy313.difflib") 431) none (Value.ref 219) Value.none
theorem K220 (P : Params) : (K P).lookup 220 = some ⟨.type "function", none, .func fd220, #[]⟩ := by rfl
theorem C220 (P : Params) : codeIn (K P) fd220.code fd220.qualname = true := by rfl
noncomputable def n220 : List Str := [Str.ofString "_cls", Str.ofString "a", Str.ofString "b", Str.ofString "size"]
noncomputable abbrev fd96 : FuncData := fnOf (Str.ofString "__new__") (Str.ofString "Mismatch.__new__") F96.1 F96.2.1 F96.2.2.1 Value.none Value.none (Value.str (docOr F96.2.1) 310) (Value.str (Str.ofString "cpy313.unittest.util") 194) none (Value.ref 95) Value.none
theorem K96 (P : Params) : (K P).lookup 96 = some ⟨.type "function", none, .func fd96, #[]⟩ := by rfl
theorem C96 (P : Params) : codeIn (K P) fd96.code fd96.qualname = true := by rfl
noncomputable def n96 : List Str := [Str.ofString "_cls", Str.ofString "actual", Str.ofString "expected", Str.ofString "value"]
theorem tnew_find (P : Params) : findCls (K P) (.type "tuple") (.type "type") (Str.ofString "__new__") = some (.val (.builtin "tuple.__new__")) := by kernel_rfl
section
variable {w : World} {env : Env} {G₀ G : Store} {h₀ h : Heap} {own : List (Addr × Obj)} {l : Loc} {A : Around} {E : Value → Shared → Prop} {s : Shared} {t : Nat}
theorem type_tuple : typeOf (.type "tuple") = pure (.type "type") := by first | rfl | kernel_rfl
theorem stub_tuple : Manifest.isStub "tuple" = false := by decide +kernel
theorem meth_tnew {pl : Sem Bool} {Q : Value × List Value → Shared → Prop} (S : St w env G₀ h₀ own l G h) (k : Q (.builtin "tuple.__new__", []) (mkS s h (t + 1))) : wpAny (model pw w) A (getMethod (.type "tuple") (Str.ofString "__new__") pl) Q E (mkS s h t) := by
  have F := S.fr
  have a := type_tuple
  have b := stub_tuple
  have c := tnew_find w.params
  have d : handedIn (.builtin "tuple.__new__") = true := by decide +kernel
  have := @method_type pw w A E (mkS s h t) (K w.params) _ _ _ (Str.ofString "__new__") (.builtin "tuple.__new__") "tuple" pl Q F S.bs.X a b
  have := this c
  have := this d
  exact this k
theorem tupRawS {items : List Value} {Q : Value → Shared → Prop} (S : St w env G₀ h₀ own l G h) (k : ∀ h' G' a, St w env G₀ h₀ own l G' h' → G.Sub G' → G' a = some (tupO items) → Q (.ref a) (mkS s h' t)) (hz : items.length ≤ sizeLine := by size_fits) :
    wpAny (model pw w) A (newTuple items) Q E (mkS s h t) := by
  obtain ⟨S', k'⟩ := S.push (tupO items) rfl
  exact wpAny_newTuple (s := mkS s h t) (k _ _ _ S' k' Store.put_self) hz
/-- Match(a, b, c) -/
theorem match_spec {va vb vc : Value} {Q : Value → Shared → Prop} (S : St w env G₀ h₀ own l G h) (hroom : A.depth + 4 < recursionLimit)
    (k : ∀ h' G' t' m dm, St w env G₀ h₀ own l G' h' → G.Sub G' → G' m = some (tcO 273 dm [va, vb, vc]) → Q (.ref m) (mkS s h' t')) :
    wpAny (model pw w) A (call (.ref 273) [va, vb, vc]) Q E (mkS s h t) := by
  refine make_tup tc_match S.bsNow.X ?_
  refine callS (t := t + 1) (names := n220) (l₁ := [(Str.ofString "_cls", some (.ref 273)), (Str.ofString "a", some va), (Str.ofString "b", some vb), (Str.ofString "size", some vc)]) S K220 C220 rfl (by rfl) (.cons .head (.cons (.tail .head) (.cons (.tail (.tail .head)) (.cons (.tail (.tail (.tail .head))) .nil)))) (by decide +kernel) (by rw [depth_under_kw]; lia) fun h₁ t₁ S₁ => ?_
  refine seqS (wpAny_Expr (Calls.Constant_str ?_))
  refine seqS (wpAny_Return_some (MethodCall_ (biS S₁ nz_tuple bb_tuple (meth_tnew S₁ ?_))))
  refine PyProof.Rows.callWith_builtin1 (args_cons (ldS S₁ (by walk_at "mem") (args_cons (Tuple_ (args_cons (ldS S₁ (by walk_at "mem") (args_cons (ldS S₁ (by walk_at "mem") (args_cons (ldS S₁ (by walk_at "mem") (args_nil ?_)))))))))))
  refine tupRawS S₁ fun h₂ G₂ a S₂ g₂ e₂ => args_nil ?_
  refine tnewS tc_match S₂ (S₂.gin _ _ e₂) rfl rfl (Nat.le_of_ble_eq_true rfl) fun h₃ G₃ m dm S₃ g₃ e₃ => ?_
  have S₄ := S.back S₃
  exact ⟨m, _, rfl, S₄.gin _ _ e₃, rfl, S₄.bsNow.X, k _ _ _ m dm S₄ (g₂.trans g₃) e₃⟩
/-- Mismatch(a, b, c) -/
theorem mismatch_spec {va vb vc : Value} {Q : Value → Shared → Prop} (S : St w env G₀ h₀ own l G h) (hroom : A.depth + 4 < recursionLimit)
    (k : ∀ h' G' t' m dm, St w env G₀ h₀ own l G' h' → G.Sub G' → G' m = some (tcO 149 dm [va, vb, vc]) → Q (.ref m) (mkS s h' t')) :
    wpAny (model pw w) A (call (.ref 149) [va, vb, vc]) Q E (mkS s h t) := by
  refine make_tup tc_mismatch S.bsNow.X ?_
  refine callS (t := t + 1) (names := n96) (l₁ := [(Str.ofString "_cls", some (.ref 149)), (Str.ofString "actual", some va), (Str.ofString "expected", some vb), (Str.ofString "value", some vc)]) S K96 C96 rfl (by rfl) (.cons .head (.cons (.tail .head) (.cons (.tail (.tail .head)) (.cons (.tail (.tail (.tail .head))) .nil)))) (by decide +kernel) (by rw [depth_under_kw]; lia) fun h₁ t₁ S₁ => ?_
  refine seqS (wpAny_Expr (Calls.Constant_str ?_))
  refine seqS (wpAny_Return_some (MethodCall_ (biS S₁ nz_tuple bb_tuple (meth_tnew S₁ ?_))))
  refine PyProof.Rows.callWith_builtin1 (args_cons (ldS S₁ (by walk_at "mem") (args_cons (Tuple_ (args_cons (ldS S₁ (by walk_at "mem") (args_cons (ldS S₁ (by walk_at "mem") (args_cons (ldS S₁ (by walk_at "mem") (args_nil ?_)))))))))))
  refine tupRawS S₁ fun h₂ G₂ a S₂ g₂ e₂ => args_nil ?_
  refine tnewS tc_mismatch S₂ (S₂.gin _ _ e₂) rfl rfl (Nat.le_of_ble_eq_true rfl) fun h₃ G₃ m dm S₃ g₃ e₃ => ?_
  have S₄ := S.back S₃
  exact ⟨m, _, rfl, S₄.gin _ _ e₃, rfl, S₄.bsNow.X, k _ _ _ m dm S₄ (g₂.trans g₃) e₃⟩
end
/-! ## blocks of two lists -/
noncomputable def Blk (as bs : List Int) (i j n : Nat) : Prop := ∀ t, t < n → ∃ x, as[i + t]? = some x ∧ bs[j + t]? = some x
theorem Blk.zero {as bs : List Int} {i j : Nat} : Blk as bs i j 0 := fun t h => absurd h (Nat.not_lt_zero _)
theorem Blk.one {as bs : List Int} {i j : Nat} {x : Int} (a : as[i]? = some x) (b : bs[j]? = some x) : Blk as bs i j 1 := fun t h => by
  obtain rfl : t = 0 := by lia
  exact ⟨x, a, b⟩
theorem Blk.snoc {as bs : List Int} {i j n : Nat} {x : Int} (B : Blk as bs i j n) (a : as[i + n]? = some x) (b : bs[j + n]? = some x) : Blk as bs i j (n + 1) := fun t h => by
  by_cases q : t < n
  · exact B t q
  · obtain rfl : t = n := by lia
    exact ⟨x, a, b⟩
theorem Blk.cons {as bs : List Int} {i j n : Nat} {x : Int} (B : Blk as bs (i + 1) (j + 1) n) (a : as[i]? = some x) (b : bs[j]? = some x) : Blk as bs i j (n + 1) := fun t h => by
  cases t with
  | zero => exact ⟨x, a, b⟩
  | succ t =>
    obtain ⟨y, p, q⟩ := B t (by lia)
    exact ⟨y, by rw [show i + (t + 1) = i + 1 + t by lia]; exact p, by rw [show j + (t + 1) = j + 1 + t by lia]; exact q⟩
/-- a block within a window -/
structure Win (as bs : List Int) (alo ahi blo bhi i j n : Nat) : Prop where
  il : alo ≤ i
  ih : i + n ≤ ahi
  jl : blo ≤ j
  jh : j + n ≤ bhi
  blk : Blk as bs i j n
/-- nothing in common, the rows below p alone -/
noncomputable def NoM (as bs : List Int) (alo blo bhi p : Nat) : Prop := ∀ i j v, alo ≤ i → i < p → blo ≤ j → j < bhi → as[i]? = some v → bs[j]? = some v → False
/-- what a row's dict says -/
noncomputable def RowMap (as bs : List Int) (alo blo bhi i : Nat) (f : Int → Option Value) : Prop := ∀ (y : Int) (v : Value), f y = some v → ∃ (j m : Nat) (tk : Tok), y = (j : Int) ∧ v = .int m tk ∧ 1 ≤ m ∧ alo + m ≤ i ∧ blo + m ≤ j + 1 ∧ j < bhi ∧ Blk as bs (i - m) (j + 1 - m) m
theorem RowMap.none {as bs : List Int} {alo blo bhi i : Nat} : RowMap as bs alo blo bhi i (fun _ => Option.none) := fun _ _ h => by cases h
section
variable {w : World} {env : Env} {G₀ G : Store} {h₀ h : Heap} {own : List (Addr × Obj)} {l : Loc} {A : Around} {E : Value → Shared → Prop} {s : Shared} {t : Nat}
/-- some own objects let go, or in another order -/
theorem St.pick {own' : List (Addr × Obj)} (S : St w env G₀ h₀ own l G h) (hs : ∀ p ∈ own', p ∈ own) (hn : (own'.map (·.1)).Nodup) : St w env G₀ h₀ own' l G h :=
  { S with ow := fun p hp => S.ow p (hs p hp), ond := hn }
/-- an int of a list of ints -/
theorem itemInt {value slice : PySem.Expr} {v : Value} {as : List Int} {k : Int} {p : Nat} {u : Tok} {x : Int} {Q : Value → Shared → Prop} (S : St w env G₀ h₀ own l G h) (r : Rep G v (dInts as)) (hk : k = (p : Int)) (hz : as.length ≤ 500) (hx : as[p]? = some x)
    (kk : ∀ tk, Q (.int x tk) (mkS s h t))
    (hs : ∀ a, subscripted slice false (.ref a) (.int k u) = operate [.ref a, .int k u] (getItem (.ref a) (.int k u)) := by intro _; with_unfolding_all rfl) (hg : ∀ a r, letTemporaryGo value (.ref a) r = pure () := by intro _ _; with_unfolding_all rfl) :
    wpAny (model pw w) A (subscriptTail value slice v (.int k u)) Q E (mkS s h t) := by
  obtain ⟨hp, _⟩ := List.getElem?_eq_some_iff.mp hx
  subst hk
  refine itemS (d := .int x) S r (by lia) (by lia) (by rw [List.getElem?_map]; simp [hx]) (fun y ry => ?_) hs hg
  cases ry with
  | int _ tk => exact kk tk
/-- range(a, b), met as a loop's source -/
theorem range2S {a b : Nat} {u u' : Tok} {Q : Value → Shared → Prop} (S : St w env G₀ h₀ own l G h) (hab : a ≤ b) (hn : b < 2 ^ 61)
    (k : ∀ h' it t', St w env G₀ h₀ ((it, ritO ((a : Int) + (0 : Nat)) (((b - a : Nat) : Int) - (0 : Nat))) :: own) l G h' → Q (.ref it) (mkS s h' t')) :
    wpAny (model pw w) A (call (.type "range") [.int a u, .int b u']) (fun x s₁ => wpAny (model pw w) A (pyIter x) Q E s₁) E (mkS s h t) := by
  refine call_range_2 (s := mkS s h t) ?_
  have hr : IsRange (h.push { cls := .type "range", data := .fields #[.int (a : Int) u, .int (b : Int) u', .int 1 t] }) h.objs.size (a : Int) (b : Int) 1 u u' t := Heap.get?_push_size _ rfl
  have hz : Builtin.Range.rangeSize (a : Int) (b : Int) 1 = ((b - a : Nat) : Int) := by rw [rangeSize_one]; split <;> lia
  refine wpAny_pyIter_range (s := mkS s (h.push { cls := .type "range", data := .fields #[.int (a : Int) u, .int (b : Int) u', .int 1 t] }) (t + 1)) hr (small_one (by lia) (by lia) (by lia) (by lia)) ?_
  have S1 := (S.pushOwn { cls := .type "range", data := .fields #[.int (a : Int) u, .int (b : Int) u', .int 1 t] } rfl).dropAll (part := [_]) (own := own) (fun b o _ e => e)
  have S2 := S1.pushOwn (ritO ((a : Int) + (0 : Nat)) (((b - a : Nat) : Int) - (0 : Nat))) rfl
  have e : ritO ((a : Int) + (0 : Nat)) (((b - a : Nat) : Int) - (0 : Nat)) = { cls := .type "range_iterator", data := .fields #[rawInt (a : Int), rawInt (Builtin.Range.rangeSize (a : Int) (b : Int) 1), rawInt 1] } := by rw [hz]; simp
  rw [e] at S2 k
  exact k _ _ _ S2
/-- d.get(x, dflt), a method -/
theorem dgetCall {d : Addr} {o : Obj} {f : Int → Option Value} {n : Nat} {x : Int} {tk : Tok} {dflt : Value} {Q : Value → Shared → Prop} (ho : h.get? d = some o) (D : DMap w f n o) (hsys : (d == sysModules) = false)
    (k : ∀ t', Q ((f x).getD dflt) (mkS s h t')) : wpAny (model pw w) A (call (.builtin "dict.get") [.ref d, .int x tk, dflt]) Q E (mkS s h t) := by
  refine wpAny_call_entry PySem.F.slot_dict_get (⟨o, ho, D.1.1⟩ : (mkS s h t).TypeIs (.ref d) "dict") PySem.F.entry_dict_get ?_ (PySem.F.args_dict_get_3 _ _ _)
  exact getDfltRun (s := mkS s h t) (D.map ho) hsys ⟨_, rfl, k _⟩
/-! ## ints, the tokens forgotten -/
theorem conI {n : Int} {c : Nat} {pos : Pos} {Q : Value → Shared → Prop} (k : ∀ tk t', Q (.int n tk) (mkS s h t')) : wpAny (model pw w) A (PySem.eval (.Constant (.int n) c pos) env) Q E (mkS s h t) :=
  PySem.wpAny_Constant_int (s := mkS s h t) (k _ _)
theorem addI {a b c : Int} {u v : Tok} {Q : Value → Shared → Prop} (e : a + b = c) (k : ∀ tk t', Q (.int c tk) (mkS s h t')) : wpAny (model pw w) A (binaryOp .Add (.int a u) (.int b v)) Q E (mkS s h t) :=
  PyProof.Rows.add_int (s := mkS s h t) (e ▸ k _ _)
theorem subI {a b c : Int} {u v : Tok} {Q : Value → Shared → Prop} (e : a - b = c) (k : ∀ tk t', Q (.int c tk) (mkS s h t')) : wpAny (model pw w) A (binaryOp .Sub (.int a u) (.int b v)) Q E (mkS s h t) :=
  PyProof.Rows.sub_int (s := mkS s h t) (e ▸ k _ _)
theorem iaddI {a b c : Int} {u v : Tok} {Q : Value → Shared → Prop} (e : a + b = c) (k : ∀ tk t', Q (.int c tk) (mkS s h t')) : wpAny (model pw w) A (inplaceOp .Add (.int a u) (.int b v)) Q E (mkS s h t) :=
  PySem.AutoIntOps.iadd_0 (s := mkS s h t) (by show Q (.int (a + b) t) (mkS s h (t + 1)); rw [e]; exact k _ _)
end
noncomputable abbrev fd334 : FuncData := fnOf (Str.ofString "find_longest_match") (Str.ofString "SequenceMatcher.find_longest_match") F334.1 F334.2.1 F334.2.2.1 (Value.ref 327) Value.none (Value.str (docOr F334.2.1) 728) (Value.str (Str.ofString "cpy313.difflib") 431) none (Value.ref 333) Value.none
theorem K334 (P : Params) : (K P).lookup 334 = some ⟨.type "function", none, .func fd334, #[]⟩ := by rfl
theorem C334 (P : Params) : codeIn (K P) fd334.code fd334.qualname = true := by rfl
noncomputable def n334 : List Str := [nSelf, Str.ofString "alo", Str.ofString "ahi", Str.ofString "blo", Str.ofString "bhi", Str.ofString "a", Str.ofString "b", Str.ofString "b2j", Str.ofString "isbjunk", Str.ofString "besti", Str.ofString "bestj", Str.ofString "bestsize", Str.ofString "j2len", Str.ofString "nothing", Str.ofString "i", Str.ofString "j2lenget", Str.ofString "newj2len", Str.ofString "j", Str.ofString "k"]
noncomputable abbrev LF (sx alo ahi blo bhi va vb vd vq bi bj bn jl no i jg nj j k : Option Value) : Loc := [(nSelf, sx), (Str.ofString "alo", alo), (Str.ofString "ahi", ahi), (Str.ofString "blo", blo), (Str.ofString "bhi", bhi), (Str.ofString "a", va), (Str.ofString "b", vb), (Str.ofString "b2j", vd), (Str.ofString "isbjunk", vq), (Str.ofString "besti", bi), (Str.ofString "bestj", bj), (Str.ofString "bestsize", bn), (Str.ofString "j2len", jl), (Str.ofString "nothing", no), (Str.ofString "i", i), (Str.ofString "j2lenget", jg), (Str.ofString "newj2len", nj), (Str.ofString "j", j), (Str.ofString "k", k)]
/-- a while loop by an invariant over a measure -/
theorem while_inv {w : World} {env : Env} {A : Around} {test : PySem.Expr} {body : List Stmt} {R : Result → Shared → Prop} (I : Nat → Shared → Prop)
    (step : ∀ m s', I m s' → wpAny (model pw w) A (isTrue test env (PySem.eval test env)) (qTest (model pw w) A E0 env body (qAfter R) (qLoop R fun s₃ => ∃ m', m' < m ∧ I m' s₃)) E0 s') : ∀ m s', I m s' → codeAny (model pw w) A (.whileLoop test body [] env) R s' := by
  intro m
  induction m using Nat.strongRecOn with
  | ind m ih =>
    intro s' hI
    refine while_turn (wpAny_mono (step m s' hI) (fun b s₂ h₂ => ?_) fun _ _ x => x)
    cases b with
    | false => exact h₂
    | true =>
      refine ifso rfl ?_
      replace h₂ : wpAny (model pw w) A (execs body env) _ E0 s₂ := h₂
      refine wpAny_mono h₂ (fun f s₃ h₃ => ?_) fun _ _ x => x
      cases f with
      | next => obtain ⟨m', hm, hi⟩ := h₃; exact ih m' hm s₃ hi
      | cont => obtain ⟨m', hm, hi⟩ := h₃; exact ih m' hm s₃ hi
      | brk => exact h₃
      | ret v => exact h₃
section
variable {w : World} {env : Env} {G₀ G : Store} {h₀ h : Heap} {own : List (Addr × Obj)} {l : Loc} {A : Around} {E : Value → Shared → Prop} {s : Shared} {t : Nat} {x dx : Addr} {od : Obj}
variable {la lb d sj q L : Addr} {as bs : List Int} {led : Bool} {alo ahi blo bhi i j n : Nat} {t1 t2 t3 t4 ti tj tn : Tok} {jl no iv jg nj jv kv : Option Value}
inductive JF1 (s : Shared) (w : World) (L : Addr) (G₀ : Store) (h₀ : Heap) (own : List (Addr × Obj)) (G : Store) (x la lb d q : Addr) (as bs : List Int) (alo ahi blo bhi : Nat) (t1 t2 t3 t4 : Tok) (jl no iv jg nj jv kv : Option Value) (n : Nat) (m : Nat) (s' : Shared) : Prop
  | mk (h' : Heap) (t' : Nat) (i' : Nat) (j' : Nat) (n' : Nat) (ti' : Tok) (tj' : Tok) (tn' : Tok) (e1 : s' = mkS s h' t') (e2 : St w (callEnv fd334 L 334) G₀ h₀ own (LF (some (.ref x)) (some (.int alo t1)) (some (.int ahi t2)) (some (.int blo t3)) (some (.int bhi t4)) (some (.ref la)) (some (.ref lb)) (some (.ref d)) (some (.ref q)) (some (.int (i' : Nat) ti')) (some (.int (j' : Nat) tj')) (some (.int (n' : Nat) tn')) jl no iv jg nj jv kv) G h') (e3 : Win as bs alo ahi blo bhi i' j' n') (e4 : (n' = 0 → n = 0)) (e5 : m = j')
set_option maxHeartbeats 4000000 in
/-- while besti > alo and ..: the block grows ahead -/
theorem while1 {Q : Flow → Shared → Prop} (ra : Rep G (.ref la) (dInts as)) (rb : Rep G (.ref lb) (dInts bs)) (eq : G q = some (bmO "set.__contains__" (.ref sj))) (es : G sj = some (setO led)) (hla : as.length ≤ 500) (hlb : bs.length ≤ 500) (ha2 : ahi ≤ as.length) (hb2 : bhi ≤ bs.length) (hh : A.handled = none)
    (S : St w (callEnv fd334 L 334) G₀ h₀ own (LF (some (.ref x)) (some (.int alo t1)) (some (.int ahi t2)) (some (.int blo t3)) (some (.int bhi t4)) (some (.ref la)) (some (.ref lb)) (some (.ref d)) (some (.ref q)) (some (.int i ti)) (some (.int j tj)) (some (.int n tn)) jl no iv jg nj jv kv) G h) (W : Win as bs alo ahi blo bhi i j n)
    (k : ∀ h' t' i' j' n' ti' tj' tn', St w (callEnv fd334 L 334) G₀ h₀ own (LF (some (.ref x)) (some (.int alo t1)) (some (.int ahi t2)) (some (.int blo t3)) (some (.int bhi t4)) (some (.ref la)) (some (.ref lb)) (some (.ref d)) (some (.ref q)) (some (.int (i' : Nat) ti')) (some (.int (j' : Nat) tj')) (some (.int (n' : Nat) tn')) jl no iv jg nj jv kv) G h' → Win as bs alo ahi blo bhi i' j' n' → (n' = 0 → n = 0) →
      wpAny (model pw w) A (execs (F334.2.1.drop 9) (callEnv fd334 L 334)) Q E0 (mkS s h' t')) :
    wpAny (model pw w) A (execs (F334.2.1.drop 8) (callEnv fd334 L 334)) Q E0 (mkS s h t) := by
  refine seqS (while_ (while_inv (JF1 s w L G₀ h₀ own G x la lb d q as bs alo ahi blo bhi t1 t2 t3 t4 jl no iv jg nj jv kv n) ?_ j _ ⟨_, _, i, j, n, _, _, _, rfl, S, W, fun e => e, rfl⟩))
  intro m s' hJ
  refine hideI fun Q' R' hQ hR => ?_
  obtain ⟨h', t', i', j', n', ti', tj', tn', rfl, S, W, hn, hm⟩ := hJ
  refine isTrue_and (wpAny_isTrue_Compare1 (ldS S (by walk_at "mem") (ldS S (by walk_at "mem") (PyProof.Rows.gt_int (wpAny_truthy_bool ?_)))))
  by_cases c1 : alo < i'
  · refine ifso (ltI (by first | assumption | lia)) ?_
    refine isTrue_and (wpAny_isTrue_Compare1 (ldS S (by walk_at "mem") (ldS S (by walk_at "mem") (PyProof.Rows.gt_int (wpAny_truthy_bool ?_)))))
    by_cases c2 : blo < j'
    · refine ifso (ltI (by first | assumption | lia)) ?_
      have hi := W.ih
      have hj := W.jh
      obtain ⟨y, hy⟩ : ∃ y, as[i' - 1]? = some y := ⟨_, List.getElem?_eq_getElem (by lia)⟩
      obtain ⟨z, hz⟩ : ∃ z, bs[j' - 1]? = some z := ⟨_, List.getElem?_eq_getElem (by lia)⟩
      refine isTrue_and (isTrue_not (isTrue_plain (Call_ (ldS S (by walk_at "mem") (callWith_bm (id := "set.__contains__") (self := .ref sj) (args_cons (Subscript_ (ldS S (by walk_at "mem") (wpAny_BinOp (ldS S (by walk_at "mem") (conI fun tk1 tu1 => subI (c := ((j' - 1 : Nat) : Int)) (by lia) fun tk2 tu2 => itemInt S rb rfl hlb hz fun tk3 => args_nil ⟨S.gin _ _ eq, bmInS (S.gin _ _ eq) (S.gin _ _ es) fun tu3 => wpAny_truthy_bool ?_⟩)))))))))))
      rw [if_pos (show (!false) = true from rfl)]
      refine isTrue_and (wpAny_isTrue_Compare1 (Subscript_ (ldS S (by walk_at "mem") (wpAny_BinOp (ldS S (by walk_at "mem") (conI fun tk1 tu1 => subI (c := ((i' - 1 : Nat) : Int)) (by lia) fun tk2 tu2 => itemInt S ra rfl hla hy fun tk3 => ?_))))))
      refine Subscript_ (ldS S (by walk_at "mem") (wpAny_BinOp (ldS S (by walk_at "mem") (conI fun tk4 tu4 => subI (c := ((j' - 1 : Nat) : Int)) (by lia) fun tk5 tu5 => itemInt S rb rfl hlb hz fun tk6 => PyProof.Rows.eq_int (wpAny_truthy_bool ?_)))))
      by_cases c3 : y = z
      · subst c3
        refine ifso (beq_self_eq_true _) ?_
        refine isTrue_and_nil ?_
        refine ifso rfl ?_
        refine seqS (Assign_Tuple_swapped (names := [Str.ofString "besti", Str.ofString "bestj", Str.ofString "bestsize"]) (Tuple_ (args_cons (wpAny_BinOp (ldS S (by walk_at "mem") (conI fun tk7 tu7 => subI (c := ((i' - 1 : Nat) : Int)) (by lia) fun tk8 tu8 => ?_))))))
        refine args_cons (wpAny_BinOp (ldS S (by walk_at "mem") (conI fun tk9 tu9 => subI (c := ((j' - 1 : Nat) : Int)) (by lia) fun tk10 tu10 => args_cons (wpAny_BinOp (ldS S (by walk_at "mem") (conI fun tk11 tu11 => addI (c := ((n' + 1 : Nat) : Int)) (by lia) fun tk12 tu12 => args_nil ?_))))))
        refine tupUnpack S (by exact hh) rfl fun h₂ S₂ => ?_
        refine inOrder_cons (bindS S₂ (by walk_at "set") fun h₃ u₃ S₃ => inOrder_cons (bindS S₃ (by walk_at "set") fun h₄ u₄ S₄ => inOrder_cons (bindS S₄ (by walk_at "set") fun h₅ u₅ S₅ => inOrder_nil ?_)))
        subst hQ
        refine wpAny_execs_nil ⟨j' - 1, by lia, _, _, i' - 1, j' - 1, n' + 1, _, _, _, rfl, S₅, ⟨by have := W.il; lia, by lia, by have := W.jl; lia, by lia, ?_⟩, fun e => absurd e (by lia), rfl⟩
        exact Blk.cons (x := y) (by rw [show i' - 1 + 1 = i' by lia, show j' - 1 + 1 = j' by lia]; exact W.blk) hy hz
      · refine ifno (beq_eq_false_iff_ne.mpr c3) (ifno rfl ?_)
        subst hR
        exact k _ _ i' j' n' _ _ _ S W hn
    · refine ifno (nltI (by first | assumption | lia)) ?_
      subst hR
      exact k _ _ i' j' n' _ _ _ S W hn
  · refine ifno (nltI (by first | assumption | lia)) ?_
    subst hR
    exact k _ _ i' j' n' _ _ _ S W hn
end
section
variable {w : World} {env : Env} {G₀ G : Store} {h₀ h : Heap} {own : List (Addr × Obj)} {l : Loc} {A : Around} {E : Value → Shared → Prop} {s : Shared} {t : Nat} {x dx : Addr} {od : Obj}
variable {la lb d sj q L : Addr} {as bs : List Int} {led : Bool} {alo ahi blo bhi i j n : Nat} {t1 t2 t3 t4 ti tj tn : Tok} {jl no iv jg nj jv kv : Option Value}
inductive JF2 (s : Shared) (w : World) (L : Addr) (G₀ : Store) (h₀ : Heap) (own : List (Addr × Obj)) (G : Store) (x la lb d q : Addr) (as bs : List Int) (alo ahi blo bhi : Nat) (t1 t2 t3 t4 : Tok) (jl no iv jg nj jv kv : Option Value) (n : Nat) (m : Nat) (s' : Shared) : Prop
  | mk (h' : Heap) (t' : Nat) (i' : Nat) (j' : Nat) (n' : Nat) (ti' : Tok) (tj' : Tok) (tn' : Tok) (e1 : s' = mkS s h' t') (e2 : St w (callEnv fd334 L 334) G₀ h₀ own (LF (some (.ref x)) (some (.int alo t1)) (some (.int ahi t2)) (some (.int blo t3)) (some (.int bhi t4)) (some (.ref la)) (some (.ref lb)) (some (.ref d)) (some (.ref q)) (some (.int (i' : Nat) ti')) (some (.int (j' : Nat) tj')) (some (.int (n' : Nat) tn')) jl no iv jg nj jv kv) G h') (e3 : Win as bs alo ahi blo bhi i' j' n') (e4 : (n' = 0 → n = 0)) (e5 : m = ahi - (i' + n'))
set_option maxHeartbeats 4000000 in
/-- the block grows behind -/
theorem while2 {Q : Flow → Shared → Prop} (ra : Rep G (.ref la) (dInts as)) (rb : Rep G (.ref lb) (dInts bs)) (eq : G q = some (bmO "set.__contains__" (.ref sj))) (es : G sj = some (setO led)) (hla : as.length ≤ 500) (hlb : bs.length ≤ 500) (ha2 : ahi ≤ as.length) (hb2 : bhi ≤ bs.length) (hh : A.handled = none)
    (S : St w (callEnv fd334 L 334) G₀ h₀ own (LF (some (.ref x)) (some (.int alo t1)) (some (.int ahi t2)) (some (.int blo t3)) (some (.int bhi t4)) (some (.ref la)) (some (.ref lb)) (some (.ref d)) (some (.ref q)) (some (.int i ti)) (some (.int j tj)) (some (.int n tn)) jl no iv jg nj jv kv) G h) (W : Win as bs alo ahi blo bhi i j n)
    (k : ∀ h' t' i' j' n' ti' tj' tn', St w (callEnv fd334 L 334) G₀ h₀ own (LF (some (.ref x)) (some (.int alo t1)) (some (.int ahi t2)) (some (.int blo t3)) (some (.int bhi t4)) (some (.ref la)) (some (.ref lb)) (some (.ref d)) (some (.ref q)) (some (.int (i' : Nat) ti')) (some (.int (j' : Nat) tj')) (some (.int (n' : Nat) tn')) jl no iv jg nj jv kv) G h' → Win as bs alo ahi blo bhi i' j' n' → (n' = 0 → n = 0) →
      wpAny (model pw w) A (execs (F334.2.1.drop 10) (callEnv fd334 L 334)) Q E0 (mkS s h' t')) :
    wpAny (model pw w) A (execs (F334.2.1.drop 9) (callEnv fd334 L 334)) Q E0 (mkS s h t) := by
  refine seqS (while_ (while_inv (JF2 s w L G₀ h₀ own G x la lb d q as bs alo ahi blo bhi t1 t2 t3 t4 jl no iv jg nj jv kv n) ?_ (ahi - (i + n)) _ ⟨_, _, i, j, n, _, _, _, rfl, S, W, fun e => e, rfl⟩))
  intro m s' hJ
  refine hideI fun Q' R' hQ hR => ?_
  obtain ⟨h', t', i', j', n', ti', tj', tn', rfl, S, W, hn, hm⟩ := hJ
  refine isTrue_and (wpAny_isTrue_Compare1 (wpAny_BinOp (ldS S (by walk_at "mem") (ldS S (by walk_at "mem") (addI (c := ((i' + n' : Nat) : Int)) (by lia) fun tk tu => ldS S (by walk_at "mem") (PyProof.Rows.lt_int (wpAny_truthy_bool ?_)))))))
  by_cases c1 : i' + n' < ahi
  · refine ifso (ltI (by first | assumption | lia)) ?_
    refine isTrue_and (wpAny_isTrue_Compare1 (wpAny_BinOp (ldS S (by walk_at "mem") (ldS S (by walk_at "mem") (addI (c := ((j' + n' : Nat) : Int)) (by lia) fun tk tu => ldS S (by walk_at "mem") (PyProof.Rows.lt_int (wpAny_truthy_bool ?_)))))))
    by_cases c2 : j' + n' < bhi
    · refine ifso (ltI (by first | assumption | lia)) ?_
      obtain ⟨y, hy⟩ : ∃ y, as[i' + n']? = some y := ⟨_, List.getElem?_eq_getElem (by lia)⟩
      obtain ⟨z, hz⟩ : ∃ z, bs[j' + n']? = some z := ⟨_, List.getElem?_eq_getElem (by lia)⟩
      refine isTrue_and (isTrue_not (isTrue_plain (Call_ (ldS S (by walk_at "mem") (callWith_bm (id := "set.__contains__") (self := .ref sj) (args_cons (Subscript_ (ldS S (by walk_at "mem") (wpAny_BinOp (ldS S (by walk_at "mem") (ldS S (by walk_at "mem") (addI (c := ((j' + n' : Nat) : Int)) (by lia) fun tk2 tu2 => itemInt S rb rfl hlb hz fun tk3 => args_nil ⟨S.gin _ _ eq, bmInS (S.gin _ _ eq) (S.gin _ _ es) fun tu3 => wpAny_truthy_bool ?_⟩))))))))))))
      rw [if_pos (show (!false) = true from rfl)]
      refine isTrue_and (wpAny_isTrue_Compare1 (Subscript_ (ldS S (by walk_at "mem") (wpAny_BinOp (ldS S (by walk_at "mem") (ldS S (by walk_at "mem") (addI (c := ((i' + n' : Nat) : Int)) (by lia) fun tk2 tu2 => itemInt S ra rfl hla hy fun tk3 => ?_)))))))
      refine Subscript_ (ldS S (by walk_at "mem") (wpAny_BinOp (ldS S (by walk_at "mem") (ldS S (by walk_at "mem") (addI (c := ((j' + n' : Nat) : Int)) (by lia) fun tk5 tu5 => itemInt S rb rfl hlb hz fun tk6 => PyProof.Rows.eq_int (wpAny_truthy_bool ?_))))))
      by_cases c3 : y = z
      · subst c3
        refine ifso (beq_self_eq_true _) ?_
        refine isTrue_and_nil ?_
        refine ifso rfl ?_
        refine seqS (wpAny_AugAssign_Name (ldn_ (s := mkS s h' _) S (by walk_at "mem") (conI fun tk7 tu7 => iaddI (c := ((n' + 1 : Nat) : Int)) (by lia) fun tk8 tu8 => stS S (by walk_at "set") fun h₂ u₂ S₂ => ?_)))
        subst hQ
        refine wpAny_execs_nil ⟨ahi - (i' + (n' + 1)), by lia, _, _, i', j', n' + 1, _, _, _, rfl, S₂, ⟨W.il, by lia, W.jl, by lia, Blk.snoc W.blk hy hz⟩, fun e => absurd e (by lia), rfl⟩
      · refine ifno (beq_eq_false_iff_ne.mpr c3) (ifno rfl ?_)
        subst hR
        exact k _ _ i' j' n' _ _ _ S W hn
    · refine ifno (nltI (by first | assumption | lia)) ?_
      subst hR
      exact k _ _ i' j' n' _ _ _ S W hn
  · refine ifno (nltI (by first | assumption | lia)) ?_
    subst hR
    exact k _ _ i' j' n' _ _ _ S W hn
set_option maxHeartbeats 4000000 in
/-- the two loops over junk, and the answer -/
theorem while34 {Q : Flow → Shared → Prop} (rb : Rep G (.ref lb) (dInts bs)) (eq : G q = some (bmO "set.__contains__" (.ref sj))) (es : G sj = some (setO led)) (hlb : bs.length ≤ 500) (hb2 : bhi ≤ bs.length) (hroom : A.depth + 4 < recursionLimit)
    (S : St w (callEnv fd334 L 334) G₀ h₀ own (LF (some (.ref x)) (some (.int alo t1)) (some (.int ahi t2)) (some (.int blo t3)) (some (.int bhi t4)) (some (.ref la)) (some (.ref lb)) (some (.ref d)) (some (.ref q)) (some (.int i ti)) (some (.int j tj)) (some (.int n tn)) jl no iv jg nj jv kv) G h) (W : Win as bs alo ahi blo bhi i j n)
    (k : ∀ h' G' t' m dm ti tj tn l', St w (callEnv fd334 L 334) G₀ h₀ own l' G' h' → G.Sub G' → G' m = some (tcO 273 dm [.int i ti, .int j tj, .int n tn]) → Q (.ret (.ref m)) (mkS s h' t')) :
    wpAny (model pw w) A (execs (F334.2.1.drop 10) (callEnv fd334 L 334)) Q E0 (mkS s h t) := by
  have ret : ∀ t', wpAny (model pw w) A (execs (F334.2.1.drop 12) (callEnv fd334 L 334)) Q E0 (mkS s h t') := fun t' => by
    refine seqS (wpAny_Return_some (Call_ (glS S gl_Match (callWithK tc_match.keep S (args_cons (ldS S (by walk_at "mem") (args_cons (ldS S (by walk_at "mem") (args_cons (ldS S (by walk_at "mem") (args_nil ⟨S.bsNow.X, ?_⟩)))))))))))
    exact match_spec S hroom fun h' G' t' m dm S' g' e' => k _ _ _ m dm _ _ _ _ S' g' e'
  have w4 : ∀ t', wpAny (model pw w) A (execs (F334.2.1.drop 11) (callEnv fd334 L 334)) Q E0 (mkS s h t') := fun t' => by
    refine seqS (while_ (while_turn ?_))
    refine isTrue_and (wpAny_isTrue_Compare1 (wpAny_BinOp (ldS S (by walk_at "mem") (ldS S (by walk_at "mem") (addI (c := ((i + n : Nat) : Int)) (by lia) fun tk tu => ldS S (by walk_at "mem") (PyProof.Rows.lt_int (wpAny_truthy_bool ?_)))))))
    by_cases c1 : i + n < ahi
    · refine ifso (ltI (by first | assumption | lia)) ?_
      refine isTrue_and (wpAny_isTrue_Compare1 (wpAny_BinOp (ldS S (by walk_at "mem") (ldS S (by walk_at "mem") (addI (c := ((j + n : Nat) : Int)) (by lia) fun tk tu => ldS S (by walk_at "mem") (PyProof.Rows.lt_int (wpAny_truthy_bool ?_)))))))
      by_cases c2 : j + n < bhi
      · refine ifso (ltI (by first | assumption | lia)) ?_
        obtain ⟨z, hz⟩ : ∃ z, bs[j + n]? = some z := ⟨_, List.getElem?_eq_getElem (by lia)⟩
        refine isTrue_and (isTrue_plain (Call_ (ldS S (by walk_at "mem") (callWith_bm (id := "set.__contains__") (self := .ref sj) (args_cons (Subscript_ (ldS S (by walk_at "mem") (wpAny_BinOp (ldS S (by walk_at "mem") (ldS S (by walk_at "mem") (addI (c := ((j + n : Nat) : Int)) (by lia) fun tk2 tu2 => itemInt S rb rfl hlb hz fun tk3 => args_nil ⟨S.gin _ _ eq, bmInS (S.gin _ _ eq) (S.gin _ _ es) fun tu3 => wpAny_truthy_bool ?_⟩)))))))))))
        exact ret _
      · refine ifno (nltI (by first | assumption | lia)) ?_
        exact ret _
    · refine ifno (nltI (by first | assumption | lia)) ?_
      exact ret _
  refine seqS (while_ (while_turn ?_))
  refine isTrue_and (wpAny_isTrue_Compare1 (ldS S (by walk_at "mem") (ldS S (by walk_at "mem") (PyProof.Rows.gt_int (wpAny_truthy_bool ?_)))))
  by_cases c1 : alo < i
  · refine ifso (ltI (by first | assumption | lia)) ?_
    refine isTrue_and (wpAny_isTrue_Compare1 (ldS S (by walk_at "mem") (ldS S (by walk_at "mem") (PyProof.Rows.gt_int (wpAny_truthy_bool ?_)))))
    by_cases c2 : blo < j
    · refine ifso (ltI (by first | assumption | lia)) ?_
      have hj := W.jh
      obtain ⟨z, hz⟩ : ∃ z, bs[j - 1]? = some z := ⟨_, List.getElem?_eq_getElem (by lia)⟩
      refine isTrue_and (isTrue_plain (Call_ (ldS S (by walk_at "mem") (callWith_bm (id := "set.__contains__") (self := .ref sj) (args_cons (Subscript_ (ldS S (by walk_at "mem") (wpAny_BinOp (ldS S (by walk_at "mem") (conI fun tk1 tu1 => subI (c := ((j - 1 : Nat) : Int)) (by lia) fun tk2 tu2 => itemInt S rb rfl hlb hz fun tk3 => args_nil ⟨S.gin _ _ eq, bmInS (S.gin _ _ eq) (S.gin _ _ es) fun tu3 => wpAny_truthy_bool ?_⟩))))))))))
      exact w4 _
    · refine ifno (nltI (by first | assumption | lia)) ?_
      exact w4 _
  · refine ifno (nltI (by first | assumption | lia)) ?_
    exact w4 _
end
theorem NoM.succ {as bs : List Int} {alo blo bhi p : Nat} {v : Int} (N : NoM as bs alo blo bhi p) (hv : as[p]? = some v) (h : ∀ q, bs[q]? = some v → ¬ (blo ≤ q ∧ q < bhi)) : NoM as bs alo blo bhi (p + 1) := by
  intro i j x h1 h2 h3 h4 h5 h6
  by_cases e : i = p
  · subst e
    rw [hv] at h5; cases h5
    exact h j h6 ⟨h3, h4⟩
  · exact N i j x h1 (by lia) h3 h4 h5 h6
theorem RowMap.step {as bs : List Int} {alo blo bhi i q : Nat} {f : Int → Option Value} {y : Int} (R : RowMap as bs alo blo bhi i f) (hi : as[i]? = some y) (hq : bs[q]? = some y) (h1 : alo ≤ i) (h2 : blo ≤ q) (tz : Tok) :
    ∃ (m : Nat) (tk : Tok), (f ((q : Int) - 1)).getD (.int 0 tz) = .int (m : Nat) tk ∧ alo + (m + 1) ≤ i + 1 ∧ blo + (m + 1) ≤ q + 1 ∧ Blk as bs (i + 1 - (m + 1)) (q + 1 - (m + 1)) (m + 1) := by
  cases e : f ((q : Int) - 1) with
  | none => exact ⟨0, tz, rfl, by lia, by lia, by simpa using Blk.one hi hq⟩
  | some v =>
    obtain ⟨j, m, tk, hj, rfl, hm1, ha, hb, hjb, B⟩ := R _ _ e
    refine ⟨m, tk, rfl, by lia, by lia, ?_⟩
    have hj' : j + 1 = q := by lia
    have := Blk.snoc (x := y) B (by rw [show i - m + m = i by lia]; exact hi) (by rw [show j + 1 - m + m = q by lia]; exact hq)
    rw [show i + 1 - (m + 1) = i - m by lia, show q + 1 - (m + 1) = j + 1 - m by lia]
    exact this
theorem RowMap.step' {as bs : List Int} {alo blo bhi i q : Nat} {f : Int → Option Value} {y : Int} {tz : Tok} {v : Value} (R : RowMap as bs alo blo bhi i f) (hi : as[i]? = some y) (hq : bs[q]? = some y) (h1 : alo ≤ i) (h2 : blo ≤ q) (e : (f ((q : Int) - 1)).getD (.int 0 tz) = v) :
    ∃ (m : Nat) (tk : Tok), v = .int (m : Nat) tk ∧ alo + (m + 1) ≤ i + 1 ∧ blo + (m + 1) ≤ q + 1 ∧ Blk as bs (i + 1 - (m + 1)) (q + 1 - (m + 1)) (m + 1) := by
  obtain ⟨m, tk, em, r⟩ := R.step hi hq h1 h2 tz
  exact ⟨m, tk, e ▸ em, r⟩
theorem RowMap.put {as bs : List Int} {alo blo bhi i q m : Nat} {g : Int → Option Value} {tk : Tok} {v : Value} (R : RowMap as bs alo blo bhi (i + 1) g) (hv : v = .int (m + 1 : Nat) tk) (ha : alo + (m + 1) ≤ i + 1) (hb : blo + (m + 1) ≤ q + 1) (hq : q < bhi) (B : Blk as bs (i + 1 - (m + 1)) (q + 1 - (m + 1)) (m + 1)) :
    RowMap as bs alo blo bhi (i + 1) (fun y => if y = (q : Int) then some v else g y) := by
  intro y u h
  have h : (if y = (q : Int) then some v else g y) = some u := h
  by_cases e : y = (q : Int)
  · rw [if_pos e] at h
    cases h
    exact ⟨q, m + 1, tk, e, hv, by lia, ha, hb, hq, B⟩
  · rw [if_neg e] at h
    exact R y u h
section
variable {w : World} {env : Env} {G₀ G : Store} {h₀ h : Heap} {own : List (Addr × Obj)} {l : Loc} {A : Around} {E : Value → Shared → Prop} {s : Shared} {t : Nat} {x dx : Addr} {od : Obj}
theorem assign_sub {o i : PySem.Expr} {pos : Pos} {v : Value} {Q : Unit → Shared → Prop} {s : Shared}
    (hk : wpAny (model pw w) A (PySem.eval o env) (fun ov s₂ => wpAny (model pw w) A (PySem.eval i env) (fun iv s₃ => wpAny (model pw w) A (setItem ov iv v) Q E s₃) E s₂) E s) : wpAny (model pw w) A (assign (.Subscript o i pos) env v) Q E s := by
  rw [assign_Subscript]
  refine wpAny_bind (wpAny_holding (wpAny_mono hk (fun ov s₂ h₂ => wpAny_bind (wpAny_holding (wpAny_mono h₂ (fun iv s₃ h₃ => wpAny_bind (wpAny_standAt (wpAny_bind (wpAny_holding (wpAny_mono h₃ (fun _ _ q => wpAny_release q) fun _ _ x => x))))) fun _ _ x => x))) fun _ _ x => x))
theorem bmGetV {d q : Addr} {o : Obj} {f : Int → Option Value} {n : Nat} {x : Int} {tk : Tok} {dflt : Value} {Q : Value → Shared → Prop} (hq : h.get? q = some (bmO "dict.get" (.ref d))) (ho : h.get? d = some o) (D : DMap w f n o) (hsys : (d == sysModules) = false)
    (k : ∀ t' v, (f x).getD dflt = v → Q v (mkS s h t')) : wpAny (model pw w) A (call (.ref q) [.int x tk, dflt]) Q E (mkS s h t) := bmGetS hq ho D hsys fun t' => k t' _ rfl
/-- what b2j.get gives -/
theorem B2j.get {d : Addr} {nov : Value} {bs : List Int} (B : B2j w G d bs) (hnd : bs.Nodup) (v : Int) (hno : Rep G nov (dInts [])) :
    ∃ o f n, G d = some o ∧ DMap w f n o ∧ (d == sysModules) = false ∧ ∃ js : List Nat, Rep G ((f v).getD nov) (dInts (js.map fun (q : Nat) => (q : Int))) ∧ (∀ q, bs[q]? = some v → q ∈ js) ∧ (∀ q ∈ js, bs[q]? = some v) ∧ js.length ≤ 1 := by
  obtain ⟨o, f, n, e, D, hs, h1, h2⟩ := B
  refine ⟨o, f, n, e, D, hs, ?_⟩
  by_cases hm : v ∈ bs
  · obtain ⟨q, hq⟩ := List.getElem?_of_mem hm
    obtain ⟨u, hu, ru⟩ := h1 q v hq
    refine ⟨[q], by rw [hu]; exact ru, fun q' hq' => by rw [nodup_inj hnd hq' hq]; exact .head _, fun q' hq' => by rw [List.mem_singleton.mp hq']; exact hq, by simp⟩
  · rw [h2 v hm]
    exact ⟨[], hno, fun q hq => absurd (List.mem_of_getElem? hq) hm, fun q hq => (nomatch hq), by simp⟩
inductive JL1 (G₁₅ : Store) (as bs : List Int) (alo ahi blo bhi : Nat) (t1 t2 t3 t4 : Tok) (x dx la lb d q : Addr) (od : Obj) (w : World) (nov : Value) (c : Nat) (G' : Store) (l : Loc) (own : List (Addr × Obj)) : Prop
  | mk (e1 : G₁₅.Sub G') (f : Int → Option Value) (nf : Nat) (oj : Obj) (jd : Addr) (i j n : Nat) (ti tj tn : Tok) (iv jg nj jv kv : Option Value) (e2 : own = [(jd, oj), (dx, od)]) (e3 : DMap w f nf oj) (e4 : nf ≤ 2) (e5 : (jd == sysModules) = false) (e6 : RowMap as bs alo blo bhi (alo + c) f) (e7 : Win as bs alo ahi blo bhi i j n) (e8 : (n = 0 → NoM as bs alo blo bhi (alo + c))) (e9 : l = LF (some (.ref x)) (some (.int alo t1)) (some (.int ahi t2)) (some (.int blo t3)) (some (.int bhi t4)) (some (.ref la)) (some (.ref lb)) (some (.ref d)) (some (.ref q)) (some (.int i ti)) (some (.int j tj)) (some (.int n tn)) (some (.ref jd)) (some nov) iv jg nj jv kv)
inductive JL2 (s : Shared) (G G₁₉ : Store) (h : Heap) (c : Nat) (it jd nj' q₁₉ : Addr) (oj : Obj) (u : Tok) (as bs : List Int) (alo ahi blo bhi : Nat) (t1 t2 t3 t4 : Tok) (x dx la lb d q : Addr) (od : Obj) (w : World) (nov : Value) (fl : Flow) (s' : Shared) : Prop
  | mk (e1 : fl = .next) (h' : Heap) (G'' : Store) (t' : Nat) (f' : Int → Option Value) (nf' : Nat) (on : Obj) (i j n : Nat) (ti tj tn : Tok) (jv kv : Option Value) (e2 : s' = mkS s h' t') (e3 : St w (callEnv fd334 h.objs.size 334) G (offH h [(dx, od)]) [(nj', on), (it, ritO ((alo : Int) + ((c + 1 : Nat) : Int)) (((ahi - alo : Nat) : Int) - ((c + 1 : Nat) : Int))), (jd, oj), (dx, od)] (LF (some (.ref x)) (some (.int alo t1)) (some (.int ahi t2)) (some (.int blo t3)) (some (.int bhi t4)) (some (.ref la)) (some (.ref lb)) (some (.ref d)) (some (.ref q)) (some (.int i ti)) (some (.int j tj)) (some (.int n tn)) (some (.ref jd)) (some nov) (some (.int (alo + c : Nat) u)) (some (.ref q₁₉)) (some (.ref nj')) jv kv) G'' h') (e4 : G₁₉.Sub G'') (e5 : DMap w f' nf' on) (e6 : nf' ≤ 2) (e7 : RowMap as bs alo blo bhi (alo + c + 1) f') (e8 : Win as bs alo ahi blo bhi i j n) (e9 : (n = 0 → NoM as bs alo blo bhi (alo + c + 1)))
inductive JL3 (G₁₉ : Store) (js : List Nat) (c : Nat) (it jd nj' q₁₉ : Addr) (oj : Obj) (u : Tok) (as bs : List Int) (alo ahi blo bhi : Nat) (t1 t2 t3 t4 : Tok) (x dx la lb d q : Addr) (od : Obj) (w : World) (nov : Value) (m : Nat) (G' : Store) (l : Loc) (own : List (Addr × Obj)) : Prop
  | mk (e1 : G₁₉.Sub G') (f' : Int → Option Value) (nf' : Nat) (on : Obj) (i j n : Nat) (ti tj tn : Tok) (jv kv : Option Value) (e2 : own = [(nj', on), (it, ritO ((alo : Int) + ((c + 1 : Nat) : Int)) (((ahi - alo : Nat) : Int) - ((c + 1 : Nat) : Int))), (jd, oj), (dx, od)]) (e3 : DMap w f' nf' on) (e4 : nf' ≤ m) (e5 : RowMap as bs alo blo bhi (alo + c + 1) f') (e6 : Win as bs alo ahi blo bhi i j n) (e7 : (n = 0 → NoM as bs alo blo bhi (alo + c) ∧ ∀ z ∈ js.take m, ¬ (blo ≤ z ∧ z < bhi))) (e8 : l = LF (some (.ref x)) (some (.int alo t1)) (some (.int ahi t2)) (some (.int blo t3)) (some (.int bhi t4)) (some (.ref la)) (some (.ref lb)) (some (.ref d)) (some (.ref q)) (some (.int i ti)) (some (.int j tj)) (some (.int n tn)) (some (.ref jd)) (some nov) (some (.int (alo + c : Nat) u)) (some (.ref q₁₉)) (some (.ref nj')) jv kv)
set_option maxHeartbeats 4000000 in
theorem longest_spec {la lb d sj : Addr} {as bs : List Int} {led : Bool} {vmb vop vfb vpop : Option Value} {alo ahi blo bhi : Nat} {t1 t2 t3 t4 : Tok} {Q : Value → Shared → Prop} (S : St w env G₀ h₀ ((dx, od) :: own) l G h) (hx : G x = some (instObj 380 dx))
    (D : DictM (mAt (some (.ref la)) (some (.ref lb)) vmb vop vfb (some (.ref d)) (some (.ref sj)) vpop) od) (ra : Rep G (.ref la) (dInts as)) (rb : Rep G (.ref lb) (dInts bs)) (B : B2j w G d bs) (es : G sj = some (setO led)) (hnd : bs.Nodup) (hla : as.length ≤ 500) (hlb : bs.length ≤ 500)
    (ha1 : alo ≤ ahi) (ha2 : ahi ≤ as.length) (hb1 : blo ≤ bhi) (hb2 : bhi ≤ bs.length) (hh : A.handled = none) (hroom : A.depth + 6 < recursionLimit)
    (k : ∀ h' G' t' m dm i j n ti tj tn, St w env G₀ h₀ ((dx, od) :: own) l G' h' → G.Sub G' → Win as bs alo ahi blo bhi i j n → (n = 0 → NoM as bs alo blo bhi ahi) → G' m = some (tcO 273 dm [.int (i : Nat) ti, .int (j : Nat) tj, .int (n : Nat) tn]) → Q (.ref m) (mkS s h' t')) :
    wpAny (model pw w) A (call (.ref 334) [.ref x, .int alo t1, .int ahi t2, .int blo t3, .int bhi t4]) Q E (mkS s h t) := by
  have hb : BindsTo (mkS s h t) fd334 ⟨[.ref x, .int alo t1, .int ahi t2, .int blo t3, .int bhi t4], []⟩ [(nSelf, .ref x), (Str.ofString "alo", .int alo t1), (Str.ofString "ahi", .int ahi t2), (Str.ofString "blo", .int blo t3), (Str.ofString "bhi", .int bhi t4)] :=
    BindsTo.of_defaults (T := 327) rfl (S.bsNow.X 327 (ob327 _) rfl) rfl rfl rfl
  refine wpAny_call (code_off (new := [(dx, od)]) (names := n334) (l₁ := LF (some (.ref x)) (some (.int alo t1)) (some (.int ahi t2)) (some (.int blo t3)) (some (.int bhi t4)) none none none none none none none none none none none none none none) S K334 C334 rfl hb
    (.cons .head (.cons (.tail .head) (.cons (.tail (.tail .head)) (.cons (.tail (.tail (.tail .head))) (.cons (.tail (.tail (.tail (.tail .head)))) .nil))))) (by decide +kernel) (by lia) fun h₁ u₁ S₁ => ?_)
  have X : ∀ {env G₀ h₀ own l G' h'}, St w env G₀ h₀ own l G' h' → G.Sub G' → (dx, od) ∈ own → SelfAt h' x dx od _ := fun S' g hm => selfAt S' (g _ _ hx) hm D mAt_nd
  refine seqS (wpAny_Expr (Calls.Constant_str ?_))
  refine seqS (Assign_Tuple (Tuple_ (args_cons (attrS S₁ (by walk_at "mem") (X S₁ (Store.Sub.refl _) (.head _)) (name := aA) (by walk_at "mem") (by decide +kernel) rfl fun u₂ => args_cons (attrS S₁ (by walk_at "mem") (X S₁ (Store.Sub.refl _) (.head _)) (name := aB) (by walk_at "mem") (by decide +kernel) rfl fun u₃ =>
    args_cons (attrS S₁ (by walk_at "mem") (X S₁ (Store.Sub.refl _) (.head _)) (name := aB2j) (by walk_at "mem") (by decide +kernel) rfl fun u₄ => args_cons ?_))))))
  refine Attribute_any_ (attrS S₁ (by walk_at "mem") (X S₁ (Store.Sub.refl _) (.head _)) (name := aBj) (by walk_at "mem") (by decide +kernel) rfl fun u₅ => getBm bm_scon S₁ (S₁.gin _ _ es) rfl rfl rfl fun h₂ G₂ q u₆ S₂ g₂ e₂ => args_nil ?_)
  refine tupRawS S₂ fun h₃ G₃ tp S₃ g₃ e₃ => unpackRaw S₃ e₃ rfl rfl (by exact hh) rfl rfl fun h₄ S₄ => ?_
  refine inOrder_cons (wpAny_assign_Name (stS S₄ (by walk_at "set") fun h₅ u₅ S₅ => inOrder_cons (wpAny_assign_Name (stS S₅ (by walk_at "set") fun h₆ u₆ S₆ => inOrder_cons (wpAny_assign_Name (stS S₆ (by walk_at "set") fun h₇ u₇ S₇ => inOrder_cons (wpAny_assign_Name (stS S₇ (by walk_at "set") fun h₈ u₈ S₈ => inOrder_nil ?_))))))))
  refine seqS (wpAny_If (wpAny_isTrue_Compare1 (ldS S₈ (by walk_at "mem") (wpAny_Constant_none (is_int_none (wpAny_truthy_bool ?_))))))
  refine wpAny_execs_nil ?_
  refine seqS (wpAny_If (wpAny_isTrue_Compare1 (ldS S₈ (by walk_at "mem") (wpAny_Constant_none (is_int_none (wpAny_truthy_bool ?_))))))
  refine wpAny_execs_nil ?_
  refine seqS (Assign_Tuple_swapped (names := [Str.ofString "besti", Str.ofString "bestj", Str.ofString "bestsize"]) (Tuple_ (args_cons (ldS S₈ (by walk_at "mem") (args_cons (ldS S₈ (by walk_at "mem") (args_cons (wpAny_Constant_int (args_nil ?_)))))))))
  refine tupUnpack S₈ (by exact hh) rfl fun h₉ S₉ => ?_
  refine inOrder_cons (bindS S₉ (by walk_at "set") fun h₁₀ u₁₀ S₁₀ => inOrder_cons (bindS S₁₀ (by walk_at "set") fun h₁₁ u₁₁ S₁₁ => inOrder_cons (bindS S₁₁ (by walk_at "set") fun h₁₂ u₁₂ S₁₂ => inOrder_nil ?_)))
  refine seqS (setS (newDictS S₁₂ fun h₁₃ jd S₁₃ hsys₁ => stS S₁₃ (by walk_at "set") fun h₁₄ u₁₄ S₁₄ => ?_))
  refine seqS (setS (List_ (args_nil (listS S₁₄ .nil fun h₁₅ G₁₅ nov S₁₅ g₁₅ r₁₅ => stS S₁₅ (by walk_at "set") fun h₁₆ u₁₆ S₁₆ => ?_))))
  refine seqS (for_ (Call_ (biS S₁₆ nz_range bb_range (PyProof.Rows.callWith_type1 (args_cons (ldS S₁₆ (by walk_at "mem") (args_cons (ldS S₁₆ (by walk_at "mem") (args_nil ?_)))))))))
  refine range2S S₁₆ ha1 (by lia) fun h₁₇ it u₁₇ S₁₇ => ?_
  have gb : G.Sub G₁₅ := g₂.trans (g₃.trans g₁₅)
  have eq : G₁₅ q = some (bmO "set.__contains__" (.ref sj)) := (g₃.trans g₁₅) _ _ e₂
  have hb2j := B.mono gb
  have ra := ra.mono gb
  have rb := rb.mono gb
  refine for_iter (G₁ := G₁₅) (Iter.range (a := (alo : Int)) (n := ahi - alo)) (by exact hh) (JL1 G₁₅ as bs alo ahi blo bhi t1 t2 t3 t4 x dx la lb d q od w nov) ?_ ?_ ?_ (ahi - alo) 0 rfl (Nat.zero_le _) rfl ?_ S₁₇ (Store.Sub.refl _)
  · rintro c hc p G' l own' hz tz v rfl hJ ⟨u, rfl⟩ S hG
    refine hideQ fun Q' hQ => ?_
    obtain ⟨gs, f, nf, oj, jd, i, j, n, ti, tj, tn, iv, jg, nj, jv, kv, rfl, Df, hnf, hjs, hR, hW, hN, rfl⟩ := hJ
    have hk : alo + c < as.length := by lia
    obtain ⟨y, hy⟩ : ∃ y, as[alo + c]? = some y := ⟨_, List.getElem?_eq_getElem hk⟩
    refine wpAny_assign_Name (stS S (by walk_at "set") fun h₁₈ u₁₈ S₁₈ => ?_)
    have hci : (alo : Int) + (c : Int) = ((alo + c : Nat) : Int) := by lia
    rw [hci] at S₁₈
    have hnoc : notCls oj = true := by obtain ⟨_, es, ep, hd, r⟩ := Df; unfold notCls; rw [hd]
    refine seqS (setS (Attribute_Name_ (ldS S₁₈ (by walk_at "mem") (getBm bm_dget S₁₈ (S₁₈.ow (jd, oj) (.tail _ (.head _))).1 Df.1.1 Df.1.2.1 hnoc fun h₁₉ G₁₉ q₁₉ u₁₉ S₁₉ g₁₉ e₁₉ => stS S₁₉ (by walk_at "set") fun h₂₀ u₂₀ S₂₀ => ?_))))
    refine seqS (setS (newDictS S₂₀ fun h₂₁ nj' S₂₁ hsys₂ => stS S₂₁ (by walk_at "set") fun h₂₂ u₂₂ S₂₂ => ?_))
    have g19 := gs.trans g₁₉
    refine seqS (wpAny_mono (Q := (JL2 s G G₁₉ h c it jd nj' q₁₉ oj u as bs alo ahi blo bhi t1 t2 t3 t4 x dx la lb d q od w nov)) ?_ ?_ fun _ _ x => x)
    · refine hideV fun Q₂ hQ₂ => ?_
      obtain ⟨ob2, f2, n2, e2', D2, hs2, js, rj, hj1, hj2, hj3⟩ := hb2j.get hnd y r₁₅
      have hb2 : ∀ {G'}, G₁₉.Sub G' → G' d = some ob2 := fun g => g _ _ (g19 _ _ e2')
      have hd22 := S₂₂.gin _ _ (hb2 (Store.Sub.refl _))
      refine for_ (MethodCall_ (ldS S₂₂ (by walk_at "mem") (getMethod_builtin (v := .ref d) (T := "dict") (s := mkS s h₂₂ u₂₂) ⟨ob2, hd22, D2.1.1⟩ PySem.F.plainAttrs_dict PySem.F.slot_dict_get PySem.F.type_dict_get (D2.map hd22).noDict ?_)))
      refine callWith_method1 (args_cons (Subscript_ (ldS S₂₂ (by walk_at "mem") (ldS S₂₂ (by walk_at "mem") (itemInt S₂₂ (ra.mono g19) rfl hla hy fun tk => args_cons (ldS S₂₂ (by walk_at "mem") (args_nil ?_)))))))
      refine dgetCall hd22 D2 hs2 fun u₂₃ => ?_
      refine iterS (target := .Name (Str.ofString "j") ⟨466, 16, 466, 17⟩) S₂₂ (rj.mono g19) fun h₂₄ p it2 Part I hP S₂₄ hag => ?_
      have hlj : ((js.map fun (q : Nat) => (q : Int)).map PyData.int).length = js.length := by simp
      refine for_iter (G₁ := G₁₉) I (by exact hh) (JL3 G₁₉ js c it jd nj' q₁₉ oj u as bs alo ahi blo bhi t1 t2 t3 t4 x dx la lb d q od w nov) ?_ ?_ ?_
        _ 0 rfl (Nat.zero_le _) hP ?_ S₂₄ (Store.Sub.refl _)
      · rintro m hm p G' l own' hz tz v hPk hJ ⟨dd, hdd, rv⟩ S hG
        refine hideQ fun Q₃ hQ₃ => ?_
        obtain ⟨gs', f', nf', on, i, j, n, ti, tj, tn, jv, kv, rfl, Df', hnf', hR', hW', hN', rfl⟩ := hJ
        rw [hlj] at hm
        obtain ⟨qq, hqq⟩ : ∃ qq, js[m]? = some qq := ⟨_, List.getElem?_eq_getElem hm⟩
        obtain rfl : dd = .int (qq : Int) := by
          rw [List.getElem?_map, List.getElem?_map, hqq] at hdd; exact (Option.some.inj hdd).symm
        obtain ⟨tq, rfl⟩ := rv.intv
        have hbq := hj2 qq (List.mem_of_getElem? hqq)
        have hm0 : m = 0 := by lia
        have hjs1 : ∀ z ∈ js, z = qq := fun z hz => by
          obtain ⟨r, hr⟩ := List.getElem?_of_mem hz
          obtain ⟨hr', _⟩ := List.getElem?_eq_some_iff.mp hr
          rw [show r = m by lia, hqq] at hr
          exact (Option.some.inj hr).symm
        refine wpAny_assign_Name (stS S (by walk_at "set") fun h₂₅ u₂₅ S₂₅ => ?_)
        refine seqS (wpAny_If (wpAny_isTrue_Compare1 (ldS S₂₅ (by walk_at "mem") (ldS S₂₅ (by walk_at "mem") (PyProof.Rows.lt_int (wpAny_truthy_bool ?_))))))
        by_cases hlt : qq < blo
        · refine ifso (ltI (by first | assumption | lia)) ?_
          refine seqS (wpAny_Continue ?_)
          subst hQ₃
          refine ⟨_, _, _, _, _, rfl, S₂₅, hG, hG, f', nf', on, i, j, n, ti, tj, tn, _, _, rfl, Df', by lia, hR', hW', fun h0 => ⟨(hN' h0).1, fun z hz => ?_⟩, rfl⟩
          rw [hjs1 z (List.mem_of_mem_take hz)]; lia
        · refine ifno (nltI (by first | assumption | lia)) ?_
          refine wpAny_execs_nil ?_
          refine seqS (wpAny_If (wpAny_isTrue_Compare1 (ldS S₂₅ (by walk_at "mem") (ldS S₂₅ (by walk_at "mem") (PyProof.Rows.ge_int (wpAny_truthy_bool ?_))))))
          by_cases hge : bhi ≤ qq
          · refine ifso (leI (by first | assumption | lia)) ?_
            refine seqS (wpAny_Break ?_)
            subst hQ₃ hQ₂
            refine ⟨rfl, _, _, _, f', nf', on, i, j, n, ti, tj, tn, _, _, rfl, S₂₅.dropAll (fun _ _ _ x => x), hG, Df', by lia, hR', hW', fun h0 => (hN' h0).1.succ hy fun z hz hw => ?_⟩
            have := hjs1 z (hj1 z hz); lia
          · refine ifno (nleI (by first | assumption | lia)) ?_
            refine wpAny_execs_nil ?_
            have hjd := (S₂₅.ow (jd, oj) (List.mem_append_right _ (by simp))).1
            refine seqS (wpAny_Assign_two (wpAny_BinOp (Call_ (ldS S₂₅ (by walk_at "mem") (callWith_bm (id := "dict.get") (self := .ref jd) (args_cons (wpAny_BinOp (ldS S₂₅ (by walk_at "mem") (conI fun tk1 tu1 => subI (c := (qq : Int) - 1) rfl fun tk2 tu2 => args_cons (conI fun tk3 tu3 => args_nil ⟨S₂₅.gin _ _ (hG _ _ e₁₉), ?_⟩))))))))))
            refine bmGetV (S₂₅.gin _ _ (hG _ _ e₁₉)) hjd Df hjs fun u₂₆ vz evz => ?_
            obtain ⟨m', tk', rfl, hma, hmb, hmB⟩ := hR.step' hy hbq (by lia) (by lia) evz
            refine conI fun tk4 tu4 => addI (c := ((m' + 1 : Nat) : Int)) (by lia) fun tk5 tu5 => ?_
            refine wpAny_assign_Name (stS S₂₅ (by walk_at "set") fun h₂₇ u₂₇ S₂₇ => ?_)
            refine assign_sub (ldS S₂₇ (by walk_at "mem") (ldS S₂₇ (by walk_at "mem") (setItemD S₂₇ (fun o' => ownMid p) Df' (by lia) fun h₂₈ o₂₈ u₂₈ S₂₈ D₂₈ => ?_)))
            refine seqS (wpAny_If (wpAny_isTrue_Compare1 (ldS S₂₈ (by walk_at "mem") (ldS S₂₈ (by walk_at "mem") (PyProof.Rows.gt_int (wpAny_truthy_bool ?_))))))
            by_cases hgt : n < m' + 1
            · refine ifso (ltI (by first | assumption | lia)) ?_
              refine seqS (Assign_Tuple_swapped (names := [Str.ofString "besti", Str.ofString "bestj", Str.ofString "bestsize"]) (Tuple_ (args_cons (wpAny_BinOp (wpAny_BinOp (ldS S₂₈ (by walk_at "mem") (ldS S₂₈ (by walk_at "mem") (subI rfl fun tk6 tu6 => conI fun tk7 tu7 => addI (c := ((alo + c + 1 - (m' + 1) : Nat) : Int)) (by lia) fun tk8 tu8 => ?_))))))))
              refine args_cons (wpAny_BinOp (wpAny_BinOp (ldS S₂₈ (by walk_at "mem") (ldS S₂₈ (by walk_at "mem") (subI rfl fun tk9 tu9 => conI fun tk10 tu10 => addI (c := ((qq + 1 - (m' + 1) : Nat) : Int)) (by lia) fun tk11 tu11 => args_cons (ldS S₂₈ (by walk_at "mem") (args_nil ?_)))))))
              refine tupUnpack S₂₈ (by exact hh) rfl fun h₂₉ S₂₉ => ?_
              refine inOrder_cons (bindS S₂₉ (by walk_at "set") fun h₃₀ u₃₀ S₃₀ => inOrder_cons (bindS S₃₀ (by walk_at "set") fun h₃₁ u₃₁ S₃₁ => inOrder_cons (bindS S₃₁ (by walk_at "set") fun h₃₂ u₃₂ S₃₂ => inOrder_nil ?_)))
              refine wpAny_execs_nil (wpAny_execs_nil ?_)
              subst hQ₃
              refine ⟨_, _, _, _, _, rfl, S₃₂, hG, hG, _, _, _, alo + c + 1 - (m' + 1), qq + 1 - (m' + 1), m' + 1, _, _, _, _, _, rfl, D₂₈, by lia, hR'.put rfl hma hmb (by lia) hmB, ⟨by lia, by lia, by lia, by lia, hmB⟩, fun h0 => absurd h0 (by lia), rfl⟩
            · refine ifno (nltI (by first | assumption | lia)) ?_
              refine wpAny_execs_nil (wpAny_execs_nil ?_)
              subst hQ₃
              refine ⟨_, _, _, _, _, rfl, S₂₈, hG, hG, _, _, _, i, j, n, _, _, _, _, _, rfl, D₂₈, by lia, hR'.put rfl hma hmb (by lia) hmB, hW', fun h0 => absurd h0 (by lia), rfl⟩
      · rintro m G' G'' l own' ⟨gs', f', nf', on, i, j, n, ti, tj, tn, jv, kv, rfl, Df', hnf', hR', hW', hN', rfl⟩ g
        exact ⟨gs'.trans g, f', nf', on, i, j, n, ti, tj, tn, jv, kv, rfl, Df', hnf', hR', hW', hN', rfl⟩
      · rintro G' l own' hz tz ⟨gs', f', nf', on, i, j, n, ti, tj, tn, jv, kv, rfl, Df', hnf', hR', hW', hN', rfl⟩ S hG
        subst hQ₂
        refine ⟨rfl, _, _, _, f', nf', on, i, j, n, ti, tj, tn, _, _, rfl, S, hG, Df', by lia, hR', hW', fun h0 => (hN' h0).1.succ hy fun z hz => (hN' h0).2 z ?_⟩
        rw [hlj, List.take_length]; exact hj1 z hz
      · exact ⟨Store.Sub.refl _, _, 0, _, i, j, n, ti, tj, tn, _, _, rfl, DMap.new w, Nat.le_refl _, RowMap.none, hW, fun h0 => ⟨hN h0, fun z hz => (nomatch hz)⟩, rfl⟩
    · rintro fl s' ⟨rfl, h', G'', t', f', nf', on, i, j, n, ti, tj, tn, jv, kv, rfl, S', g', Df', hnf', hR', hW', hN'⟩
      refine seqS (setS (ldS S' (by walk_at "mem") (stS S' (by walk_at "set") fun h₂₃ u₂₃ S₂₃ => wpAny_execs_nil ?_)))
      subst hQ
      refine ⟨_, _, [(nj', on), (dx, od)], _, _, rfl, S₂₃.idx0 [1, 0, 3] (by decide) rfl, g19.trans g', g19.trans g', f', nf', on, nj', i, j, n, ti, tj, tn, _, _, _, _, _, rfl, Df', hnf', hsys₂, hR', hW', hN', rfl⟩
  · rintro c G' G'' l own' ⟨gs, f, nf, oj, jd, i, j, n, ti, tj, tn, iv, jg, nj, jv, kv, rfl, Df, hnf, hjs, hR, hW, hN, rfl⟩ g
    exact ⟨gs.trans g, f, nf, oj, jd, i, j, n, ti, tj, tn, iv, jg, nj, jv, kv, rfl, Df, hnf, hjs, hR, hW, hN, rfl⟩
  · rintro G' l own' hz tz ⟨gs, f, nf, oj, jd, i, j, n, ti, tj, tn, iv, jg, nj, jv, kv, rfl, Df, hnf, hjs, hR, hW, hN, rfl⟩ S hG
    have hend : alo + (ahi - alo) = ahi := by lia
    rw [hend] at hN
    have es' := (gb.trans gs) _ _ es
    refine while1 (ra.mono gs) (rb.mono gs) (gs _ _ eq) es' hla hlb ha2 hb2 (by exact hh) S hW fun h₃₀ t₃₀ i₁ j₁ n₁ ti₁ tj₁ tn₁ S₃₀ W₃₀ N₃₀ => ?_
    refine while2 (ra.mono gs) (rb.mono gs) (gs _ _ eq) es' hla hlb ha2 hb2 (by exact hh) S₃₀ W₃₀ fun h₃₁ t₃₁ i₂ j₂ n₂ ti₂ tj₂ tn₂ S₃₁ W₃₁ N₃₁ => ?_
    refine while34 (rb.mono gs) (gs _ _ eq) es' hlb hb2 (by show A.depth + 1 + 4 < _; lia) S₃₁ W₃₁ fun h₃₂ G₃₂ t₃₂ m dm ti₃ tj₃ tn₃ l₃ S₃₂ g₃₂ e₃₂ => ?_
    have S₃₃ := S₃₂.dropAll (part := [(jd, oj)]) (own := [(dx, od)]) (fun _ _ _ x => x)
    exact k _ _ _ m dm i₂ j₂ n₂ _ _ _ (St.leave (new := [(dx, od)]) ‹_› S₃₃) (gb.trans (gs.trans g₃₂)) W₃₁ (fun e => hN (N₃₀ (N₃₁ e))) e₃₂
  · exact ⟨Store.Sub.refl _, _, 0, _, jd, alo, blo, 0, _, _, _, none, none, none, none, none, rfl, DMap.new w, by decide, hsys₁, RowMap.none, ⟨Nat.le_refl _, ha1, Nat.le_refl _, hb1, Blk.zero⟩, fun _ i j v h1 h2 => by lia, rfl⟩
end
/-! ## lists of values, each of a datum -/
inductive Fa {α : Type} (R : Value → α → Prop) : List Value → List α → Prop
  | nil : Fa R [] []
  | cons {v vs x xs} : R v x → Fa R vs xs → Fa R (v :: vs) (x :: xs)
namespace Fa
variable {α : Type} {R R' : Value → α → Prop}
theorem mono (h : ∀ v x, R v x → R' v x) {vs : List Value} {xs : List α} (f : Fa R vs xs) : Fa R' vs xs := by
  induction f with
  | nil => exact .nil
  | cons a _ ih => exact .cons (h _ _ a) ih
theorem length {vs : List Value} {xs : List α} (f : Fa R vs xs) : vs.length = xs.length := by
  induction f with
  | nil => rfl
  | cons _ _ ih => exact congrArg Nat.succ ih
theorem app {vs ws : List Value} {xs ys : List α} (f : Fa R vs xs) (g : Fa R ws ys) : Fa R (vs ++ ws) (xs ++ ys) := by
  induction f with
  | nil => exact g
  | cons a _ ih => exact .cons a ih
theorem get {vs : List Value} {xs : List α} {k : Nat} {v : Value} (f : Fa R vs xs) : vs[k]? = some v → ∃ x, xs[k]? = some x ∧ R v x := by
  induction f generalizing k with
  | nil => intro e; simp at e
  | cons a _ ih =>
    intro e
    cases k with
    | zero => simp at e; subst e; exact ⟨_, rfl, a⟩
    | succ k => simp at e; exact ih e
theorem getx {vs : List Value} {xs : List α} {k : Nat} {x : α} (f : Fa R vs xs) : xs[k]? = some x → ∃ v, vs[k]? = some v ∧ R v x := by
  induction f generalizing k with
  | nil => intro e; simp at e
  | cons a _ ih =>
    intro e
    cases k with
    | zero => simp at e; subst e; exact ⟨_, rfl, a⟩
    | succ k => simp at e; exact ih e
theorem snoc_inv {v : Value} {xs : List α} {vs : List Value} (f : Fa R (vs ++ [v]) xs) : ∃ ys y, xs = ys ++ [y] ∧ Fa R vs ys ∧ R v y := by
  induction vs generalizing xs with
  | nil => cases f with | cons a b => cases b; exact ⟨[], _, rfl, .nil, a⟩
  | cons w vs ih =>
    cases f with
    | cons a b => obtain ⟨ys, y, rfl, p, q⟩ := ih b; exact ⟨_ :: ys, y, rfl, .cons a p, q⟩
/-- a list in another order -/
theorem pick (h : Fa R vs xs) : ∀ (is : List Nat), (∀ i ∈ is, i < vs.length) → ∃ ys, Fa R (is.map fun i => vs.getD i .none) ys ∧ ys = is.filterMap (xs[·]?)
  | [], _ => ⟨[], .nil, rfl⟩
  | i :: is, hi => by
    obtain ⟨ys, p, q⟩ := h.pick is fun j hj => hi j (.tail _ hj)
    have hl := hi i (.head _)
    obtain ⟨x, hx, r⟩ := h.get (List.getElem?_eq_getElem hl)
    refine ⟨x :: ys, ?_, by rw [List.filterMap_cons, hx, q]⟩
    rw [List.map_cons, List.getD_eq_getElem?_getD, List.getElem?_eq_getElem hl]
    exact .cons r p
end Fa
noncomputable abbrev Tri := Nat × Nat × Nat
/-- a Match of the store -/
noncomputable def IsM (G : Store) (v : Value) (b : Tri) : Prop := ∃ m dm ti tj tn, v = .ref m ∧ G m = some (tcO 273 dm [.int (b.1 : Nat) ti, .int (b.2.1 : Nat) tj, .int (b.2.2 : Nat) tn])
theorem IsM.mono {G G' : Store} (g : G.Sub G') {v : Value} {b : Tri} : IsM G v b → IsM G' v b := by
  rintro ⟨m, dm, ti, tj, tn, e, q⟩
  exact ⟨m, dm, ti, tj, tn, e, g _ _ q⟩
section
variable {w : World} {env : Env} {G₀ G : Store} {h₀ h : Heap} {own own' : List (Addr × Obj)} {l : Loc} {A : Around} {E : Value → Shared → Prop} {s : Shared} {t : Nat}
/-- truth of an own list -/
theorem truthOwn {a : Addr} {vs : List Value} {n : Nat} {Q : Bool → Shared → Prop} (S : St w env G₀ h₀ own l G h) (ho : (a, lstO vs n) ∈ own) (hz : vs.length ≤ 10000) (k : ∀ t', Q (!vs.isEmpty) (mkS s h t')) :
    wpAny (model pw w) A (truthy (.ref a)) Q E (mkS s h t) := by
  refine wpAny_truthy_list (s := mkS s h t) (⟨_, (S.ow _ ho).1, rfl, n, rfl⟩ : h.IsList a vs.toArray) (by simp; lia) ?_
  have : vs.toArray.isEmpty = vs.isEmpty := by cases vs <;> rfl
  rw [this]; exact k _
/-- own.pop() -/
theorem popOwn {a : Addr} {vs : List Value} {v : Value} {n : Nat} {ow : Obj → List (Addr × Obj)} {Q : Value → Shared → Prop} (S : St w env G₀ h₀ own l G h) (ho : ∀ o', OwnTo own a (lstO (vs ++ [v]) n) o' (ow o')) (hz : vs.length ≤ 10000)
    (k : ∀ h' t' n', St w env G₀ h₀ (ow (lstO vs n')) l G h' → Q v (mkS s h' t')) : wpAny (model pw w) A (call (.builtin "list.pop") [.ref a]) Q E (mkS s h t) := by
  have e := (S.ow _ (ho (lstO [] 0)).mem).1
  have hsz := sizeLine_eq
  have hl : (vs ++ [v]).toArray.size - 1 = vs.length := by simp
  refine call_meets PySem.F.slot_list_pop (⟨_, e, rfl⟩ : (mkS s h t).TypeIs (.ref a) "list") PySem.F.entry_list_pop (PySem.F.args_list_pop_1 _) (MeetsSeq.list_pop_last a (vs ++ [v]).toArray n v (by rw [hl]; simp) (by simp; lia)) ⟨e, ?_⟩
  have he : Obj.mapSeq (fun xs => xs.eraseIdxIfInBounds ((vs ++ [v]).toArray.size - 1)) (lstO (vs ++ [v]) n) = lstO vs (n + 1) ∨ ∃ n', Obj.mapSeq (fun xs => xs.eraseIdxIfInBounds ((vs ++ [v]).toArray.size - 1)) (lstO (vs ++ [v]) n) = lstO vs n' := by
    right
    rw [hl]
    unfold Obj.mapSeq lstO
    have : (vs ++ [v]).toArray.eraseIdxIfInBounds vs.length = vs.toArray := by
      simp [List.eraseIdx_append_of_length_le]
    simp [this]
  have : ∃ n', Obj.mapSeq (fun xs => xs.eraseIdxIfInBounds ((vs ++ [v]).toArray.size - 1)) (lstO (vs ++ [v]) n) = lstO vs n' := he.elim (fun e => ⟨_, e⟩) id
  obtain ⟨n', hn⟩ := this
  exact k _ _ n' (S.upd (ho _) (Heap.SameBut.update ..) (hn ▸ Heap.get?_update_self _ e (by rw [hn]; rfl)))
end
noncomputable def SeqD (h : Heap) (a : Addr) (vs : List Value) : Prop := ∃ o n, h.get? a = some o ∧ o.data = .seq vs.toArray n
section
variable {w : World} {A : Around} {E : Value → Shared → Prop} {s : Shared} {it a : Addr} {vs : List Value} {i : Nat}
theorem tiNext {x : Value} {Q : Option Value → Shared → Prop} (hit : s.heap.IsTupleIter it a i) (ha : SeqD s.heap a vs) (hx : vs[i]? = some x)
    (hQ : ∀ h', h'.IsTupleIter it a (i + 1) → Heap.SameBut it s.heap h' → Q (some x) { s with heap := h' }) : wpAny (model pw w) A (pyNext (.ref it)) Q E s := by
  obtain ⟨o, ho, hc, hd⟩ := id hit
  obtain ⟨oa, na, ea, da⟩ := ha
  unfold pyNext
  refine wpAny_bind (wpAny_attempt (wpAny_callSpecial?_slot (name := Str.ofString "__next__") hit.typeIs PySem.F.slot_tuple_iterator_next
    (wpAny_call_entry PySem.F.slot_tuple_iterator_next hit.typeIs PySem.F.entry_tuple_iterator_next ?_ (PySem.F.args_tuple_iterator_next_1 _))))
  show wpAny _ _ (field (.ref it) 0 >>= _) _ _ s
  refine wpAny_bind (wpAny_field ho hd (x := .ref a) rfl ?_)
  refine KFB.if_not (by rfl) ?_
  refine wpAny_bind (wpAny_field ho hd (x := .int i 0) rfl ?_)
  refine wpAny_bind (wpAny_seqItems ea da ?_)
  have hx' : vs.toArray[((i : Nat) : Int).toNat]? = some x := by simpa using hx
  simp only [hx']
  refine wpAny_bind (wpAny_setField ho hd (by simp) (wpAny_pure ⟨x, rfl, wpAny_pure (hQ _ ?_ (Heap.SameBut.update ..))⟩))
  exact ⟨_, Heap.get?_update_self _ ho (Obj.isFreed_of_fields (Obj.data_mapFields hd _)), (Obj.cls_mapFields ..).trans hc, by
    rw [Obj.data_mapFields hd]; simp [rawInt]⟩
theorem tiStop {Q : Option Value → Shared → Prop} (hh : A.handled = none) (hit : s.heap.IsTupleIter it a i) (ha : SeqD s.heap a vs) (hx : vs[i]? = none)
    (hQ : ∀ h', Heap.ExtBut it s.heap h' → Q none { s with heap := h' }) : wpAny (model pw w) A (pyNext (.ref it)) Q E s := by
  obtain ⟨o, ho, hc, hd⟩ := id hit
  obtain ⟨oa, na, ea, da⟩ := ha
  unfold pyNext
  refine wpAny_bind (wpAny_attempt (wpAny_callSpecial?_slot (name := Str.ofString "__next__") hit.typeIs PySem.F.slot_tuple_iterator_next
    (wpAny_call_entry PySem.F.slot_tuple_iterator_next hit.typeIs PySem.F.entry_tuple_iterator_next ?_ (PySem.F.args_tuple_iterator_next_1 _))))
  show wpAny _ _ (field (.ref it) 0 >>= _) _ _ s
  refine wpAny_bind (wpAny_field ho hd (x := .ref a) rfl ?_)
  refine KFB.if_not (by rfl) ?_
  refine wpAny_bind (wpAny_field ho hd (x := .int i 0) rfl ?_)
  refine wpAny_bind (wpAny_seqItems ea da ?_)
  have hx' : vs.toArray[((i : Nat) : Int).toNat]? = none := by simpa using hx
  simp only [hx']
  refine wpAny_bind (wpAny_rule (wpAny_bind (wpAny_setField ho hd (by simp) ?_)))
  show wpAny _ _ (newExc (.type "StopIteration") [] >>= _) _ _ _
  refine wpAny_bind ?_
  simp only [newExc, newTuple]
  refine wpAny_bind (wpAny_newObj_type ?_ (by size_fits))
  refine wpAny_bind (m := firstArgMember _ _) (wpAny_of_eq (a := Value.none) (by first | rfl | (simp only [firstArgMember]; rfl)) ?_)
  refine wpAny_newObj_type ?_ (by size_fits)
  simp only [raiseNew]
  refine wpAny_bind (wpAny_handled ?_)
  first | rw [show A.in1.handled = none from hh] | rw [hh]
  refine wpAny_bind (wpAny_pure (wpAny_throw ?_))
  refine wpAny_bind (wpAny_isInstance (T := "StopIteration") (b := true) ⟨_, Heap.get?_push_size _ rfl, rfl⟩ isSubtype_stop ?_)
  exact wpAny_pure (hQ _ (((Heap.SameBut.update ..).extBut.push _).push _))
end
theorem SeqD.extBut {h h' : Heap} {a b : Addr} {vs : List Value} (x : SeqD h a vs) (hs : Heap.ExtBut b h h') (hab : a ≠ b) : SeqD h' a vs := let ⟨o, n, e, d⟩ := x; ⟨o, n, hs a o hab e, d⟩
theorem SeqD.push {h : Heap} {a : Addr} {vs : List Value} (x : SeqD h a vs) (o : Obj) : SeqD (h.push o) a vs := let ⟨o', n, e, d⟩ := x; ⟨o', n, Heap.get?_push_of_some o e, d⟩
section
variable {w : World} {env : Env} {G₀ G : Store} {h₀ h : Heap} {own own' : List (Addr × Obj)} {l : Loc} {A : Around} {E : Value → Shared → Prop} {s : Shared} {t : Nat} {C fN sm : Addr}
theorem oi_ti (self : Value) : bindSpecial (.builtin "tuple.__iter__") self = pure (.builtin "tuple.__iter__", [self]) := PySem.F.slot_tuple_iter.bind self
theorem kind_ti : builtinKind "tuple.__iter__" = some .slot := by decide +kernel
theorem split_ti : splitId "tuple.__iter__" = some ("tuple", "__iter__") := by decide +kernel
/-- iter of a named tuple -/
theorem iterM {m dm : Addr} {vs : List Value} {Q : Value → Shared → Prop} (T : TC C fN sm) (S : St w env G₀ h₀ own l G h) (hm : h.get? m = some (tcO C dm vs))
    (k : ∀ h' it oi, St w env G₀ h₀ ((it, oi) :: own) l G h' → h'.IsTupleIter it m 0 → (∀ b o, h.get? b = some o → h'.get? b = some o) → Q (.ref it) (mkS s h' t)) :
    wpAny (model pw w) A (pyIter (.ref m)) Q E (mkS s h t) := by
  have X := S.bsNow.X
  have L0 : Looks (model pw w) h (typeOf (.ref m)) (.ref C) := (Looks.ld hm).andThen .now
  have L1 := looks_findIn (M := model pw w) X (T.iter _)
  have L2 : Looks (model pw w) h (isInstance (.ref m) (.type "tuple")) true := L0.andThen (T.sub X (by simp))
  unfold pyIter
  refine wpAny_bind (wpAny_bind (L0.at (L1.at ?_)))
  show wpAny _ _ (callSpecialIfBoundUnlessNone? (.ref m) "__iter__" _ >>= _) _ _ _
  refine wpAny_bind ?_
  simp only [callSpecialIfBoundUnlessNone?, bindSpecialIfBound?]
  refine wpAny_holding (wpAny_bind (wpAny_bind (wpAny_bind (L0.at (L1.at ?_)))))
  simp only [oi_ti]
  have fin : ∀ {P : Option Value → Shared → Prop}, wpAny (model pw w) A (call (.builtin "tuple.__iter__") [.ref m]) (fun v => P (some v)) E (mkS s h t) → wpAny (model pw w) A (if (Value.builtin "tuple.__iter__" == Value.none) = true then ((do rule "iter.none"; raiseError "TypeError" s!"'{← typeNameOf (.ref m)}' object is not iterable") >>= fun v => pure (some v)) else (call (.builtin "tuple.__iter__") [.ref m] >>= fun v => pure (some v))) P E (mkS s h t) := fun hc => by
    simp only [builtin_beq_none, Bool.false_eq_true, if_false]
    exact wpAny_bind (wpAny_mono hc (fun v s' h' => wpAny_pure h') fun _ _ h' => h')
  have run : wpAny (model pw w) A (call (.builtin "tuple.__iter__") [.ref m]) (fun it s' => ∃ r, wpAny (model pw w) A (specialOf it "__next__") (fun v s'' => v = some r ∧ Q it s'') E s') E (mkS s h t) := by
    refine wpAny_call (codeAny_call_builtin PySem.F.slot_tuple_iter.plain PySem.F.entry_tuple_iter (@check_slot (model pw w) _ _ (mkS s h t) "tuple.__iter__" "tuple" "__iter__" (.ref m) [] [] _ kind_ti split_ti L2 (PySem.F.args_tuple_iter_1 _) ?_))
    show wpAny _ _ (do ret (← newFields "tuple_iterator" [.ref m, rawInt 0])) _ _ _
    refine wpAny_bind (wpAny_newObj_type (wpAny_pure ?_))
    have S1 := S.pushOwn { cls := .type "tuple_iterator", data := .fields #[.ref m, .int 0 0] } rfl
    refine ⟨.builtin "tuple_iterator.__next__", wpAny_specialOf (⟨_, Heap.get?_push_size h rfl, rfl⟩ : (mkS s (h.push { cls := .type "tuple_iterator", data := .fields #[.ref m, .int 0 0] }) t).TypeIs (.ref h.objs.size) "tuple_iterator") PySem.F.slot_tuple_iterator_next.lookup ⟨rfl, ?_⟩⟩
    exact k _ _ _ S1 ⟨_, Heap.get?_push_size _ rfl, rfl, rfl⟩ fun b o e => Heap.get?_push_of_some _ e
  have run' := wpAny_mono run (fun v s' ⟨r, q⟩ => (wpAny_bind (wpAny_mono q (fun x s'' ⟨e, q⟩ => by subst e; exact wpAny_pure q) fun _ _ x => x) : wpAny (model pw w) A (specialOf v "__next__" >>= fun x => match x with
      | none => (do rule "iter.non-iterator"; raiseError "TypeError" s!"iter() returned non-iterator of type '{← typeNameOf v}'" : Sem Value)
      | some _ => pure v) Q E s')) fun _ _ x => x
  refine wpAny_bind (wpAny_askSetting (wpAny_ite ?_))
  split
  · exact wpAny_bind (wpAny_pure (wpAny_pure (fin run')))
  · exact wpAny_tryCatch (wpAny_bind (wpAny_pure (wpAny_pure (fin run'))))
theorem drawTI {it a : Addr} {vs : List Value} (hne : a ≠ it) : ∀ (n i : Nat) (s : Shared) (Q : List Value → Shared → Prop), s.heap.IsTupleIter it a i → SeqD s.heap a vs → i + n ≤ vs.length →
    (∀ h', h'.IsTupleIter it a (i + n) → Heap.SameBut it s.heap h' → Q ((vs.drop i).take n) { s with heap := h' }) → wpAny (model pw w) A (draw (.ref it) n) Q E s
  | 0, i, s, Q, hit, _, _, hQ => by
    show wpAny _ _ (pure []) Q E s
    exact wpAny_pure (by simpa using hQ s.heap hit (Heap.SameBut.refl ..))
  | n + 1, i, s, Q, hit, ht, hle, hQ => by
    have hlt : i < vs.length := by lia
    show wpAny _ _ (pyNext (.ref it) >>= _) Q E s
    refine wpAny_bind (tiNext hit ht (x := vs[i]) (List.getElem?_eq_getElem hlt) fun h₁ hit₁ hs₁ => ?_)
    refine wpAny_bind (wpAny_holding (drawTI hne n (i + 1) _ _ hit₁ (ht.extBut hs₁.extBut hne) (by lia) fun h₂ hit₂ hs₂ => wpAny_pure ?_))
    have hd : vs.drop i = vs[i] :: vs.drop (i + 1) := List.drop_eq_getElem_cons hlt
    have := hQ h₂ (by rw [show i + (n + 1) = i + 1 + n by lia]; exact hit₂) (hs₁.trans hs₂)
    rw [hd, List.take_succ_cons] at this
    exact this
/-- a named tuple taken apart over targets -/
theorem unpackM {elts : List PySem.Expr} {x1 : Nat} {pos : Pos} {m dm : Addr} {vs : List Value} {Q : Unit → Shared → Prop} (T : TC C fN sm) (S : St w env G₀ h₀ own l G h) (hm : G m = some (tcO C dm vs)) (hh : A.handled = none)
    (hn : (assignEach elts env).length = vs.length) (hstar : (assignEach elts env).findIdx? (·.1) = none)
    (k : ∀ h', St w env G₀ h₀ own l G h' → wpAny (model pw w) A (assignInOrder ((assignEach elts env).map (·.2)) vs) Q E (mkS s h' t)) :
    wpAny (model pw w) A (assign (.Tuple elts x1 pos) env (.ref m)) Q E (mkS s h t) := by
  have hm' := S.gin _ _ hm
  have L0 : Looks (model pw w) h (typeOf (.ref m)) (.ref C) := (Looks.ld hm').andThen .now
  have L1 := looks_findIn (M := model pw w) S.bsNow.X (T.iter _)
  rw [PyProof.Rows.assign_Tuple]
  refine wpAny_bind (wpAny_standAt ?_)
  unfold unpack
  rw [hn, hstar]
  refine wpAny_bind (wpAny_holding ?_)
  unfold unpackItems
  refine wpAny_bind (m := notIterableAtAll (.ref m)) ?_
  unfold notIterableAtAll
  refine wpAny_bind (wpAny_bind (L0.at (L1.at ?_)))
  refine KFB.if_so (by rfl) (wpAny_pure ?_)
  refine KFB.if_not (by rfl) ?_
  refine wpAny_bind (wpAny_holding (iterM T S hm' fun h₁ it oi S₁ hit hk => ?_))
  have hne : m ≠ it := fun q => by subst q; have := (S₁.ow _ (.head _)).2.2.2; rw [hm] at this; cases this
  have sd : SeqD h₁ m vs := ⟨_, 0, hk _ _ hm', rfl⟩
  dsimp only
  refine wpAny_bind (wpAny_holding (drawTI (s := mkS s h₁ t) hne vs.length 0 _ hit sd (by lia) fun h₂ hit₂ hs₂ => ?_))
  have hall : List.take vs.length (List.drop 0 vs) = vs := by rw [List.drop_zero]; exact List.take_of_length_le (by simp)
  rw [hall, if_neg (by simp)]
  refine wpAny_bind (wpAny_holding (tiStop (s := mkS s h₂ t) hh hit₂ (sd.extBut hs₂.extBut hne) (by simp) fun h₃ hx₃ => ?_))
  refine KFB.if_not (by rfl) (wpAny_pure ?_)
  exact k h₃ (S₁.dropAll (part := [_]) fun b o hb e => hx₃ b o (fun q => hb (by simp [q])) (hs₂.extBut b o (fun q => hb (by simp [q])) e))
end
end Mine
end
section
open PySem PySem.W PyProof.Rows PySem.Calls Builtin Builtin.Tuple
namespace Mine
set_option maxRecDepth 100000
theorem tlt_eq (a b : Value) : Builtin.«tuple.__lt__» ⟨[a, b], []⟩ = (do
  if !(← isInstance b (.type "tuple")) then return ← ret .notImplemented
  let xs ← tupleItemsOf a
  let ys ← tupleItemsOf b
  for (x, y) in xs.toList.zip ys.toList do
    if !(← eqBool x y) then
      rule "tuple.compare.by-the-first-pair-that-differs"; return ← ret (← richCompare .Lt x y)
  ret (tupleCompareSizes .Lt xs.size ys.size)) := rfl
section
variable {w : World} {A : Around} {E : Value → Shared → Prop} {s : Shared}
/-- the pairs of two tuples, one after the other -/
noncomputable def TLt (w : World) (A : Around) (P : Fin → Shared → Prop) (E : Value → Shared → Prop) (fin : Shared → Prop) : List (Value × Value) → Shared → Prop
  | [], s => fin s
  | (x, y) :: r, s => wpAny (model pw w) A (eqBool x y) (fun b s' => if b then TLt w A P E fin r s' else wpAny (model pw w) A (richCompare .Lt x y) (fun v s'' => P (.done (.ret v)) s'') E s') E s
theorem tlt_run {a b : Addr} {xs ys : List Value} {P : Fin → Shared → Prop} (L : Looks (model pw w) s.heap (isInstance (.ref b) (.type "tuple")) true) (ha : SeqD s.heap a xs) (hb : SeqD s.heap b ys)
    (h : TLt w A P E (fun s' => P (.done (.ret (.bool (decide (xs.length < ys.length))))) s') (xs.zip ys) s) : wpAny (model pw w) A (Builtin.«tuple.__lt__» ⟨[.ref a, .ref b], []⟩) P E s := by
  obtain ⟨oa, na, ea, da⟩ := ha
  obtain ⟨ob, nb, eb, db⟩ := hb
  rw [tlt_eq]
  refine wpAny_bind (L.here ?_)
  refine KFB.if_not (by rfl) ?_
  refine wpAny_bind (wpAny_bind (wpAny_seqItems ea da (wpAny_pure ?_)))
  refine wpAny_bind (wpAny_bind (wpAny_seqItems eb db (wpAny_pure ?_)))
  dsimp only
  have hfin : ∀ s', (P (.done (.ret (.bool (decide (xs.length < ys.length))))) s') → wpAny (model pw w) A (ret (tupleCompareSizes .Lt xs.toArray.size ys.toArray.size)) P E s' := fun s' q => by
    refine wpAny_pure ?_
    simpa [tupleCompareSizes] using q
  have key : ∀ (ps : List (Value × Value)) (s : Shared), TLt w A P E (fun s' => P (.done (.ret (.bool (decide (xs.length < ys.length))))) s') ps s →
      wpAny (model pw w) A (forIn ps (none, PUnit.unit) (fun (p : Value × Value) (r : Option Fin × PUnit) => match p with | (x, y) => do
        if !(← eqBool x y) then
          rule "tuple.compare.by-the-first-pair-that-differs"
          let v ← ret (← richCompare .Lt x y)
          pure (ForInStep.done (some v, PUnit.unit))
        else pure (ForInStep.yield (none, PUnit.unit)))) (fun r s' => match r.1 with | none => wpAny (model pw w) A (ret (tupleCompareSizes .Lt xs.toArray.size ys.toArray.size)) P E s' | some v => P v s') E s := by
    intro ps
    induction ps with
    | nil => intro s q; rw [List.forIn_nil]; exact wpAny_pure (hfin _ q)
    | cons p r ih =>
      obtain ⟨x, y⟩ := p
      intro s q
      rw [List.forIn_cons]
      refine wpAny_bind (wpAny_bind (wpAny_mono q (fun b s' hb => ?_) fun _ _ x => x))
      cases b with
      | true =>
        refine KFB.if_not (by rfl) (wpAny_pure ?_)
        exact ih _ hb
      | false =>
        refine KFB.if_so (by rfl) ?_
        refine wpAny_bind (wpAny_rule ?_)
        refine wpAny_bind (wpAny_mono hb (fun v s'' hv => ?_) fun _ _ x => x)
        refine wpAny_bind (wpAny_pure (wpAny_pure (wpAny_pure ?_)))
        exact hv
  refine wpAny_bind (wpAny_mono (key (xs.zip ys) s h) (fun r s' q => ?_) fun _ _ x => x)
  obtain ⟨r1, r2⟩ := r
  cases r1 with
  | none => exact q
  | some v => exact wpAny_pure q
end
end Mine
end
section
open PySem PySem.W PyProof.Rows PySem.Calls
namespace Mine
set_option maxRecDepth 100000
/-! ## the sort's questions, answered by keys -/
noncomputable def ev {α : Type} (lt : Nat → Nat → Bool) : KasT α → α
  | .ret a => a
  | .ask i j k => ev lt (k (lt i j))
theorem ev_bind {α β : Type} {lt : Nat → Nat → Bool} (f : α → KasT β) : ∀ t : KasT α, ev lt (t.bind f) = ev lt (f (ev lt t))
  | .ret _ => rfl
  | .ask i j k => ev_bind f (k (lt i j))
section
variable (key : Nat → Int)
noncomputable abbrev kl (i j : Nat) : Bool := decide (key i < key j)
noncomputable abbrev kat (p : Array Nat) (i : Nat) : Int := key (p.getD i 0)
/-- strictly rising up to n -/
noncomputable def Up (p : Array Nat) (n : Nat) : Prop := ∀ i j, i < j → j < n → kat key p i < kat key p j
noncomputable def Dn (p : Array Nat) (n : Nat) : Prop := ∀ i j, i < j → j < n → kat key p j < kat key p i
noncomputable def Dist (p : Array Nat) : Prop := ∀ i j, i < p.size → j < p.size → kat key p i = kat key p j → i = j
variable {key}
theorem Up.snoc {p : Array Nat} {n : Nat} (h : Up key p n) (hn : 0 < n) (hk : kat key p (n - 1) < kat key p n) : Up key p (n + 1) := fun i j hij hj => by
  by_cases e : j = n
  · subst e
    by_cases e2 : i = j - 1
    · subst e2; exact hk
    · exact Int.lt_trans (h i (j - 1) (by lia) (by lia)) hk
  · exact h i j hij (by lia)
theorem Dn.snoc {p : Array Nat} {n : Nat} (h : Dn key p n) (hn : 0 < n) (hk : kat key p n < kat key p (n - 1)) : Dn key p (n + 1) := fun i j hij hj => by
  by_cases e : j = n
  · subst e
    by_cases e2 : i = j - 1
    · subst e2; exact hk
    · exact Int.lt_trans hk (h i (j - 1) (by lia) (by lia))
  · exact h i j hij (by lia)
theorem asc_ok {p : Array Nat} (hd : Dist key p) : ∀ (f n : Nat), 1 ≤ n → n + f ≤ p.size → Up key p n → n ≤ ev (kl key) (kas_asc p f n) ∧ ev (kl key) (kas_asc p f n) ≤ n + f ∧ Up key p (ev (kl key) (kas_asc p f n)) ∧
    (ev (kl key) (kas_asc p f n) < n + f → kat key p (ev (kl key) (kas_asc p f n)) < kat key p (ev (kl key) (kas_asc p f n) - 1))
  | 0, n, _, _, hu => ⟨Nat.le_refl _, Nat.le_refl _, hu, fun h => absurd h (Nat.lt_irrefl _)⟩
  | f + 1, n, h1, hz, hu => by
    show n ≤ ev (kl key) (if decide (kat key p n < kat key p (n - 1)) = true then KasT.ret n else kas_asc p f (n + 1)) ∧ ev (kl key) (if decide (kat key p n < kat key p (n - 1)) = true then KasT.ret n else kas_asc p f (n + 1)) ≤ n + (f + 1) ∧ Up key p (ev (kl key) (if decide (kat key p n < kat key p (n - 1)) = true then KasT.ret n else kas_asc p f (n + 1))) ∧ (ev (kl key) (if decide (kat key p n < kat key p (n - 1)) = true then KasT.ret n else kas_asc p f (n + 1)) < n + (f + 1) → kat key p (ev (kl key) (if decide (kat key p n < kat key p (n - 1)) = true then KasT.ret n else kas_asc p f (n + 1))) < kat key p (ev (kl key) (if decide (kat key p n < kat key p (n - 1)) = true then KasT.ret n else kas_asc p f (n + 1)) - 1))
    by_cases hc : kat key p n < kat key p (n - 1)
    · rw [decide_eq_true hc, if_pos rfl]
      exact ⟨Nat.le_refl _, by show n ≤ _; lia, hu, fun _ => hc⟩
    · rw [decide_eq_false hc, if_neg (by simp)]
      have hne : kat key p n ≠ kat key p (n - 1) := fun e => by have := hd n (n - 1) (by lia) (by lia) e; lia
      obtain ⟨a, b, c, d⟩ := asc_ok hd f (n + 1) (by lia) (by lia) (hu.snoc (by lia) (by lia))
      exact ⟨by lia, by lia, c, fun hh => d (by lia)⟩
theorem desc_ok {p : Array Nat} (hd : Dist key p) : ∀ (f n : Nat), 1 ≤ n → n + f ≤ p.size → Dn key p n → ∃ m, ev (kl key) (kas_desc f p n 0) = (p, m, 0) ∧ n ≤ m ∧ m ≤ n + f ∧ Dn key p m
  | 0, n, _, _, hu => ⟨n, rfl, Nat.le_refl _, Nat.le_refl _, hu⟩
  | f + 1, n, h1, hz, hu => by
    show ∃ m, ev (kl key) (if decide (kat key p n < kat key p (n - 1)) = true then (if 0 > 0 then kas_desc f (kas_rev p (n - (0 + 1)) n) (n + 1) 0 else kas_desc f p (n + 1) 0) else KasT.ask (p.getD (n - 1) 0) (p.getD n 0) fun d => if d = true then KasT.ret (p, n, 0) else kas_desc f p (n + 1) (0 + 1)) = (p, m, 0) ∧ _
    by_cases hc : kat key p n < kat key p (n - 1)
    · rw [decide_eq_true hc, if_pos rfl, if_neg (by lia)]
      obtain ⟨m, a, b, c, d⟩ := desc_ok hd f (n + 1) (by lia) (by lia) (hu.snoc (by lia) hc)
      exact ⟨m, a, by lia, by lia, d⟩
    · rw [decide_eq_false hc, if_neg (by simp)]
      have hne : kat key p n ≠ kat key p (n - 1) := fun e => by have := hd n (n - 1) (by lia) (by lia) e; lia
      refine ⟨n, ?_, Nat.le_refl _, by lia, hu⟩
      show ev (kl key) (if decide (kat key p (n - 1) < kat key p n) = true then KasT.ret (p, n, 0) else kas_desc f p (n + 1) (0 + 1)) = (p, n, 0)
      rw [decide_eq_true (by lia), if_pos rfl]
      rfl
theorem getD_rev {p : Array Nat} {n : Nat} (hn : n ≤ p.size) (k : Nat) : (kas_rev p 0 n).getD k 0 = if k < n then p.getD (n - 1 - k) 0 else p.getD k 0 := by
  have e := getElem?_mirror_all (xs := p) (i := 0) (j := n) hn k
  rw [Array.getD_eq_getD_getElem?, show (kas_rev p 0 n)[k]? = _ from e]
  by_cases h : k < n
  · rw [if_pos ⟨Nat.zero_le _, h⟩, if_pos h, Array.getD_eq_getD_getElem?]; congr 2; lia
  · rw [if_neg (fun q => h q.2), if_neg h, Array.getD_eq_getD_getElem?]
theorem Dist.perm {p q : Array Nat} (h : p.Perm q) (hq : Dist key q) (hk : ∀ a ∈ q.toList, ∀ b ∈ q.toList, key a = key b → a = b) : Dist key p := by
  have nq : q.toList.Nodup := by
    rw [List.nodup_iff_pairwise_ne, List.pairwise_iff_getElem]
    intro i j hi hj hij e
    have := hq i j hi hj (by show key _ = key _; simp only [Array.getD_eq_getD_getElem?]; rw [Array.getElem?_eq_getElem (by simpa using hi), Array.getElem?_eq_getElem (by simpa using hj)]; simp at e ⊢; rw [e])
    lia
  have np : p.toList.Nodup := (Array.perm_iff_toList_perm.mp h).nodup_iff.mpr nq
  intro i j hi hj e
  have e' : key p[i] = key p[j] := by
    have e2 : key (p.getD i 0) = key (p.getD j 0) := e
    rw [Array.getD_eq_getD_getElem?, Array.getD_eq_getD_getElem?, Array.getElem?_eq_getElem hi, Array.getElem?_eq_getElem hj] at e2
    exact e2
  have mi : p[i] ∈ q.toList := (Array.perm_iff_toList_perm.mp h).mem_iff.mp (by simp)
  have mj : p[j] ∈ q.toList := (Array.perm_iff_toList_perm.mp h).mem_iff.mp (by simp)
  have := hk _ mi _ mj e'
  exact (List.getElem_inj (xs := p.toList) (h₀ := by simpa using hi) (h₁ := by simpa using hj) np).mp (by simpa using this)
noncomputable def Inj (key : Nat → Int) (q : Array Nat) : Prop := ∀ a ∈ q.toList, ∀ b ∈ q.toList, key a = key b → a = b
theorem rev_perm (p : Array Nat) (i j : Nat) : (kas_rev p i j).Perm p := mirror_perm _ _ _ _
theorem count_ok {p : Array Nat} (hd : Dist key p) (hk : Inj key p) (h1 : 1 ≤ p.size) : ∃ m p', ev (kl key) (kas_count p.size p) = (m, p') ∧ 1 ≤ m ∧ m ≤ p.size ∧ p'.Perm p ∧ Up key p' m := by
  unfold kas_count
  rw [ev_bind]
  obtain ⟨a, b, c, d⟩ := asc_ok hd (p.size - 1) 1 (Nat.le_refl _) (by lia) (fun i j x y => by lia)
  revert a b c d
  generalize ev (kl key) (kas_asc p (p.size - 1) 1) = n
  intro a b c d
  by_cases e : n = p.size
  · rw [if_pos (by simp [e])]
    exact ⟨n, p, rfl, a, by lia, Array.Perm.refl _, c⟩
  · rw [if_neg (by simp [e])]
    by_cases e2 : n > 1
    · rw [if_pos e2]
      show ∃ m p', ev (kl key) (if decide (kat key p 0 < kat key p (n - 1)) = true then KasT.ret (n, p) else kas_descPart n p.size (kas_rev p 0 n)) = (m, p') ∧ _
      rw [decide_eq_true (c 0 (n - 1) (by lia) (by lia)), if_pos rfl]
      exact ⟨n, p, rfl, a, by lia, Array.Perm.refl _, c⟩
    · rw [if_neg e2]
      have hn : n = 1 := by lia
      subst hn
      unfold kas_descPart
      rw [ev_bind]
      have h10 := d (by lia)
      obtain ⟨m, x, y, z, u⟩ := desc_ok hd (p.size - (1 + 1)) (1 + 1) (by lia) (by lia) (fun i j x y => by
        obtain rfl : i = 0 := by lia
        obtain rfl : j = 1 := by lia
        exact h10)
      rw [x, if_neg (by simp)]
      unfold kas_tail3
      rw [ev_bind]
      have hm : m ≤ p.size := by lia
      have hd' : Dist key (kas_rev p 0 m) := Dist.perm (rev_perm _ _ _) hd hk
      obtain ⟨a', b', c', d'⟩ := asc_ok hd' (p.size - m) m (by lia) (by rw [kas_rev_size]; lia) (fun i j hij hj => by
        show key _ < key _
        rw [getD_rev hm, getD_rev hm, if_pos (by lia), if_pos hj]
        exact u _ _ (by lia) (by lia))
      exact ⟨_, _, rfl, Nat.le_trans (by lia) a', Nat.le_trans b' (by lia), rev_perm _ _ _, c'⟩
theorem place_ok {p : Array Nat} {k : Nat} (hd : Dist key p) (hkz : k < p.size) (hu : Up key p k) : ∀ (f l r : Nat), l ≤ r → r ≤ k → r - l ≤ f → (∀ i, i < l → kat key p i < kat key p k) → (∀ i, r ≤ i → i < k → kat key p k < kat key p i) →
    ∃ m, ev (kl key) (kas_place p k f l r) = m ∧ m ≤ k ∧ (∀ i, i < m → kat key p i < kat key p k) ∧ (∀ i, m ≤ i → i < k → kat key p k < kat key p i)
  | 0, l, r, h1, h2, h3, ha, hb => ⟨l, rfl, by lia, ha, fun i hi => hb i (by lia)⟩
  | f + 1, l, r, h1, h2, h3, ha, hb => by
    unfold kas_place
    by_cases e : l ≥ r
    · rw [if_pos e]; exact ⟨l, rfl, by lia, ha, fun i hi => hb i (by lia)⟩
    · rw [if_neg e]
      show ∃ m, ev (kl key) (if decide (kat key p k < kat key p ((l + r) / 2)) = true then kas_place p k f l ((l + r) / 2) else kas_place p k f ((l + r) / 2 + 1) r) = m ∧ _
      by_cases hc : kat key p k < kat key p ((l + r) / 2)
      · rw [decide_eq_true hc, if_pos rfl]
        refine place_ok hd hkz hu f l _ (by lia) (by lia) (by lia) ha fun i hi hik => ?_
        by_cases e2 : i = (l + r) / 2
        · subst e2; exact hc
        · exact Int.lt_trans hc (hu _ _ (by lia) hik)
      · rw [decide_eq_false hc, if_neg (by simp)]
        have hne : kat key p k ≠ kat key p ((l + r) / 2) := fun e => by have := hd _ _ hkz (by lia) e; lia
        refine place_ok hd hkz hu f _ r (by lia) (by lia) (by lia) (fun i hi => ?_) hb
        by_cases e2 : i = (l + r) / 2
        · subst e2; lia
        · have := hu i ((l + r) / 2) (by lia) (by lia); lia
theorem getD_bubble {p : Array Nat} {k d : Nat} (hs : k < p.size) (hd : d ≤ k) (i : Nat) : (bubble p k d).getD i 0 = if i = k - d then p.getD k 0 else if k - d < i ∧ i ≤ k then p.getD (i - 1) 0 else p.getD i 0 := by
  rw [Array.getD_eq_getD_getElem?, getElem?_bubble hs d hd i, Array.getD_eq_getD_getElem? (i := k), Array.getD_eq_getD_getElem? (i := i - 1), Array.getD_eq_getD_getElem? (i := i)]
  split
  · rfl
  · split <;> rfl
theorem bin_ok {q : Array Nat} (hdq : Dist key q) (hkq : Inj key q) : ∀ (f : Nat) (p : Array Nat) (k : Nat), p.Perm q → k + f = p.size → Up key p k → ∃ p', ev (kl key) (kas_bin f p k) = p' ∧ p'.Perm q ∧ Up key p' p'.size
  | 0, p, k, hp, hz, hu => ⟨p, rfl, hp, by rw [← hz]; exact hu⟩
  | f + 1, p, k, hp, hz, hu => by
    have hd := Dist.perm hp hdq hkq
    show ∃ p', ev (kl key) ((kas_place p k k 0 k).bind fun l => kas_bin f (bubble p k (k - l)) (k + 1)) = p' ∧ _
    rw [ev_bind]
    obtain ⟨m, e, hm, ha, hb⟩ := place_ok hd (by lia) hu k 0 k (by lia) (Nat.le_refl _) (by lia) (fun i x => by lia) (fun i x y => by lia)
    rw [e]
    refine bin_ok hdq hkq f _ (k + 1) ((bubble_perm _ _ _).trans hp) (by rw [bubble_size]; lia) fun i j hij hj => ?_
    show key _ < key _
    have hs : k < p.size := by lia
    rw [getD_bubble hs (by lia), getD_bubble hs (by lia)]
    rw [show k - (k - m) = m by lia]
    by_cases c1 : i = m
    · rw [if_pos c1, if_neg (by lia), if_pos (by lia)]
      exact hb _ (by lia) (by lia)
    · rw [if_neg c1]
      by_cases c2 : m < i ∧ i ≤ k
      · rw [if_pos c2, if_neg (by lia), if_pos (by lia)]
        exact hu _ _ (by lia) (by lia)
      · rw [if_neg c2]
        by_cases c3 : j = m
        · rw [if_pos c3]; exact ha _ (by lia)
        · rw [if_neg c3]
          by_cases c4 : m < j ∧ j ≤ k
          · rw [if_pos c4]
            exact hu _ _ (by lia) (by lia)
          · rw [if_neg c4]; exact hu _ _ hij (by lia)
theorem sort_ok {n : Nat} (h1 : 1 ≤ n) (hk : ∀ a b, a < n → b < n → key a = key b → a = b) : ∃ p, ev (kl key) (kas_sort n) = p ∧ p.toList.Perm (List.range n) ∧ p.size = n ∧ Up key p n := by
  have hkq : Inj key (List.toArray (List.range n)) := fun a ha b hb => hk a b (by simpa using ha) (by simpa using hb)
  have hz : (List.toArray (List.range n)).size = n := by simp
  have hd : Dist key (List.toArray (List.range n)) := fun i j hi hj e => by
    rw [hz] at hi hj
    have : ∀ i, i < n → (List.toArray (List.range n)).getD i 0 = i := fun i hi => by simp [Array.getD_eq_getD_getElem?, hi]
    have e' : key ((List.toArray (List.range n)).getD i 0) = key ((List.toArray (List.range n)).getD j 0) := e
    rw [this i hi, this j hj] at e'
    exact hk _ _ hi hj e'
  unfold kas_sort
  rw [ev_bind]
  obtain ⟨m, p', e, a, b, c, d⟩ := count_ok hd hkq (by rw [hz]; exact h1)
  rw [hz] at e b
  rw [e]
  have hps : p'.size = n := by have := (Array.perm_iff_toList_perm.mp c).length_eq; simpa using this
  by_cases hlt : m < n
  · rw [if_pos hlt]
    have hmx : max m 1 = m := by lia
    rw [show max (m, p').1 1 = m from hmx]
    obtain ⟨p'', e, hp, hu⟩ := bin_ok hd hkq (n - m) p' m c (by lia) d
    have hps' : p''.size = n := by have := (Array.perm_iff_toList_perm.mp hp).length_eq; simpa using this
    exact ⟨p'', e, by have := Array.perm_iff_toList_perm.mp hp; simpa using this, hps', by rw [← hps']; exact hu⟩
  · rw [if_neg hlt]
    obtain rfl : m = n := by lia
    exact ⟨p', rfl, by have := Array.perm_iff_toList_perm.mp c; simpa using this, hps, d⟩
end
/-- the tree asks about places below n only -/
noncomputable def Asks (n : Nat) {α : Type} (R : α → Prop) : KasT α → Prop
  | .ret a => R a
  | .ask i j k => i < n ∧ j < n ∧ ∀ b, Asks n R (k b)
theorem Asks.bind {n : Nat} {α β : Type} {R : α → Prop} {R' : β → Prop} {f : α → KasT β} (hf : ∀ a, R a → Asks n R' (f a)) : ∀ t : KasT α, Asks n R t → Asks n R' (t.bind f)
  | .ret a, h => hf a h
  | .ask _ _ k, ⟨a, b, h⟩ => ⟨a, b, fun c => Asks.bind hf (k c) (h c)⟩
theorem Asks.ite {n : Nat} {α : Type} {R : α → Prop} {c : Prop} [Decidable c] {t u : KasT α} (h1 : Asks n R t) (h2 : Asks n R u) : Asks n R (if c then t else u) := by split <;> assumption
noncomputable def Bnd (n : Nat) (p : Array Nat) : Prop := 0 < n ∧ ∀ a ∈ p.toList, a < n
theorem Bnd.at {n : Nat} {p : Array Nat} (h : Bnd n p) (k : Nat) : p.getD k 0 < n := by
  rw [Array.getD_eq_getD_getElem?]
  by_cases hk : k < p.size
  · rw [Array.getElem?_eq_getElem hk]; exact h.2 _ (by simp)
  · rw [Array.getElem?_eq_none (by lia)]; exact h.1
theorem Bnd.perm {n : Nat} {p q : Array Nat} (h : Bnd n q) (e : p.Perm q) : Bnd n p := ⟨h.1, fun a ha => h.2 a ((Array.perm_iff_toList_perm.mp e).mem_iff.mp ha)⟩
section
variable {n : Nat}
theorem asks_asc {p : Array Nat} (h : Bnd n p) : ∀ (f k : Nat), Asks n (fun _ => True) (kas_asc p f k)
  | 0, _ => trivial
  | f + 1, k => ⟨h.at _, h.at _, fun b => Asks.ite (c := b = true) trivial (asks_asc h f (k + 1))⟩
theorem asks_desc : ∀ (f : Nat) (p : Array Nat) (k q : Nat), Bnd n p → Asks n (fun r => Bnd n r.1) (kas_desc f p k q)
  | 0, _, _, _, h => h
  | f + 1, p, k, q, h => ⟨h.at _, h.at _, fun b => Asks.ite (c := b = true) (Asks.ite (asks_desc f _ _ _ (h.perm (rev_perm _ _ _))) (asks_desc f _ _ _ h)) ⟨h.at _, h.at _, fun c => Asks.ite (c := c = true) h (asks_desc f _ _ _ h)⟩⟩
theorem asks_tail3 {p : Array Nat} (h : Bnd n p) (k r : Nat) : Asks n (fun r => Bnd n r.2) (kas_tail3 k r p) :=
by
  unfold kas_tail3
  refine Asks.bind (R := fun _ => True) (fun m _ => ?_) _ (asks_asc (h.perm (rev_perm _ _ _)) _ _)
  exact (h.perm (rev_perm _ _ _) : Bnd n (kas_rev p 0 k))
theorem asks_descPart {p : Array Nat} (h : Bnd n p) (k r : Nat) : Asks n (fun r => Bnd n r.2) (kas_descPart k r p) :=
by
  unfold kas_descPart
  refine Asks.bind (R := fun r => Bnd n r.1) (fun r hr => ?_) _ (asks_desc _ _ _ _ h)
  exact Asks.ite (asks_tail3 (hr.perm (rev_perm _ _ _)) _ _) (asks_tail3 hr _ _)
theorem asks_count {p : Array Nat} (h : Bnd n p) (r : Nat) : Asks n (fun r => Bnd n r.2) (kas_count r p) :=
by
  unfold kas_count
  refine Asks.bind (R := fun _ => True) (fun m _ => ?_) _ (asks_asc h _ _)
  refine Asks.ite ?_ (Asks.ite ⟨h.at _, h.at _, fun c => Asks.ite (c := c = true) ?_ (asks_descPart (h.perm (rev_perm _ _ _)) _ _)⟩ (asks_descPart h _ _))
  · exact h
  · exact h
theorem asks_place {p : Array Nat} (h : Bnd n p) (k : Nat) : ∀ (f l r : Nat), Asks n (fun _ => True) (kas_place p k f l r)
  | 0, _, _ => trivial
  | f + 1, l, r => Asks.ite (c := l ≥ r) trivial ⟨h.at _, h.at _, fun c => Asks.ite (c := c = true) (asks_place h k f _ _) (asks_place h k f _ _)⟩
theorem asks_bin : ∀ (f : Nat) (p : Array Nat) (k : Nat), Bnd n p → Asks n (fun _ => True) (kas_bin f p k)
  | 0, _, _, _ => trivial
  | f + 1, p, k, h => Asks.bind (R := fun _ => True) (fun l _ => asks_bin f _ _ (h.perm (bubble_perm _ _ _))) _ (asks_place h k k 0 k)
theorem asks_sort (h : 0 < n) : Asks n (fun _ => True) (kas_sort n) :=
by
  unfold kas_sort
  have hb : Bnd n (List.toArray (List.range n)) := ⟨h, fun a ha => by simpa using ha⟩
  refine Asks.bind (R := fun r : Nat × Array Nat => Bnd n r.2) (fun r hr => Asks.ite (asks_bin _ _ _ hr) ?_) _ (asks_count hb _)
  exact True.intro
/-- questions answered -/
theorem kasWp_ev {α : Type} {cmp : Nat → Nat → (Bool → Shared → Prop) → Shared → Prop} {lt : Nat → Nat → Bool} {I : Shared → Prop} {R : α → Prop} {Q : α → Shared → Prop}
    (hc : ∀ i j (C : Bool → Shared → Prop) s, i < n → j < n → I s → (∀ s', I s' → C (lt i j) s') → cmp i j C s) : ∀ (t : KasT α) (s : Shared), Asks n R t → I s → (∀ s', I s' → Q (ev lt t) s') → t.kasWp cmp Q s
  | .ret _, s, _, hi, hq => hq s hi
  | .ask i j k, s, ⟨a, b, h⟩, hi, hq => hc i j _ s a b hi fun s' hi' => kasWp_ev hc (k (lt i j)) s' (h _) hi' hq
end
theorem lt273 (P : Params) : findIn (K P) (.ref 273) "__lt__" = some (some (.builtin "tuple.__lt__")) := by kernel_rfl
theorem oi_tlt (self : Value) : bindSpecial (.builtin "tuple.__lt__") self = pure (.builtin "tuple.__lt__", [self]) := PySem.F.slot_tuple_lt.bind self
theorem kind_tlt : builtinKind "tuple.__lt__" = some .slot := by decide +kernel
theorem split_tlt : splitId "tuple.__lt__" = some ("tuple", "__lt__") := by decide +kernel
/-- what tuple.__lt__ says of ints -/
noncomputable def ltInts : List Int → List Int → Bool
  | [], [] => false
  | [], _ :: _ => true
  | _ :: _, [] => false
  | a :: as, b :: bs => if a = b then ltInts as bs else decide (a < b)
inductive IntVals : List Value → List Int → Prop
  | nil : IntVals [] []
  | cons {a t vs as} : IntVals vs as → IntVals (.int a t :: vs) (a :: as)
theorem IntVals.length {vs : List Value} {as : List Int} (h : IntVals vs as) : vs.length = as.length := by
  induction h with
  | nil => rfl
  | cons _ ih => exact congrArg Nat.succ ih
section
variable {w : World} {A : Around} {E : Value → Shared → Prop} {s : Shared}
theorem TLt_ints {P : Fin → Shared → Prop} {xs ys : List Value} {as bs : List Int} (hx : IntVals xs as) (hy : IntVals ys bs) {N M : Nat} (h : P (.done (.ret (.bool (ltInts as bs)))) s) (hn : xs.length + N = M + ys.length) :
    as.length + N = M + bs.length → N = M → TLt w A P E (fun s' => P (.done (.ret (.bool (decide (xs.length < ys.length))))) s') (xs.zip ys) s := by
  intro hl hnm
  subst hnm
  have hl' : as.length = bs.length := by lia
  have key : ∀ (xs ys : List Value) (as bs : List Int) (fin : Shared → Prop), IntVals xs as → IntVals ys bs → as.length = bs.length → (∀ s, ltInts as bs = false → P (.done (.ret (.bool false))) s → fin s) → P (.done (.ret (.bool (ltInts as bs)))) s → TLt w A P E fin (xs.zip ys) s := by
    intro xs
    induction xs with
    | nil =>
      intro ys as bs fin hx hy hl hf hp
      cases hx
      cases hy with
      | nil => exact hf _ rfl hp
      | cons _ => simp at hl
    | cons x xs ih =>
      intro ys as bs fin hx hy hl hf hp
      cases hx with
      | @cons a t vs as' hx =>
        cases hy with
        | nil => simp at hl
        | @cons b u ws bs' hy =>
          rw [List.zip_cons_cons]
          refine wpAny_eqBool_int ?_
          by_cases e : a = b
          · subst e
            rw [if_pos (by simp)]
            have e2 : ltInts (a :: as') (a :: bs') = ltInts as' bs' := by simp [ltInts]
            refine ih _ _ _ fin hx hy (by simpa using hl) (fun s q => hf s (by rw [e2]; exact q)) (by rw [← e2]; exact hp)
          · rw [if_neg (by simp [e])]
            have e2 : ltInts (a :: as') (b :: bs') = decide (a < b) := by simp [ltInts, e]
            rw [e2] at hp
            exact wpAny_lt_int hp
  have hxy : xs.length = ys.length := by lia
  refine key xs ys as bs _ hx hy hl' (fun s _ hp => ?_) h
  rw [hxy, show decide (ys.length < ys.length) = false by simp]
  exact hp
/-- a Match before another -/
theorem ltM {a b da db : Addr} {xs ys : List Value} {as bs : List Int} {h : Heap} {t : Nat} {Q : Bool → Shared → Prop} (X : (K w.params).In h) (ha : h.get? a = some (tcO 273 da xs)) (hb : h.get? b = some (tcO 273 db ys))
    (hx : IntVals xs as) (hy : IntVals ys bs) (hl : as.length = bs.length) (hu : A.units < cLine) (k : Q (ltInts as bs) (mkS s h t)) : wpAny (model pw w) A (keyLt' oneType' (.ref a) (.ref b)) Q E (mkS s h t) := by
  have L0 : Looks (model pw w) h (typeOf (.ref a)) (.ref 273) := (Looks.ld ha).andThen .now
  have L1 := looks_findIn (M := model pw w) X (lt273 _)
  have La : Looks (model pw w) h (isInstance (.ref a) (.type "tuple")) true := L0.andThen (tc_match.sub X (by simp))
  have L0b : Looks (model pw w) h (typeOf (.ref b)) (.ref 273) := (Looks.ld hb).andThen .now
  have Lb : Looks (model pw w) h (isInstance (.ref b) (.type "tuple")) true := L0b.andThen (tc_match.sub X (by simp))
  rw [keyLt'_oneType, oneLt'_eq]
  simp only [if_true]
  refine wpAny_bind (wpAny_cRoomFor hu ?_)
  refine wpAny_bind (m := callSpecialIfBound? (.ref a) (Str.ofString "__lt__") [.ref b]) ?_
  simp only [callSpecialIfBound?, bindSpecialIfBound?]
  refine wpAny_holding (wpAny_bind (wpAny_bind (wpAny_bind (L0.at (L1.at ?_)))))
  simp only [oi_tlt]
  have hxl := hx.length
  have hyl := hy.length
  have run : wpAny (model pw w) A (call (.builtin "tuple.__lt__") [.ref a, .ref b]) (fun v s' => v = .bool (ltInts as bs) ∧ Q (ltInts as bs) s') E (mkS s h t) := by
    refine wpAny_call (codeAny_call_builtin PySem.F.slot_tuple_lt.plain PySem.F.entry_tuple_lt (@check_slot (model pw w) _ _ (mkS s h t) "tuple.__lt__" "tuple" "__lt__" (.ref a) [.ref b] [] _ kind_tlt split_tlt La (PySem.F.args_tuple_lt_2 _ _) ?_))
    refine tlt_run Lb ⟨_, 0, ha, rfl⟩ ⟨_, 0, hb, rfl⟩ (TLt_ints hx hy (N := 0) (M := 0) ⟨rfl, k⟩ (by lia) (by lia) rfl)
  refine wpAny_bind (wpAny_askSetting (wpAny_ite ?_))
  split
  · refine wpAny_bind (wpAny_pure (wpAny_pure ?_))
    refine wpAny_bind (wpAny_mono run (fun v s' ⟨e, q⟩ => ?_) fun _ _ x => x)
    subst e
    exact wpAny_pure (wpAny_truthy_bool q)
  · refine wpAny_tryCatch (wpAny_bind (wpAny_pure (wpAny_pure ?_)))
    refine wpAny_bind (wpAny_mono run (fun v s' ⟨e, q⟩ => ?_) fun _ _ x => x)
    subst e
    exact wpAny_pure (wpAny_truthy_bool q)
end
theorem Fa.pickD {α : Type} {R : Value → α → Prop} {vs : List Value} {xs : List α} (d : α) (h : Fa R vs xs) : ∀ (is : List Nat), (∀ i ∈ is, i < vs.length) → Fa R (is.map fun i => vs.getD i .none) (is.map fun i => xs.getD i d)
  | [], _ => .nil
  | i :: is, hi => by
    have hl := hi i (.head _)
    obtain ⟨x, hx, r⟩ := h.get (List.getElem?_eq_getElem hl)
    refine Fa.cons ?_ (h.pickD d is fun j hj => hi j (.tail _ hj))
    show R (vs.getD i .none) (xs.getD i d)
    rw [List.getD_eq_getElem?_getD, List.getElem?_eq_getElem hl, List.getD_eq_getElem?_getD, hx]
    exact r
section
variable {w : World} {env : Env} {G₀ G : Store} {h₀ h : Heap} {own own' : List (Addr × Obj)} {l : Loc} {A : Around} {E : Value → Shared → Prop} {s : Shared} {t : Nat}
noncomputable abbrev tkey (bs : List Tri) (i : Nat) : Int := ((bs.getD i (0, 0, 0)).1 : Nat)
/-- the sort's questions to Matches -/
theorem askM {vs : List Value} {bs : List Tri} (X : (K w.params).In h) (hG : G.In h) (hf : Fa (IsM G) vs bs) (hd : (bs.map (·.1)).Nodup) (hu : A.units < cLine) {i j : Nat} {C : Bool → Shared → Prop} (hi : i < vs.length) (hj : j < vs.length)
    (k : C (kl (tkey bs) i j) (mkS s h t)) : kas_ask pw w A oneType' vs i j C (mkS s h t) := by
  unfold kas_ask
  have hl := hf.length
  obtain ⟨x, hx, m, dm, ti, tj, tn, ev, em⟩ := hf.get (List.getElem?_eq_getElem hi)
  obtain ⟨y, hy, m', dm', ti', tj', tn', ev', em'⟩ := hf.get (List.getElem?_eq_getElem hj)
  rw [List.getD_eq_getElem?_getD, List.getElem?_eq_getElem hi, List.getD_eq_getElem?_getD, List.getElem?_eq_getElem hj]
  simp only [Option.getD_some, ev, ev']
  refine ltM X (hG _ _ em) (hG _ _ em') (.cons (.cons (.cons .nil))) (.cons (.cons (.cons .nil))) rfl hu ?_
  have e : ltInts [(x.1 : Int), (x.2.1 : Int), (x.2.2 : Int)] [(y.1 : Int), (y.2.1 : Int), (y.2.2 : Int)] = kl (tkey bs) i j := by
    have ex : tkey bs i = (x.1 : Nat) := by unfold tkey; rw [List.getD_eq_getElem?_getD, hx]; rfl
    have ey : tkey bs j = (y.1 : Nat) := by unfold tkey; rw [List.getD_eq_getElem?_getD, hy]; rfl
    unfold kl
    rw [ex, ey]
    by_cases h1 : i = j
    · subst h1
      rw [hx] at hy; cases hy
      simp [ltInts]
    · have hne : x.1 ≠ y.1 := fun q => h1 (by
        obtain ⟨hi', ex'⟩ := List.getElem?_eq_some_iff.mp hx
        obtain ⟨hj', ey'⟩ := List.getElem?_eq_some_iff.mp hy
        exact (List.getElem_inj (xs := bs.map (·.1)) (h₀ := by simpa using hi') (h₁ := by simpa using hj') hd).mp (by simp [ex', ey', q]))
      have : ¬ (x.1 : Int) = (y.1 : Int) := by lia
      simp [ltInts, this]
  rw [e]; exact k
/-- list.sort of an own list of Matches -/
theorem sortMS {a : Addr} {vs : List Value} {bs : List Tri} {n : Nat} {ow : Obj → List (Addr × Obj)} {Q : Value → Shared → Prop} (S : St w env G₀ h₀ own l G h) (ho : ∀ o', OwnTo own a (lstO vs n) o' (ow o')) (ho2 : ∀ o o', OwnTo (ow o) a o o' (ow o'))
    (hf : Fa (IsM G) vs bs) (hd : (bs.map (·.1)).Nodup) (h64 : vs.length < 64) (hu : A.units + 100 < cLine)
    (k : ∀ h' G' n' vs' bs', St w env G₀ h₀ (ow (lstO vs' n')) l G' h' → G.Sub G' → Fa (IsM G') vs' bs' → bs'.Perm bs → bs'.Pairwise (fun x y => x.1 < y.1) → Q .none (mkS s h' t)) :
    wpAny (model pw w) A (call (.builtin "list.sort") [.ref a]) Q E (mkS s h t) := by
  have hl := hf.length
  have e0 := (S.ow _ (ho (lstO [] 0)).mem).1
  refine wpAny_call_entry PyProof.Rows.slot_list_sort ⟨_, e0, rfl⟩ PyProof.Rows.entry_list_sort ?_ (PyProof.Rows.args_list_sort _)
  rw [list_sort_plain]
  refine wpAny_bind (listItems_at e0 rfl ?_)
  refine wpAny_bind (listUpdate_at e0 rfl ?_ (by rw [List.size_toArray, sizeLine_eq]; lia) (Nat.zero_le _))
  have c1 : ∃ n1, (h.update a (Obj.mapSeq fun _ => (#[] : Array Value))).get? a = some (lstO [] n1) := ⟨_, get?_update_seq (c := "list") e0 fun _ => #[]⟩
  obtain ⟨n1, e1⟩ := c1
  have S1 := S.upd (ho (lstO [] n1)) (Heap.SameBut.update ..) e1
  refine wpAny_bind (seqEpoch_at e1 rfl ?_)
  refine wpAny_bind (wpAny_newTuple ?_ (by show vs.length ≤ _; rw [sizeLine_eq]; lia))
  obtain ⟨S2, g2⟩ := S1.push (tupO vs) rfl
  refine wpAny_bind (wpAny_newList ?_ (Nat.zero_le _))
  obtain ⟨S3, g3⟩ := S2.push (listO []) rfl
  have g := g2.trans g3
  refine wpAny_holding ?_
  have hf3 := hf.mono fun v b => IsM.mono g
  revert S3 hf3
  show _ → _ → wpAny (model pw w) _ _ _ _ (mkS s (((h.update a (Obj.mapSeq fun _ => (#[] : Array Value))).push (tupO vs)).push (listO [])) t)
  generalize hG3 : (Store.put (Store.put G _ _) _ _) = G3 at g
  generalize ((h.update a (Obj.mapSeq fun _ => (#[] : Array Value))).push (tupO vs)).push (listO []) = h3
  intro S3 hf3
  have e3 := (S3.ow _ (ho2 (lstO [] n1) (lstO [] n1)).mem).1
  dsimp only
  have fin : ∀ (st' : SortSt) (vs' : List Value) (bs' : List Tri), (arrOf st').map (·.2) = vs'.toArray → failedOf st' = none → vs'.length = vs.length → Fa (IsM G3) vs' bs' → bs'.Perm bs → bs'.Pairwise (fun x y => x.1 < y.1) →
      wpAny (model pw w) A.in1 (do
        let sorted := (arrOf st').map (·.2)
        let touched := (← seqEpoch a) != n1
        Builtin.List.listUpdate (.ref a) fun _ => sorted
        if let some e := failedOf st' then rule "list.sort.comparison-raised"; throw e
        if touched then rule "list.sort.modified"; raiseError "ValueError" "list modified during sort"
        ret .none) (fun f s' => ∃ v, f = .done (.ret v) ∧ Q v s') E (mkS s h3 t) := by
    intro st' vs' bs' har hfl hlv hf' hp hw
    rw [har, hfl]
    refine wpAny_bind (seqEpoch_at e3 rfl ?_)
    refine wpAny_bind (listUpdate_at e3 rfl ?_ (Nat.zero_le _) (by rw [List.size_toArray, sizeLine_eq]; lia))
    simp only [bne_self_eq_false, Bool.false_eq_true, if_false]
    obtain ⟨n4, e4⟩ : ∃ n4, (h3.update a (Obj.mapSeq fun _ => vs'.toArray)).get? a = some (lstO vs' n4) := ⟨_, get?_update_seq (c := "list") e3 fun _ => vs'.toArray⟩
    exact wpAny_pure ⟨_, rfl, k _ G3 n4 vs' bs' (S3.upd (ho2 (lstO [] n1) (lstO vs' n4)) (Heap.SameBut.update ..) e4) g hf' hp hw⟩
  by_cases hn2 : vs.length < 2
  · rw [if_pos (by simpa using hn2), if_pos (by simpa using hn2)]
    refine wpAny_bind (wpAny_pure ?_)
    refine wpAny_bind (m := pure _) (wpAny_pure ?_)
    refine fin (SortSt.mk' general' (vs.toArray.zip vs.toArray) #[] 7 none) vs bs ?_ rfl rfl hf3 (List.Perm.refl _) ?_
    · show (vs.toArray.zip vs.toArray).map (·.2) = vs.toArray
      apply Array.toList_inj.mp
      simp only [Array.toList_map, Array.toList_zip]
      exact List.map_snd_zip (Nat.le_refl _)
    · match bs, hl with
      | [], _ => exact .nil
      | [b], _ => exact .cons (by simp) .nil
      | _ :: _ :: _, hl => simp at hl; lia
  · rw [if_neg (by simpa using hn2), if_neg (by simpa using hn2)]
    have X := S3.bsNow.X
    refine wpAny_bind (kas_kind (T := .ref 273) (by lia) (fun v hv => ?_) rfl rfl ?_)
    · obtain ⟨i, hi, ev⟩ := List.getElem_of_mem hv
      obtain ⟨x, hx, m, dm, ti, tj, tn, em, eG⟩ := hf3.get (List.getElem?_eq_getElem hi)
      rw [← ev, em]
      exact (Looks.ld (S3.gin _ _ eG)).andThen .now
    have est : SortSt.mk' oneType' (vs.toArray.zip vs.toArray) #[] 7 none = kas_st oneType' (pairsOf vs) (List.toArray (List.range vs.length)) := by
      have e := kas_range (pairsOf vs)
      rw [pairsOf_size] at e
      show SortSt.mk' oneType' (pairsOf vs) #[] 7 none = SortSt.mk' oneType' ((List.toArray (List.range vs.length)).map (kas_item (pairsOf vs))) #[] 7 none
      rw [e]
    have hkey : ∀ a b, a < vs.length → b < vs.length → tkey bs a = tkey bs b → a = b := fun a b ha hb e => by
      have e' : (bs.map (·.1))[a]'(by simp; lia) = (bs.map (·.1))[b]'(by simp; lia) := by
        unfold tkey at e
        rw [List.getD_eq_getElem?_getD, List.getD_eq_getElem?_getD, List.getElem?_eq_getElem (by lia), List.getElem?_eq_getElem (by lia)] at e
        simp at e ⊢
        lia
      exact (List.getElem_inj hd).mp e'
    obtain ⟨p, ep, hpp, hpz, hup⟩ := sort_ok (key := tkey bs) (n := vs.length) (by lia) hkey
    have hin : ∀ i ∈ p.toList, i < vs.length := fun i hi => by have := hpp.mem_iff.mp hi; simpa using this
    have run := kas_runs (prog := pw) (w := w) (A := A.in1) (E := E) (κ := oneType') (it := pairsOf vs) (s := mkS s h3 t) (G := fun p' s' => p' = p ∧ s' = mkS s h3 t) (Q := fun _ st' s' => arrOf st' = p.map (kas_item (pairsOf vs)) ∧ failedOf st' = none ∧ s' = mkS s h3 t)
      (n := vs.length) (by lia) h64 (fun p' st' s' a1 a2 a3 ⟨a4, a5⟩ => ⟨a4 ▸ a2, a3, a5⟩) (by
        rw [← kas_ask_eq]
        refine kasWp_ev (n := vs.length) (I := fun s' => s' = mkS s h3 t) (lt := kl (tkey bs)) (R := fun _ => True) (fun i j C s' hi hj hs' q => ?_) _ _ (asks_sort (by lia)) rfl fun s' hs' => ⟨ep, hs'⟩
        subst hs'
        exact askM X S3.gin hf3 hd (by show A.units + 1 < cLine; lia) hi hj (q _ rfl))
    rw [← est] at run
    refine wpAny_bind (wpAny_mono run ?_ fun _ _ e => e)
    rintro ⟨⟨⟩, st'⟩ s' ⟨har, hfl, rfl⟩
    refine fin st' (p.toList.map fun i => vs.getD i .none) (p.toList.map fun i => bs.getD i (0, 0, 0)) ?_ hfl (by simp [hpz]) (hf3.pickD _ _ hin) ?_ ?_
    · apply Array.toList_inj.mp
      rw [har, Array.map_map, Array.toList_map]
      exact List.map_congr_left fun i _ => by show (kas_item (pairsOf vs) i).2 = _; rw [kas_item_eq]
    · have : ((List.range vs.length).map fun i => bs.getD i (0, 0, 0)) = bs := by
        apply List.ext_getElem
        · simp [hl]
        · intro i h1 h2; simp [List.getElem?_eq_getElem h2]
      have hm := hpp.map fun i => bs.getD i (0, 0, 0)
      rw [this] at hm
      exact hm
    · rw [List.pairwise_map, List.pairwise_iff_getElem]
      intro i j hi hj hij
      have := hup i j hij (by simpa [hpz] using hj)
      have ei : p.getD i 0 = p.toList[i] := by simp [Array.getD, show i < p.size by simpa using hi]
      have ej : p.getD j 0 = p.toList[j] := by simp [Array.getD, show j < p.size by simpa using hj]
      unfold kat at this
      rw [ei, ej] at this
      unfold tkey at this
      lia
end
/-! ## the queue of windows -/
noncomputable def Mt (as bs : List Int) (i j : Nat) : Prop := ∃ v, as[i]? = some v ∧ bs[j]? = some v
noncomputable def MonoM (as bs : List Int) : Prop := ∀ i j i' j', Mt as bs i j → Mt as bs i' j' → i < i' → j < j'
noncomputable abbrev Qd := Nat × Nat × Nat × Nat
structure QI (as bs : List Int) (qs : List Qd) (fs : List Tri) : Prop where
  qok : ∀ q ∈ qs, q.1 ≤ q.2.1 ∧ q.2.1 ≤ as.length ∧ q.2.2.1 ≤ q.2.2.2 ∧ q.2.2.2 ≤ bs.length
  fok : ∀ f ∈ fs, 0 < f.2.2 ∧ f.1 + f.2.2 ≤ as.length ∧ f.2.1 + f.2.2 ≤ bs.length ∧ Blk as bs f.1 f.2.1 f.2.2
  qq : qs.Pairwise (fun x y => x.2.1 ≤ y.1 ∨ y.2.1 ≤ x.1)
  ff : fs.Pairwise (fun x y => x.1 + x.2.2 ≤ y.1 ∨ y.1 + y.2.2 ≤ x.1)
  qf : ∀ q ∈ qs, ∀ f ∈ fs, q.2.1 ≤ f.1 ∨ f.1 + f.2.2 ≤ q.1
  cov : ∀ i j, Mt as bs i j → (∃ q ∈ qs, q.1 ≤ i ∧ i < q.2.1 ∧ q.2.2.1 ≤ j ∧ j < q.2.2.2) ∨ (∃ f ∈ fs, f.1 ≤ i ∧ i < f.1 + f.2.2 ∧ j + f.1 = f.2.1 + i)
noncomputable def wid (qs : List Qd) : Nat := (qs.map fun q => q.2.1 - q.1).sum
theorem wid_app (a b : List Qd) : wid (a ++ b) = wid a + wid b := by simp [wid]
theorem QI.start (as bs : List Int) : QI as bs [(0, as.length, 0, bs.length)] [] where
  qok q h := by simp at h; subst h; simp
  fok f h := nomatch h
  qq := by simp
  ff := .nil
  qf q _ f h := nomatch h
  cov i j h := by
    obtain ⟨v, a, b⟩ := h
    obtain ⟨ha, _⟩ := List.getElem?_eq_some_iff.mp a
    obtain ⟨hb, _⟩ := List.getElem?_eq_some_iff.mp b
    exact .inl ⟨_, .head _, Nat.zero_le _, ha, Nat.zero_le _, hb⟩
theorem QI.none {as bs : List Int} {qs : List Qd} {fs : List Tri} {q : Qd} (I : QI as bs (qs ++ [q]) fs) (h : NoM as bs q.1 q.2.2.1 q.2.2.2 q.2.1) : QI as bs qs fs where
  qok q h := I.qok q (List.mem_append_left _ h)
  fok := I.fok
  qq := (List.pairwise_append.mp I.qq).1
  ff := I.ff
  qf q h := I.qf q (List.mem_append_left _ h)
  cov i j m := by
    rcases I.cov i j m with ⟨q', hq, r⟩ | r
    · rcases List.mem_append.mp hq with hq | hq
      · exact .inl ⟨q', hq, r⟩
      · simp at hq; subst hq
        obtain ⟨v, a, b⟩ := m
        exact (h i j v r.1 r.2.1 r.2.2.1 r.2.2.2 a b).elim
    · exact .inr r
noncomputable def lftW (q : Qd) (f : Tri) : List Qd := if q.1 < f.1 ∧ q.2.2.1 < f.2.1 then [(q.1, f.1, q.2.2.1, f.2.1)] else []
noncomputable def rgtW (q : Qd) (f : Tri) : List Qd := if f.1 + f.2.2 < q.2.1 ∧ f.2.1 + f.2.2 < q.2.2.2 then [(f.1 + f.2.2, q.2.1, f.2.1 + f.2.2, q.2.2.2)] else []
theorem mem_lft {q : Qd} {f : Tri} {x : Qd} : x ∈ lftW q f ↔ (q.1 < f.1 ∧ q.2.2.1 < f.2.1) ∧ x = (q.1, f.1, q.2.2.1, f.2.1) := by unfold lftW; split <;> grind
theorem mem_rgt {q : Qd} {f : Tri} {x : Qd} : x ∈ rgtW q f ↔ (f.1 + f.2.2 < q.2.1 ∧ f.2.1 + f.2.2 < q.2.2.2) ∧ x = (f.1 + f.2.2, q.2.1, f.2.1 + f.2.2, q.2.2.2) := by unfold rgtW; split <;> grind
theorem Mt.fun {as bs : List Int} (hb : bs.Nodup) {i j j' : Nat} (h : Mt as bs i j) (h' : Mt as bs i j') : j = j' := by
  obtain ⟨v, a, b⟩ := h
  obtain ⟨v', a', b'⟩ := h'
  rw [a] at a'; cases a'
  exact nodup_inj hb b b'
theorem Blk.mt {as bs : List Int} {i j n t : Nat} (B : Blk as bs i j n) (h : t < n) : Mt as bs (i + t) (j + t) := B t h
theorem QI.found {as bs : List Int} {qs : List Qd} {fs : List Tri} {q : Qd} {f : Tri} (hm : MonoM as bs) (hb : bs.Nodup) (I : QI as bs (qs ++ [q]) fs) (W : Win as bs q.1 q.2.1 q.2.2.1 q.2.2.2 f.1 f.2.1 f.2.2) (hn : 0 < f.2.2) :
    QI as bs (qs ++ lftW q f ++ rgtW q f) (fs ++ [f]) := by
  have hq := I.qok q (by simp)
  have hqq := List.pairwise_append.mp I.qq
  have w1 := W.il
  have w2 := W.ih
  have w3 := W.jl
  have w4 := W.jh
  have sub : ∀ x, x ∈ lftW q f ∨ x ∈ rgtW q f → q.1 ≤ x.1 ∧ x.2.1 ≤ q.2.1 ∧ (x.2.1 ≤ f.1 ∨ f.1 + f.2.2 ≤ x.1) ∧ x.1 ≤ x.2.1 ∧ x.2.1 ≤ as.length ∧ x.2.2.1 ≤ x.2.2.2 ∧ x.2.2.2 ≤ bs.length := fun x h => by
    rcases h with h | h
    · obtain ⟨c, rfl⟩ := mem_lft.mp h; simp only; lia
    · obtain ⟨c, rfl⟩ := mem_rgt.mp h; simp only; lia
  have mem : ∀ x, x ∈ qs ++ lftW q f ++ rgtW q f → x ∈ qs ∨ (x ∈ lftW q f ∨ x ∈ rgtW q f) := fun x h => by
    simp only [List.mem_append] at h; grind
  refine { qok := fun x h => ?_, fok := fun x h => ?_, qq := ?_, ff := ?_, qf := fun x h y hy => ?_, cov := fun i j m => ?_ }
  · rcases mem x h with h | h
    · exact I.qok x (List.mem_append_left _ h)
    · exact (sub x h).2.2.2
  · rcases List.mem_append.mp h with h | h
    · exact I.fok x h
    · simp at h; subst h; exact ⟨hn, by lia, by lia, W.blk⟩
  · rw [List.append_assoc, List.pairwise_append]
    refine ⟨hqq.1, ?_, fun x hx y hy => ?_⟩
    · rw [List.pairwise_append]
      refine ⟨by unfold lftW; split <;> simp, by unfold rgtW; split <;> simp, fun x hx y hy => ?_⟩
      obtain ⟨_, rfl⟩ := mem_lft.mp hx
      obtain ⟨_, rfl⟩ := mem_rgt.mp hy
      simp only; lia
    · have a := hqq.2.2 x hx q (by simp)
      have b := sub y (List.mem_append.mp hy)
      lia
  · rw [List.pairwise_append]
    refine ⟨I.ff, by simp, fun x hx y hy => ?_⟩
    simp at hy; subst hy
    have a := I.qf q (by simp) x hx
    lia
  · rcases List.mem_append.mp hy with hy | hy
    · rcases mem x h with h | h
      · exact I.qf x (List.mem_append_left _ h) y hy
      · have a := I.qf q (by simp) y hy
        have b := sub x h
        lia
    · simp at hy; subst hy
      rcases mem x h with h | h
      · have a := hqq.2.2 x h q (by simp)
        lia
      · exact (sub x h).2.2.1
  · rcases I.cov i j m with ⟨x, hx, r⟩ | ⟨y, hy, r⟩
    · rcases List.mem_append.mp hx with hx | hx
      · exact .inl ⟨x, by simp [hx], r⟩
      · simp at hx; subst hx
        by_cases c1 : i < f.1
        · have m0 := W.blk.mt hn
          rw [Nat.add_zero, Nat.add_zero] at m0
          have := hm _ _ _ _ m m0 c1
          exact .inl ⟨_, List.mem_append_left _ (List.mem_append_right _ (mem_lft.mpr ⟨⟨by lia, by lia⟩, rfl⟩)), r.1, c1, r.2.2.1, this⟩
        · by_cases c2 : i < f.1 + f.2.2
          · have m0 := W.blk.mt (t := i - f.1) (by lia)
            rw [show f.1 + (i - f.1) = i by lia] at m0
            have := m.fun hb m0
            exact .inr ⟨f, by simp, by lia, c2, by lia⟩
          · have m0 := W.blk.mt (t := f.2.2 - 1) (by lia)
            have := hm _ _ _ _ m0 m (by lia)
            exact .inl ⟨_, List.mem_append_right _ (mem_rgt.mpr ⟨⟨by lia, by lia⟩, rfl⟩), by simp only; lia, r.2.1, by simp only; lia, r.2.2.2⟩
    · exact .inr ⟨y, by simp [hy], r⟩
theorem wid_found {q : Qd} {f : Tri} (h1 : q.1 ≤ f.1) (h2 : f.1 + f.2.2 ≤ q.2.1) (hn : 0 < f.2.2) : wid (lftW q f) + wid (rgtW q f) + 1 ≤ wid [q] ∧ (lftW q f).length ≤ 1 ∧ (rgtW q f).length ≤ 1 := by
  unfold lftW rgtW
  split <;> split <;> simp [wid] <;> lia
/-- the pairs of a block -/
noncomputable def tp (f : Tri) : List (Nat × Nat) := (List.range f.2.2).map fun t => (f.1 + t, f.2.1 + t)
theorem mem_tp {f : Tri} {i j : Nat} : (i, j) ∈ tp f ↔ f.1 ≤ i ∧ i < f.1 + f.2.2 ∧ j + f.1 = f.2.1 + i := by
  unfold tp
  simp only [List.mem_map, List.mem_range, Prod.mk.injEq]
  constructor
  · rintro ⟨t, ht, rfl, rfl⟩; lia
  · rintro ⟨a, b, c⟩; exact ⟨i - f.1, by lia, by lia, by lia⟩
theorem tp_zero {i j : Nat} : tp (i, j, 0) = [] := rfl
theorem tp_join {i j n m : Nat} : tp (i, j, n + m) = tp (i, j, n) ++ tp (i + n, j + n, m) := by
  unfold tp
  simp only
  rw [List.range_add, List.map_append, List.map_map]
  congr 1
  apply List.map_congr_left
  intro t _
  simp only [Function.comp, Prod.mk.injEq]
  lia
/-- all matched pairs, in order -/
structure PSpec (as bs : List Int) (ps : List (Nat × Nat)) : Prop where
  asc : ps.Pairwise fun x y => x.1 < y.1 ∧ x.2 < y.2
  mem : ∀ i j, (i, j) ∈ ps ↔ Mt as bs i j
theorem QI.sorted {as bs : List Int} {fs fs' : List Tri} (hm : MonoM as bs) (hb : bs.Nodup) (I : QI as bs [] fs) (hp : fs'.Perm fs) (hs : fs'.Pairwise fun x y => x.1 < y.1) : PSpec as bs (fs'.flatMap tp) := by
  have mem : ∀ i j, (i, j) ∈ fs'.flatMap tp ↔ Mt as bs i j := fun i j => by
    rw [List.mem_flatMap]
    constructor
    · rintro ⟨f, hf, h⟩
      obtain ⟨a, b, c⟩ := mem_tp.mp h
      have := (I.fok f (hp.mem_iff.mp hf)).2.2.2.mt (t := i - f.1) (by lia)
      rwa [show f.1 + (i - f.1) = i by lia, show f.2.1 + (i - f.1) = j by lia] at this
    · intro h
      rcases I.cov i j h with ⟨q, hq, _⟩ | ⟨f, hf, r⟩
      · exact nomatch hq
      · exact ⟨f, hp.mem_iff.mpr hf, mem_tp.mpr r⟩
  refine ⟨?_, mem⟩
  have asc1 : (fs'.flatMap tp).Pairwise fun x y => x.1 < y.1 := by
    rw [List.pairwise_flatMap]
    constructor
    · intro f _
      unfold tp
      rw [List.pairwise_map]
      exact List.pairwise_lt_range.imp (by intro a b h; simp only; lia)
    · have ff' : fs'.Pairwise fun x y => x.1 + x.2.2 ≤ y.1 ∨ y.1 + y.2.2 ≤ x.1 := (hp.pairwise_iff (fun {x y} h => by lia)).mpr I.ff
      refine (hs.and ff').imp_of_mem ?_
      intro f g hf hg ⟨h1, h2⟩ x hx y hy
      have a := mem_tp.mp (show (x.1, x.2) ∈ tp f from hx)
      have b := mem_tp.mp (show (y.1, y.2) ∈ tp g from hy)
      lia
  refine asc1.imp_of_mem ?_
  intro x y hx hy h
  exact ⟨h, hm _ _ _ _ ((mem x.1 x.2).mp hx) ((mem y.1 y.2).mp hy) h⟩
theorem asc_eq : ∀ {xs ys : List (Nat × Nat)}, (xs.Pairwise fun x y => x.1 < y.1) → (ys.Pairwise fun x y => x.1 < y.1) → (∀ p, p ∈ xs ↔ p ∈ ys) → xs = ys
  | [], [], _, _, _ => rfl
  | [], y :: ys, _, _, h => absurd ((h y).mpr (.head _)) (by simp)
  | x :: xs, [], _, _, h => absurd ((h x).mp (.head _)) (by simp)
  | x :: xs, y :: ys, hx, hy, h => by
    obtain ⟨a, b⟩ := List.pairwise_cons.mp hx
    obtain ⟨c, d⟩ := List.pairwise_cons.mp hy
    have e : x = y := by
      rcases List.mem_cons.mp ((h x).mp (.head _)) with q | q
      · exact q
      · rcases List.mem_cons.mp ((h y).mpr (.head _)) with r | r
        · exact r.symm
        · have := c x q; have := a y r; lia
    subst e
    congr 1
    refine asc_eq b d fun p => ?_
    constructor
    · intro hp
      rcases List.mem_cons.mp ((h p).mp (.tail _ hp)) with q | q
      · subst q; have := a p hp; lia
      · exact q
    · intro hp
      rcases List.mem_cons.mp ((h p).mpr (.tail _ hp)) with q | q
      · subst q; have := c p hp; lia
      · exact q
theorem PSpec.unique {as bs : List Int} {ps qs : List (Nat × Nat)} (h : PSpec as bs ps) (h' : PSpec as bs qs) : ps = qs :=
  asc_eq (h.asc.imp fun x => x.1) (h'.asc.imp fun x => x.1) fun p => (h.mem p.1 p.2).trans (h'.mem p.1 p.2).symm
section
variable {w : World} {env : Env} {G₀ G : Store} {h₀ h : Heap} {own own' : List (Addr × Obj)} {l : Loc} {A : Around} {E : Value → Shared → Prop} {s : Shared} {t : Nat}
/-- x.append(e), any value -/
theorem appendRaw {x : Str} {e : PySem.Expr} {p1 p2 p3 pos : Pos} {a : Addr} {vs : List Value} {n : Nat} {ow : Value → List (Addr × Obj)} {pl : Sem Bool} {Q : Flow → Shared → Prop}
    (S : St w env G₀ h₀ own l G h) (hm : Has l x (.ref a)) (ho : ∀ v, OwnTo own a (lstO vs n) (lstO (vs ++ [v]) (n + 1)) (ow v)) (hz : vs.length ≤ sizeLine)
    (he : wpAny (model pw w) A (eval e env) (fun v s' => ∃ h' G' t', s' = mkS s h' t' ∧ St w env G₀ h₀ own l G' h' ∧ ∀ h'' t'', St w env G₀ h₀ (ow v) l G' h'' → Q .next (mkS s h'' t'')) E (mkS s h t))
    (hi : interactive env = false := by rfl) (hs : swapsWith (.Call (.Attribute (.Name x p1) (Str.ofString "append") p2) [e] [] p3) none pos.line env = pure false := by rfl)
    (hc : eval (.Call (.Attribute (.Name x p1) (Str.ofString "append") p2) [e] [] p3) env = (do
      let ov ← eval (.Name x p1) env
      standAt p2.atName
      let (f, first) ← holding [ov] (getMethod ov (Str.ofString "append") pl)
      callWith p3 f first (backTo p3 (starEach [e] env)) []) := by rfl)
    (hst : starEach [e] env = (false, eval e env) :: starEach [] env := by rfl)
    (hd : (x == ("__debug__" : Str)) = false := by decide +kernel) :
    wpAny (model pw w) A (exec (.Expr (.Call (.Attribute (.Name x p1) (Str.ofString "append") p2) [e] [] p3) pos) env) Q E (mkS s h t) := by
  have g := (S.ow _ (ho .none).mem).1
  refine wpAny_Expr (MethodCall_ (pl := pl) (ldS S hm (getMethod_list_of (s := mkS s h t) PySem.F.slot_list_append (by kernel_rfl) ⟨_, g, rfl, n, rfl⟩ ?_ (callWith_method1 (args_cons (wpAny_mono he ?_ fun _ _ x => x) hst) hst)) hd) hc) hi hs
  · exact ⟨_, g, rfl⟩
  · rintro v s' ⟨h', G', t', rfl, S', k⟩
    refine args_nil (appS S' (ho v) hz fun h'' t'' S'' => ?_)
    exact k h'' t'' S''
/-- x.pop() of an own list -/
theorem popE {x : Str} {p1 p2 p3 : Pos} {a : Addr} {vs : List Value} {v : Value} {n : Nat} {ow : Obj → List (Addr × Obj)} {pl : Sem Bool} {Q : Value → Shared → Prop}
    (S : St w env G₀ h₀ own l G h) (hm : Has l x (.ref a)) (ho : ∀ o', OwnTo own a (lstO (vs ++ [v]) n) o' (ow o')) (hz : vs.length ≤ 10000)
    (k : ∀ h' t' n', St w env G₀ h₀ (ow (lstO vs n')) l G h' → Q v (mkS s h' t'))
    (hc : eval (.Call (.Attribute (.Name x p1) (Str.ofString "pop") p2) [] [] p3) env = (do
      let ov ← eval (.Name x p1) env
      standAt p2.atName
      let (f, first) ← holding [ov] (getMethod ov (Str.ofString "pop") pl)
      callWith p3 f first (backTo p3 (starEach [] env)) []) := by rfl)
    (hd : (x == ("__debug__" : Str)) = false := by decide +kernel) :
    wpAny (model pw w) A (eval (.Call (.Attribute (.Name x p1) (Str.ofString "pop") p2) [] [] p3) env) Q E (mkS s h t) := by
  have g := (S.ow _ (ho (lstO [] 0)).mem).1
  refine MethodCall_ (pl := pl) (ldS S hm (getMethod_list_of (s := mkS s h t) PySem.F.slot_list_pop (by kernel_rfl) ⟨_, g, rfl, n, rfl⟩ ?_ (callWith_method0 ?_)) hd) hc
  · exact ⟨_, g, rfl⟩
  · exact popOwn S ho hz k
/-- x.sort() of an own list of Matches, a statement -/
theorem sortStS {x : Str} {p1 p2 p3 pos : Pos} {a : Addr} {vs : List Value} {bs : List Tri} {n : Nat} {ow : Obj → List (Addr × Obj)} {pl : Sem Bool} {Q : Flow → Shared → Prop}
    (S : St w env G₀ h₀ own l G h) (hm : Has l x (.ref a)) (ho : ∀ o', OwnTo own a (lstO vs n) o' (ow o')) (ho2 : ∀ o o', OwnTo (ow o) a o o' (ow o'))
    (hf : Fa (IsM G) vs bs) (hd1 : (bs.map (·.1)).Nodup) (h64 : vs.length < 64) (hu : A.units + 100 < cLine)
    (k : ∀ h' G' n' vs' bs', St w env G₀ h₀ (ow (lstO vs' n')) l G' h' → G.Sub G' → Fa (IsM G') vs' bs' → bs'.Perm bs → bs'.Pairwise (fun x y => x.1 < y.1) → Q .next (mkS s h' t))
    (hi : interactive env = false := by rfl) (hs : swapsWith (.Call (.Attribute (.Name x p1) (Str.ofString "sort") p2) [] [] p3) none pos.line env = pure false := by rfl)
    (hc : eval (.Call (.Attribute (.Name x p1) (Str.ofString "sort") p2) [] [] p3) env = (do
      let ov ← eval (.Name x p1) env
      standAt p2.atName
      let (f, first) ← holding [ov] (getMethod ov (Str.ofString "sort") pl)
      callWith p3 f first (backTo p3 (starEach [] env)) []) := by rfl)
    (hd : (x == ("__debug__" : Str)) = false := by decide +kernel) :
    wpAny (model pw w) A (exec (.Expr (.Call (.Attribute (.Name x p1) (Str.ofString "sort") p2) [] [] p3) pos) env) Q E (mkS s h t) := by
  have g := (S.ow _ (ho (lstO [] 0)).mem).1
  refine wpAny_Expr (MethodCall_ (pl := pl) (ldS S hm (getMethod_list_of (s := mkS s h t) PySem.F.slot_list_sort (by kernel_rfl) ⟨_, g, rfl, n, rfl⟩ ?_ (callWith_method0 ?_)) hd) hc) hi hs
  · exact ⟨_, g, rfl⟩
  · exact sortMS S ho ho2 hf hd1 h64 hu k
end
noncomputable abbrev dQd (q : Qd) : PyData := .tuple [.int (q.1 : Nat), .int (q.2.1 : Nat), .int (q.2.2.1 : Nat), .int (q.2.2.2 : Nat)]
noncomputable abbrev dTri (f : Tri) : PyData := .tuple [.int (f.1 : Nat), .int (f.2.1 : Nat), .int (f.2.2 : Nat)]
local macro_rules | `(tactic| walk_at "set") => `(tactic| first | with_reducible exact SetTo.nth 0 rfl | with_reducible exact SetTo.nth 1 rfl | with_reducible exact SetTo.nth 2 rfl | with_reducible exact SetTo.nth 3 rfl | with_reducible exact SetTo.nth 4 rfl | with_reducible exact SetTo.nth 5 rfl | with_reducible exact SetTo.nth 6 rfl | with_reducible exact SetTo.nth 7 rfl | with_reducible exact SetTo.nth 8 rfl | with_reducible exact SetTo.nth 9 rfl | with_reducible exact SetTo.nth 10 rfl | with_reducible exact SetTo.nth 11 rfl | with_reducible exact SetTo.nth 12 rfl | with_reducible exact SetTo.nth 13 rfl | with_reducible exact SetTo.nth 14 rfl | with_reducible exact SetTo.nth 15 rfl | with_reducible exact SetTo.nth 16 rfl | with_reducible exact SetTo.nth 17 rfl | with_reducible exact SetTo.nth 18 rfl | with_reducible exact SetTo.nth 19 rfl | with_reducible exact SetTo.nth 20 rfl | with_reducible exact SetTo.nth 21 rfl)
local macro_rules | `(tactic| walk_at "mem") => `(tactic| first | with_reducible exact Has.nth 0 rfl | with_reducible exact Has.nth 1 rfl | with_reducible exact Has.nth 2 rfl | with_reducible exact Has.nth 3 rfl | with_reducible exact Has.nth 4 rfl | with_reducible exact Has.nth 5 rfl | with_reducible exact Has.nth 6 rfl | with_reducible exact Has.nth 7 rfl | with_reducible exact Has.nth 8 rfl | with_reducible exact Has.nth 9 rfl | with_reducible exact Has.nth 10 rfl | with_reducible exact Has.nth 11 rfl | with_reducible exact Has.nth 12 rfl | with_reducible exact Has.nth 13 rfl | with_reducible exact Has.nth 14 rfl | with_reducible exact Has.nth 15 rfl | with_reducible exact Has.nth 16 rfl | with_reducible exact Has.nth 17 rfl | with_reducible exact Has.nth 18 rfl | with_reducible exact Has.nth 19 rfl | with_reducible exact Has.nth 20 rfl | with_reducible exact Has.nth 21 rfl)
noncomputable abbrev fd341 : FuncData := fnOf (Str.ofString "get_matching_blocks") (Str.ofString "SequenceMatcher.get_matching_blocks") F341.1 F341.2.1 F341.2.2.1 Value.none Value.none (Value.str (docOr F341.2.1) 755) (Value.str (Str.ofString "cpy313.difflib") 431) none (Value.ref 340) Value.none
theorem K341 (P : Params) : (K P).lookup 341 = some ⟨.type "function", none, .func fd341, #[]⟩ := by rfl
theorem C341 (P : Params) : codeIn (K P) fd341.code fd341.qualname = true := by rfl
noncomputable abbrev LG (sx la lb q mb alo ahi blo bhi i j k x i1 j1 k1 na i2 j2 k2 : Option Value) : Loc := [(nSelf, sx), (Str.ofString "la", la), (Str.ofString "lb", lb), (Str.ofString "queue", q), (Str.ofString "matching_blocks", mb), (Str.ofString "alo", alo), (Str.ofString "ahi", ahi), (Str.ofString "blo", blo), (Str.ofString "bhi", bhi), (Str.ofString "i", i), (Str.ofString "j", j), (Str.ofString "k", k), (Str.ofString "x", x), (Str.ofString "i1", i1), (Str.ofString "j1", j1), (Str.ofString "k1", k1), (Str.ofString "non_adjacent", na), (Str.ofString "i2", i2), (Str.ofString "j2", j2), (Str.ofString "k2", k2)]
noncomputable def n341 : List Str := [nSelf, Str.ofString "la", Str.ofString "lb", Str.ofString "queue", Str.ofString "matching_blocks", Str.ofString "alo", Str.ofString "ahi", Str.ofString "blo", Str.ofString "bhi", Str.ofString "i", Str.ofString "j", Str.ofString "k", Str.ofString "x", Str.ofString "i1", Str.ofString "j1", Str.ofString "k1", Str.ofString "non_adjacent", Str.ofString "i2", Str.ofString "j2", Str.ofString "k2"]
section
variable {w : World} {env : Env} {G₀ G : Store} {h₀ h : Heap} {own : List (Addr × Obj)} {l : Loc} {A : Around} {E : Value → Shared → Prop} {s : Shared} {t : Nat} {x dx : Addr} {od : Obj}
variable {la lb d sj L qa ma : Addr} {as bs : List Int} {led : Bool} {vop vfb vpop : Option Value}
/-- what the queue's loop keeps -/
structure QAt (w : World) (G : Store) (as bs : List Int) (qv mv : List Value) (qs : List Qd) (fs : List Tri) : Prop where
  qi : QI as bs qs fs
  rq : RepAll G qv (qs.map dQd)
  rf : Fa (IsM G) mv fs
  wi : wid qs + fs.length ≤ as.length
  me : 2 * wid qs + qs.length ≤ 2 * as.length + 1
end
section
variable {w : World} {env : Env} {G₀ G : Store} {h₀ h : Heap} {own : List (Addr × Obj)} {l : Loc} {A : Around} {E : Value → Shared → Prop} {s : Shared} {t : Nat} {x dx : Addr} {od : Obj}
variable {la lb d sj L qa ma : Addr} {as bs : List Int} {led : Bool} {vop vfb vpop : Option Value}
theorem QAt.mono {G G' : Store} {qv mv : List Value} {qs : List Qd} {fs : List Tri} (I : QAt w G as bs qv mv qs fs) (g : G.Sub G') : QAt w G' as bs qv mv qs fs :=
  ⟨I.qi, I.rq.mono g, I.rf.mono fun _ _ => IsM.mono g, I.wi, I.me⟩
inductive JQ1 (s : Shared) (w : World) (L : Addr) (G₀ : Store) (h₀ : Heap) (dx : Addr) (od : Obj) (qa ma x : Addr) (va vb : Value) (G : Store) (as bs : List Int) (m : Nat) (s' : Shared) : Prop
  | mk (h' : Heap) (t' : Nat) (G' : Store) (qv : List Value) (qn : Nat) (mv : List Value) (mn : Nat) (qs : List Qd) (fs : List Tri) (v1 : Option Value) (v2 : Option Value) (v3 : Option Value) (v4 : Option Value) (v5 : Option Value) (v6 : Option Value) (v7 : Option Value) (v8 : Option Value) (e1 : s' = mkS s h' t') (e2 : St w (callEnv fd341 L 341) G₀ h₀ [(dx, od), (qa, lstO qv qn), (ma, lstO mv mn)] (LG (some (.ref x)) (some va) (some vb) (some (.ref qa)) (some (.ref ma)) v1 v2 v3 v4 v5 v6 v7 v8 none none none none none none none) G' h') (e3 : G.Sub G') (e4 : QAt w G' as bs qv mv qs fs) (e5 : m = 2 * wid qs + qs.length)
inductive JQ2 (s : Shared) (w : World) (L : Addr) (G₀ : Store) (h₀ : Heap) (dx : Addr) (od : Obj) (qa ma x : Addr) (va vb : Value) (mv : List Value) (mn : Nat) (m : Addr) (q1 q2 q3 q4 i j n : Nat) (tk1 tk2 tk3 tk4 ti tj tn : Tok) (Gb : Store) (rest : List Qd) (f : Flow) (s' : Shared) : Prop
  | mk (e : f = .next) (h' : Heap) (G'' : Store) (t' : Nat) (qv' : List Value) (qn' : Nat) (e2 : s' = mkS s h' t') (e3 : St w (callEnv fd341 L 341) G₀ h₀ [(dx, od), (qa, lstO qv' qn'), (ma, lstO (mv ++ [.ref m]) (mn + 1))] (LG (some (.ref x)) (some va) (some vb) (some (.ref qa)) (some (.ref ma)) (some (.int q1 tk1)) (some (.int q2 tk2)) (some (.int q3 tk3)) (some (.int q4 tk4)) (some (.int i ti)) (some (.int j tj)) (some (.int n tn)) (some (.ref m)) none none none none none none none) G'' h') (e4 : Gb.Sub G'') (e5 : RepAll G'' qv' (rest.map dQd))
set_option maxHeartbeats 4000000 in
theorem queue_loop {va vb : Value} {qv mv : List Value} {qn mn : Nat} {qs : List Qd} {fs : List Tri} {v1 v2 v3 v4 v5 v6 v7 v8 : Option Value} {Q : Flow → Shared → Prop} (hx : G x = some (instObj 380 dx))
    (D : DictM (mAt (some (.ref la)) (some (.ref lb)) (some .none) vop vfb (some (.ref d)) (some (.ref sj)) vpop) od) (ra : Rep G (.ref la) (dInts as)) (rb : Rep G (.ref lb) (dInts bs)) (B : B2j w G d bs) (es : G sj = some (setO led)) (hnd : bs.Nodup) (hla : as.length ≤ 60) (hlb : bs.length ≤ 60)
    (hmono : MonoM as bs) (hh : A.handled = none) (hroom : A.depth + 6 < recursionLimit)
    (S : St w (callEnv fd341 L 341) G₀ h₀ [(dx, od), (qa, lstO qv qn), (ma, lstO mv mn)] (LG (some (.ref x)) (some va) (some vb) (some (.ref qa)) (some (.ref ma)) v1 v2 v3 v4 v5 v6 v7 v8 none none none none none none none) G h) (I : QAt w G as bs qv mv qs fs)
    (k : ∀ h' G' t' qv qn mv mn fs v1 v2 v3 v4 v5 v6 v7 v8, St w (callEnv fd341 L 341) G₀ h₀ [(dx, od), (qa, lstO qv qn), (ma, lstO mv mn)] (LG (some (.ref x)) (some va) (some vb) (some (.ref qa)) (some (.ref ma)) v1 v2 v3 v4 v5 v6 v7 v8 none none none none none none none) G' h' → G.Sub G' → QAt w G' as bs qv mv [] fs →
      wpAny (model pw w) A (execs (F341.2.1.drop 6) (callEnv fd341 L 341)) Q E0 (mkS s h' t')) :
    wpAny (model pw w) A (execs (F341.2.1.drop 5) (callEnv fd341 L 341)) Q E0 (mkS s h t) := by
  refine seqS (while_ (while_inv (JQ1 s w L G₀ h₀ dx od qa ma x va vb G as bs) ?_ _ _ ⟨_, _, _, _, _, _, _, qs, fs, _, _, _, _, _, _, _, _, rfl, S, Store.Sub.refl _, I, rfl⟩))
  intro m s' hJ
  refine hideI fun Q' R' hQ hR => ?_
  obtain ⟨h', t', G', qv, qn, mv, mn, qs, fs, v1, v2, v3, v4, v5, v6, v7, v8, rfl, S, g, I, hm⟩ := hJ
  have hqv : qv.length = qs.length := by have := I.rq.length; simpa using this
  have hme := I.me
  refine isTrue_plain (ldS S (by walk_at "mem") (truthOwn S (a := qa) (vs := qv) (n := qn) (.tail _ (.head _)) (by lia) fun t₂ => ?_))
  rcases List.eq_nil_or_concat qs with rfl | ⟨qs, q, rfl⟩
  · have : qv = [] := List.eq_nil_of_length_eq_zero (by simpa using hqv)
    subst this
    refine ifno (by simp) ?_
    subst hR
    exact k _ _ _ _ _ _ _ fs _ _ _ _ _ _ _ _ S g I
  · rw [List.concat_eq_append] at *
    obtain ⟨qv0, qx, rfl⟩ : ∃ qv0 qx, qv = qv0 ++ [qx] := by
      rcases List.eq_nil_or_concat qv with rfl | ⟨a, b, rfl⟩
      · simp at hqv
      · exact ⟨a, b, by simp⟩
    have rq := I.rq
    rw [List.map_append] at rq
    obtain ⟨ds, dd, e1, r0, rx⟩ := rq.snoc_inv
    obtain ⟨rfl, e3⟩ := List.append_inj' e1 rfl
    simp only [List.map_cons, List.map_nil, List.cons.injEq, and_true] at e3
    subst e3
    refine ifso (by simp) ?_
    refine seqS (Assign_Tuple (popE S (by walk_at "mem") (fun o' => .tail .head) (by simp at hqv; simp at hme; lia) fun h₂ t₃ n₂ S₂ => unpackS S₂ rx (by exact hh) rfl rfl fun h₃ vs S₃ r₃ => ?_))
    have hq := I.qi.qok q (by simp)
    obtain ⟨q1, q2, q3, q4⟩ := q
    simp only at hq
    obtain ⟨_, _, _, _, rfl, b1, b2, b3, b4⟩ := r₃.four
    obtain ⟨tk1, rfl⟩ := b1.intv
    obtain ⟨tk2, rfl⟩ := b2.intv
    obtain ⟨tk3, rfl⟩ := b3.intv
    obtain ⟨tk4, rfl⟩ := b4.intv
    refine inOrder_cons (wpAny_assign_Name (stS S₃ (by walk_at "set") fun h₄ u₄ S₄ => inOrder_cons (wpAny_assign_Name (stS S₄ (by walk_at "set") fun h₅ u₅ S₅ => inOrder_cons (wpAny_assign_Name (stS S₅ (by walk_at "set") fun h₆ u₆ S₆ => inOrder_cons (wpAny_assign_Name (stS S₆ (by walk_at "set") fun h₇ u₇ S₇ => inOrder_nil ?_))))))))
    refine seqS (wpAny_Assign_two (selfCallS meth_longest S₇ (by walk_at "mem") (selfAt S₇ (g _ _ hx) (.head _) D mAt_nd) (args_cons (ldS S₇ (by walk_at "mem") (args_cons (ldS S₇ (by walk_at "mem") (args_cons (ldS S₇ (by walk_at "mem") (args_cons (ldS S₇ (by walk_at "mem") (args_nil ⟨S₇.bsNow.X, ?_⟩)))))))))))
    refine longest_spec S₇ (g _ _ hx) D (ra.mono g) (rb.mono g) (B.mono g) (g _ _ es) hnd (by lia) (by lia) hq.1 hq.2.1 hq.2.2.1 hq.2.2.2 (by exact hh) hroom fun h₈ G₈ t₈ m dm i j n ti tj tn S₈ g₈ W N e₈ => ?_
    refine unpackM tc_match S₈ e₈ (by exact hh) rfl rfl fun h₉ S₉ => ?_
    refine inOrder_cons (wpAny_assign_Name (stS S₉ (by walk_at "set") fun h₁₀ u₁₀ S₁₀ => inOrder_cons (wpAny_assign_Name (stS S₁₀ (by walk_at "set") fun h₁₁ u₁₁ S₁₁ => inOrder_cons (wpAny_assign_Name (stS S₁₁ (by walk_at "set") fun h₁₂ u₁₂ S₁₂ => inOrder_nil ?_))))))
    refine wpAny_assign_Name (stS S₁₂ (by walk_at "set") fun h₁₃ u₁₃ S₁₃ => ?_)
    refine seqS (wpAny_If (isTrue_plain (ldS S₁₃ (by walk_at "mem") (PyProof.Rows.truthy_int ?_))))
    have g' := g.trans g₈
    by_cases hn : n = 0
    · subst hn
      refine ifno (by simp) ?_
      refine wpAny_execs_nil (wpAny_execs_nil ?_)
      subst hQ
      refine ⟨2 * wid qs + qs.length, by rw [hm, wid_app, List.length_append]; simp [wid]; lia, _, _, _, _, _, _, _, qs, fs, _, _, _, _, _, _, _, _, rfl, S₁₃, g', ⟨I.qi.none (N rfl), r0.mono g₈, I.rf.mono fun _ _ => IsM.mono g₈, ?_, ?_⟩, rfl⟩
      · have := I.wi; rw [wid_app] at this; lia
      · have := I.me; rw [wid_app, List.length_append] at this; lia
    · refine ifso (by simp; lia) ?_
      refine seqS (appendRaw (a := ma) (ow := fun v => [(dx, od), (qa, lstO qv0 n₂), (ma, lstO (mv ++ [v]) (mn + 1))]) S₁₃ (by walk_at "mem") (fun v => .tail (.tail .head)) (by have := I.rf.length; have := I.wi; rw [sizeLine_eq]; lia) (ldS S₁₃ (by walk_at "mem") ⟨_, _, _, rfl, S₁₃, fun h₁₄ t₁₄ S₁₄ => ?_⟩))
      have hW := wid_found (q := (q1, q2, q3, q4)) (f := (i, j, n)) W.il W.ih (by show 0 < n; lia)
      have hfl := I.rf.length
      have hwi := I.wi
      rw [wid_app] at hwi
      simp only [List.length_append, List.length_singleton] at hqv hme
      have r0' := r0.length
      rw [List.length_map] at r0'
      refine seqS (wpAny_mono (Q := JQ2 s w L G₀ h₀ dx od qa ma x va vb mv mn m q1 q2 q3 q4 i j n tk1 tk2 tk3 tk4 ti tj tn G₈ (qs ++ lftW (q1, q2, q3, q4) (i, j, n))) ?_ ?_ fun _ _ x => x)
      · refine hideV fun Q₂ hQ₂ => ?_
        refine wpAny_If (isTrue_and (wpAny_isTrue_Compare1 (ldS S₁₄ (by walk_at "mem") (ldS S₁₄ (by walk_at "mem") (PyProof.Rows.lt_int (wpAny_truthy_bool ?_))))))
        by_cases c1 : q1 < i
        · refine ifso (ltI (by first | assumption | lia)) ?_
          refine isTrue_and (wpAny_isTrue_Compare1 (ldS S₁₄ (by walk_at "mem") (ldS S₁₄ (by walk_at "mem") (PyProof.Rows.lt_int (wpAny_truthy_bool ?_)))))
          by_cases c2 : q3 < j
          · refine ifso (ltI (by first | assumption | lia)) ?_
            refine isTrue_and_nil ?_
            refine ifso rfl ?_
            subst hQ₂
            refine seqS (appendStS (a := qa) (d := dQd (q1, i, q3, j)) S₁₄ (by walk_at "mem") (fun v => .tail .head) (by rw [sizeLine_eq]; lia) (Tuple_ (args_cons (ldS S₁₄ (by walk_at "mem") (args_cons (ldS S₁₄ (by walk_at "mem") (args_cons (ldS S₁₄ (by walk_at "mem") (args_cons (ldS S₁₄ (by walk_at "mem") (args_nil ?_)))))))))) fun v h₁₅ G₁₅ t₁₅ S₁₅ g₁₅ r₁₅ => wpAny_execs_nil ⟨rfl, _, _, _, _, _, rfl, S₁₅, g₁₅, ?_⟩)
            · exact tupS S₁₄ (.cons (.int _ _) (.cons (.int _ _) (.cons (.int _ _) (.cons (.int _ _) .nil)))) fun h' G' v S' g' r' => ⟨_, _, _, rfl, S', g', r'⟩
            · rw [show lftW (q1, q2, q3, q4) (i, j, n) = [(q1, i, q3, j)] from if_pos ⟨c1, c2⟩, List.map_append]
              exact (r0.mono (g₈.trans g₁₅)).app (.cons r₁₅ .nil)
          · refine ifno (nltI (by first | assumption | lia)) ?_
            subst hQ₂
            refine wpAny_execs_nil ⟨rfl, _, _, _, _, _, rfl, S₁₄, Store.Sub.refl _, ?_⟩
            rw [show lftW (q1, q2, q3, q4) (i, j, n) = [] from if_neg fun q => c2 q.2, List.append_nil]
            exact r0.mono g₈
        · refine ifno (nltI (by first | assumption | lia)) ?_
          subst hQ₂
          refine wpAny_execs_nil ⟨rfl, _, _, _, _, _, rfl, S₁₄, Store.Sub.refl _, ?_⟩
          rw [show lftW (q1, q2, q3, q4) (i, j, n) = [] from if_neg fun q => c1 q.1, List.append_nil]
          exact r0.mono g₈
      · rintro f s' ⟨rfl, h₁₅, G₁₅, t₁₅, qv1, qn1, rfl, S₁₅, g₁₅, r1⟩
        have r1' := r1.length
        rw [List.length_map, List.length_append] at r1'
        refine seqS (wpAny_mono (Q := JQ2 s w L G₀ h₀ dx od qa ma x va vb mv mn m q1 q2 q3 q4 i j n tk1 tk2 tk3 tk4 ti tj tn G₁₅ (qs ++ lftW (q1, q2, q3, q4) (i, j, n) ++ rgtW (q1, q2, q3, q4) (i, j, n))) ?_ ?_ fun _ _ x => x)
        · refine hideV fun Q₂ hQ₂ => ?_
          refine wpAny_If (isTrue_and (wpAny_isTrue_Compare1 (wpAny_BinOp (ldS S₁₅ (by walk_at "mem") (ldS S₁₅ (by walk_at "mem") (addI (c := ((i + n : Nat) : Int)) (by lia) fun tk5 tu5 => ldS S₁₅ (by walk_at "mem") (PyProof.Rows.lt_int (wpAny_truthy_bool ?_))))))))
          by_cases c1 : i + n < q2
          · refine ifso (ltI (by first | assumption | lia)) ?_
            refine isTrue_and (wpAny_isTrue_Compare1 (wpAny_BinOp (ldS S₁₅ (by walk_at "mem") (ldS S₁₅ (by walk_at "mem") (addI (c := ((j + n : Nat) : Int)) (by lia) fun tk5 tu5 => ldS S₁₅ (by walk_at "mem") (PyProof.Rows.lt_int (wpAny_truthy_bool ?_)))))))
            by_cases c2 : j + n < q4
            · refine ifso (ltI (by first | assumption | lia)) ?_
              refine isTrue_and_nil ?_
              refine ifso rfl ?_
              subst hQ₂
              refine seqS (appendStS (a := qa) (d := dQd (i + n, q2, j + n, q4)) S₁₅ (by walk_at "mem") (fun v => .tail .head) (by rw [sizeLine_eq]; lia) (Tuple_ (args_cons (wpAny_BinOp (ldS S₁₅ (by walk_at "mem") (ldS S₁₅ (by walk_at "mem") (addI (c := ((i + n : Nat) : Int)) (by lia) fun tk6 tu6 => args_cons (ldS S₁₅ (by walk_at "mem") (args_cons (wpAny_BinOp (ldS S₁₅ (by walk_at "mem") (ldS S₁₅ (by walk_at "mem") (addI (c := ((j + n : Nat) : Int)) (by lia) fun tk7 tu7 => args_cons (ldS S₁₅ (by walk_at "mem") (args_nil ?_)))))))))))))) fun v h₁₆ G₁₆ t₁₆ S₁₆ g₁₆ r₁₆ => wpAny_execs_nil ⟨rfl, _, _, _, _, _, rfl, S₁₆, g₁₆, ?_⟩)
              · exact tupS S₁₅ (.cons (.int _ _) (.cons (.int _ _) (.cons (.int _ _) (.cons (.int _ _) .nil)))) fun h' G' v S' g' r' => ⟨_, _, _, rfl, S', g', r'⟩
              · rw [show rgtW (q1, q2, q3, q4) (i, j, n) = [(i + n, q2, j + n, q4)] from if_pos ⟨c1, c2⟩, List.map_append]
                exact (r1.mono g₁₆).app (.cons r₁₆ .nil)
            · refine ifno (nltI (by first | assumption | lia)) ?_
              subst hQ₂
              refine wpAny_execs_nil ⟨rfl, _, _, _, _, _, rfl, S₁₅, Store.Sub.refl _, ?_⟩
              rw [show rgtW (q1, q2, q3, q4) (i, j, n) = [] from if_neg fun q => c2 q.2, List.append_nil]
              exact r1
          · refine ifno (nltI (by first | assumption | lia)) ?_
            subst hQ₂
            refine wpAny_execs_nil ⟨rfl, _, _, _, _, _, rfl, S₁₅, Store.Sub.refl _, ?_⟩
            rw [show rgtW (q1, q2, q3, q4) (i, j, n) = [] from if_neg fun q => c1 q.1, List.append_nil]
            exact r1
        · rintro f s' ⟨rfl, h', G'', t', qv', qn', rfl, S', g'', r'⟩
          refine wpAny_execs_nil (wpAny_execs_nil ?_)
          subst hQ
          refine ⟨_, ?_, h', t', G'', qv', qn', _, _, _, fs ++ [(i, j, n)], _, _, _, _, _, _, _, _, rfl, S', ‹G.Sub G₈›.trans (g₁₅.trans g''), ⟨I.qi.found hmono hnd W (by show 0 < n; lia), r', ?_, ?_, ?_⟩, rfl⟩
          · rw [hm]; simp only [wid_app, List.length_append, List.length_singleton]; lia
          · exact (I.rf.mono fun _ _ => IsM.mono (g₈.trans (g₁₅.trans g''))).app (.cons ⟨m, dm, ti, tj, tn, rfl, (g₁₅.trans g'') _ _ e₈⟩ .nil)
          · simp only [wid_app, List.length_append, List.length_singleton]; lia
          · have := I.me; simp only [wid_app, List.length_append, List.length_singleton] at this ⊢; lia
end
section
variable {w : World} {env : Env} {G₀ G : Store} {h₀ h : Heap} {own : List (Addr × Obj)} {l : Loc} {A : Around} {E : Value → Shared → Prop} {s : Shared} {t : Nat}
/-- a list of the store met as a loop's source, its items as they are -/
theorem iterRawS {a : Addr} {vs : List Value} {n : Nat} {Q : Value → Shared → Prop} (S : St w env G₀ h₀ own l G h) (e : G a = some (lstO vs n))
    (k : ∀ h' p it Part, (∀ target, Iter w target it vs.length G Part (fun k _ v => vs[k]? = some v)) → Part 0 p → St w env G₀ h₀ (p ++ own) l G h' → Q it (mkS s h' t)) :
    wpAny (model pw w) A (pyIter (.ref a)) Q E (mkS s h t) := by
  refine wpAny_pyIter_list (s := mkS s h t) (items := vs.toArray) ⟨_, S.gin _ _ e, rfl, n, rfl⟩ ?_
  have S1 := S.pushOwn { cls := .type "list_iterator", data := .fields #[.ref a, .int 0 0] } rfl
  exact k _ [(h.objs.size, { cls := .type "list_iterator", data := .fields #[.ref a, .int 0 0] })] (.ref h.objs.size) _ (fun _ => Iter.listRaw (vs := vs) e rfl ⟨n, rfl⟩ rfl) ⟨_, rfl, rfl, rfl⟩ S1
end
theorem flat_snoc (N : List Tri) (f : Tri) : (N ++ [f]).flatMap tp = N.flatMap tp ++ tp f := by simp
theorem take_snoc {α : Type} {l : List α} {c : Nat} {x : α} (h : l[c]? = some x) : l.take (c + 1) = l.take c ++ [x] := by
  rw [List.take_add_one, h]; rfl
section
variable {w : World} {env : Env} {G₀ G : Store} {h₀ h : Heap} {own : List (Addr × Obj)} {l : Loc} {A : Around} {E : Value → Shared → Prop} {s : Shared} {t : Nat} {x dx : Addr} {od : Obj}
variable {la lb d sj L qa ma : Addr} {as bs : List Int} {led : Bool} {vop vfb vpop : Option Value}
inductive JM1 (G : Store) (na dx x ma : Addr) (od : Obj) (fs : List Tri) (va vb vq : Option Value) (v1 v2 v3 v4 v5 v6 v7 v8 : Option Value) (c : Nat) (G' : Store) (l : Loc) (own : List (Addr × Obj)) : Prop
  | mk (e1 : G.Sub G') (nv : List Value) (nn : Nat) (N : List Tri) (i1 j1 k1 : Nat) (w1 w2 w3 : Tok) (w4 w5 w6 : Option Value) (e2 : own = [(na, lstO nv nn), (dx, od)]) (e3 : RepAll G' nv (N.map dTri)) (e4 : (∀ f ∈ N, 0 < f.2.2)) (e5 : N.length ≤ c) (e6 : (N ++ [(i1, j1, k1)]).flatMap tp = (fs.take c).flatMap tp) (e7 : l = LG (some (.ref x)) va vb vq (some (.ref ma)) v1 v2 v3 v4 v5 v6 v7 v8 (some (.int (i1 : Nat) w1)) (some (.int (j1 : Nat) w2)) (some (.int (k1 : Nat) w3)) (some (.ref na)) w4 w5 w6)
inductive JM2 (s : Shared) (w : World) (L : Addr) (G₀ : Store) (h₀ : Heap) (p : List (Addr × Obj)) (G' : Store) (c i2 j2 k2 : Nat) (ti tj tn : Tok) (na dx x ma : Addr) (od : Obj) (fs : List Tri) (va vb vq : Option Value) (v1 v2 v3 v4 v5 v6 v7 v8 : Option Value) (f : Flow) (s' : Shared) : Prop
  | mk (e1 : f = .next) (h' : Heap) (G'' : Store) (t' : Nat) (nv : List Value) (nn : Nat) (N : List Tri) (i1 : Nat) (j1 : Nat) (k1 : Nat) (w1 : Tok) (w2 : Tok) (w3 : Tok) (e2 : s' = mkS s h' t') (e3 : St w (callEnv fd341 L 341) G₀ h₀ (p ++ [(na, lstO nv nn), (dx, od)]) (LG (some (.ref x)) va vb vq (some (.ref ma)) v1 v2 v3 v4 v5 v6 v7 v8 (some (.int (i1 : Nat) w1)) (some (.int (j1 : Nat) w2)) (some (.int (k1 : Nat) w3)) (some (.ref na)) (some (.int (i2 : Nat) ti)) (some (.int (j2 : Nat) tj)) (some (.int (k2 : Nat) tn))) G'' h') (e4 : G'.Sub G'') (e5 : RepAll G'' nv (N.map dTri)) (e6 : (∀ f ∈ N, 0 < f.2.2)) (e7 : N.length ≤ c + 1) (e8 : (N ++ [(i1, j1, k1)]).flatMap tp = (fs.take (c + 1)).flatMap tp)
inductive JM3 (s : Shared) (w : World) (L : Addr) (G₀ : Store) (h₀ : Heap) (p : List (Addr × Obj)) (G' : Store) (c i2 j2 k2 : Nat) (ti tj tn : Tok) (na dx x ma : Addr) (od : Obj) (fs : List Tri) (va vb vq : Option Value) (v1 v2 v3 v4 v5 v6 v7 v8 : Option Value) (i1 j1 k1 : Nat) (w1 w2 w3 : Tok) (f : Flow) (s' : Shared) : Prop
  | mk (e1 : f = .next) (h' : Heap) (G'' : Store) (t' : Nat) (nv : List Value) (nn : Nat) (N : List Tri) (e2 : s' = mkS s h' t') (e3 : St w (callEnv fd341 L 341) G₀ h₀ (p ++ [(na, lstO nv nn), (dx, od)]) (LG (some (.ref x)) va vb vq (some (.ref ma)) v1 v2 v3 v4 v5 v6 v7 v8 (some (.int (i1 : Nat) w1)) (some (.int (j1 : Nat) w2)) (some (.int (k1 : Nat) w3)) (some (.ref na)) (some (.int (i2 : Nat) ti)) (some (.int (j2 : Nat) tj)) (some (.int (k2 : Nat) tn))) G'' h') (e4 : G'.Sub G'') (e5 : RepAll G'' nv (N.map dTri)) (e6 : (∀ f ∈ N, 0 < f.2.2)) (e7 : N.length ≤ c + 1) (e8 : N.flatMap tp = (fs.take c).flatMap tp)
set_option maxHeartbeats 4000000 in
theorem merge_loop {va vb vq : Option Value} {ms : List Value} {mn : Nat} {fs : List Tri} {v1 v2 v3 v4 v5 v6 v7 v8 : Option Value} {u1 u2 u3 : Tok} {na : Addr} {Q : Flow → Shared → Prop} (hh : A.handled = none) (em : G ma = some (lstO ms mn)) (hf : Fa (IsM G) ms fs) (hpos : ∀ f ∈ fs, 0 < f.2.2) (hlen : fs.length ≤ 100)
    (S : St w (callEnv fd341 L 341) G₀ h₀ [(na, lstO [] 0), (dx, od)] (LG (some (.ref x)) va vb vq (some (.ref ma)) v1 v2 v3 v4 v5 v6 v7 v8 (some (.int ((0 : Nat) : Int) u1)) (some (.int ((0 : Nat) : Int) u2)) (some (.int ((0 : Nat) : Int) u3)) (some (.ref na)) none none none) G h)
    (k : ∀ h' G' t' nv nn N i1 j1 k1 w1 w2 w3 w4 w5 w6, St w (callEnv fd341 L 341) G₀ h₀ [(na, lstO nv nn), (dx, od)] (LG (some (.ref x)) va vb vq (some (.ref ma)) v1 v2 v3 v4 v5 v6 v7 v8 (some (.int (i1 : Nat) w1)) (some (.int (j1 : Nat) w2)) (some (.int (k1 : Nat) w3)) (some (.ref na)) w4 w5 w6) G' h' → G.Sub G' → RepAll G' nv (N.map dTri) → (∀ f ∈ N, 0 < f.2.2) → N.length ≤ fs.length → (N ++ [(i1, j1, k1)]).flatMap tp = fs.flatMap tp →
      wpAny (model pw w) A (execs (F341.2.1.drop 10) (callEnv fd341 L 341)) Q E0 (mkS s h' t')) :
    wpAny (model pw w) A (execs (F341.2.1.drop 9) (callEnv fd341 L 341)) Q E0 (mkS s h t) := by
  have hl := hf.length
  refine seqS (for_ (ldS S (by walk_at "mem") (iterRawS S em fun h₁ p it Part I hP S₁ => ?_)))
  refine for_iter (G₁ := G) (I _) (by exact hh) (JM1 G na dx x ma od fs va vb vq v1 v2 v3 v4 v5 v6 v7 v8) ?_ ?_ ?_ _ 0 rfl (Nat.zero_le _) hP ⟨Store.Sub.refl _, [], 0, [], 0, 0, 0, _, _, _, _, _, _, rfl, .nil, fun f h => (nomatch h), Nat.le_refl _, rfl, rfl⟩ S₁ (Store.Sub.refl _)
  · rintro c hc p G' l own' hz tz v hPk hJ hv S hG
    refine hideQ fun Q' hQ' => ?_
    obtain ⟨gs, nv, nn, N, i1, j1, k1, w1, w2, w3, w4, w5, w6, rfl, rN, hN, hNl, hfl, rfl⟩ := hJ
    obtain ⟨⟨i2, j2, k2⟩, hfc, m, dm, ti, tj, tn, rfl, e⟩ := hf.get hv
    have hk2 := hpos _ (List.mem_of_getElem? hfc)
    simp only at e hk2
    refine unpackM tc_match S (gs _ _ e) (by exact hh) rfl rfl fun h₂ S₂ => ?_
    refine inOrder_cons (wpAny_assign_Name (stS S₂ (by walk_at "set") fun h₃ u₃ S₃ => inOrder_cons (wpAny_assign_Name (stS S₃ (by walk_at "set") fun h₄ u₄ S₄ => inOrder_cons (wpAny_assign_Name (stS S₄ (by walk_at "set") fun h₅ u₅ S₅ => inOrder_nil ?_))))))
    have rl := rN.length
    rw [List.length_map] at rl
    have htk := take_snoc hfc
    refine seqS (wpAny_mono (Q := (JM2 s w L G₀ h₀ p G' c i2 j2 k2 ti tj tn na dx x ma od fs va vb vq v1 v2 v3 v4 v5 v6 v7 v8)) ?_ ?_ fun _ _ x => x)
    · refine hideV fun Q₂ hQ₂ => ?_
      refine wpAny_If (wpAny_mono (Q := fun b s' => ∃ t', s' = mkS s h₅ t' ∧ (b = true ↔ i1 + k1 = i2 ∧ j1 + k1 = j2)) ?_ ?_ fun _ _ x => x)
      · refine isTrue_and (wpAny_isTrue_Compare1 (wpAny_BinOp (ldS S₅ (by walk_at "mem") (ldS S₅ (by walk_at "mem") (addI (c := ((i1 + k1 : Nat) : Int)) (by lia) fun tk5 tu5 => ldS S₅ (by walk_at "mem") (PyProof.Rows.eq_int (wpAny_truthy_bool ?_)))))))
        by_cases c1 : i1 + k1 = i2
        · refine ifso (show (((i1 + k1 : Nat) : Int) == (i2 : Int)) = true by simp; lia) ?_
          refine isTrue_and (wpAny_isTrue_Compare1 (wpAny_BinOp (ldS S₅ (by walk_at "mem") (ldS S₅ (by walk_at "mem") (addI (c := ((j1 + k1 : Nat) : Int)) (by lia) fun tk6 tu6 => ldS S₅ (by walk_at "mem") (PyProof.Rows.eq_int (wpAny_truthy_bool ?_)))))))
          by_cases c2 : j1 + k1 = j2
          · refine ifso (show (((j1 + k1 : Nat) : Int) == (j2 : Int)) = true by simp; lia) ?_
            exact isTrue_and_nil ⟨_, rfl, by simp [c1, c2]⟩
          · refine ifno (show (((j1 + k1 : Nat) : Int) == (j2 : Int)) = false by simp; lia) ?_
            exact ⟨_, rfl, by simp [c2]⟩
        · refine ifno (show (((i1 + k1 : Nat) : Int) == (i2 : Int)) = false by simp; lia) ?_
          exact ⟨_, rfl, by simp [c1]⟩
      · rintro b s' ⟨t', rfl, hb⟩
        cases b with
        | true =>
          obtain ⟨c1, c2⟩ := hb.mp rfl
          refine ifso rfl ?_
          refine seqS (wpAny_AugAssign_Name (ldn_ (s := mkS s h₅ _) S₅ (by walk_at "mem") (ldS S₅ (by walk_at "mem") (iaddI (c := ((k1 + k2 : Nat) : Int)) (by lia) fun tk8 tu8 => stS S₅ (by walk_at "set") fun h₆ u₆ S₆ => ?_))))
          subst hQ₂
          refine wpAny_execs_nil ⟨rfl, _, _, _, nv, nn, N, i1, j1, k1 + k2, _, _, _, rfl, S₆, Store.Sub.refl _, rN, hN, by lia, ?_⟩
          rw [flat_snoc] at hfl ⊢
          rw [tp_join, ← List.append_assoc, hfl, htk, flat_snoc, c1, c2]
        | false =>
          have hne : ¬ (i1 + k1 = i2 ∧ j1 + k1 = j2) := fun q => by have := hb.mpr q; cases this
          refine ifno rfl ?_
          refine seqS (wpAny_mono (Q := (JM3 s w L G₀ h₀ p G' c i2 j2 k2 ti tj tn na dx x ma od fs va vb vq v1 v2 v3 v4 v5 v6 v7 v8 i1 j1 k1 w1 w2 w3)) ?_ ?_ fun _ _ x => x)
          · refine hideV fun Q₃ hQ₃ => ?_
            refine wpAny_If (isTrue_plain (ldS S₅ (by walk_at "mem") (PyProof.Rows.truthy_int ?_)))
            by_cases hk : k1 = 0
            · subst hk
              refine ifno (by simp) ?_
              subst hQ₃
              refine wpAny_execs_nil ⟨rfl, _, _, _, nv, nn, N, rfl, S₅, Store.Sub.refl _, rN, hN, by lia, ?_⟩
              rw [flat_snoc, tp_zero, List.append_nil] at hfl
              exact hfl
            · refine ifso (by simp; lia) ?_
              subst hQ₃
              refine seqS (appendStS (a := na) (vs := nv) (n := nn) (ow := fun v => p ++ [(na, lstO (nv ++ [v]) (nn + 1)), (dx, od)]) (d := dTri (i1, j1, k1)) S₅ (by walk_at "mem") (fun v => ownMid p) (by rw [sizeLine_eq]; lia) (Tuple_ (args_cons (ldS S₅ (by walk_at "mem") (args_cons (ldS S₅ (by walk_at "mem") (args_cons (ldS S₅ (by walk_at "mem") (args_nil ?_)))))))) fun v h₆ G₆ t₆ S₆ g₆ r₆ => wpAny_execs_nil ⟨rfl, _, _, _, _, _, N ++ [(i1, j1, k1)], rfl, S₆, g₆, ?_, ?_, ?_, hfl⟩)
              · exact tupS S₅ (.cons (.int _ _) (.cons (.int _ _) (.cons (.int _ _) .nil))) fun h' G' v S' g' r' => ⟨_, _, _, rfl, S', g', r'⟩
              · rw [List.map_append]; exact (rN.mono g₆).app (.cons r₆ .nil)
              · intro f hf
                rcases List.mem_append.mp hf with q | q
                · exact hN f q
                · simp at q; subst q; show 0 < k1; lia
              · simp; lia
          · rintro f s' ⟨rfl, h₆, G₆, t₆, nv', nn', N', rfl, S₆, g₆, rN', hN', hNl', hfl'⟩
            refine seqS (Assign_Tuple_swapped (names := [Str.ofString "i1", Str.ofString "j1", Str.ofString "k1"]) (Tuple_ (args_cons (ldS S₆ (by walk_at "mem") (args_cons (ldS S₆ (by walk_at "mem") (args_cons (ldS S₆ (by walk_at "mem") (args_nil ?_)))))))))
            refine tupUnpack S₆ (by exact hh) rfl fun h₇ S₇ => ?_
            refine inOrder_cons (bindS S₇ (by walk_at "set") fun h₈ u₈ S₈ => inOrder_cons (bindS S₈ (by walk_at "set") fun h₉ u₉ S₉ => inOrder_cons (bindS S₉ (by walk_at "set") fun h₁₀ u₁₀ S₁₀ => inOrder_nil ?_)))
            subst hQ₂
            refine wpAny_execs_nil ⟨rfl, _, _, _, nv', nn', N', i2, j2, k2, _, _, _, rfl, S₁₀, g₆, rN', hN', hNl', ?_⟩
            rw [flat_snoc, hfl', htk, flat_snoc]
    · rintro f s' ⟨rfl, h', G'', t', nv', nn', N', i1', j1', k1', w1', w2', w3', rfl, S', g', rN', hN', hNl', hfl'⟩
      refine wpAny_execs_nil ?_
      subst hQ'
      exact ⟨_, _, _, _, _, rfl, S', gs.trans g', gs.trans g', nv', nn', N', i1', j1', k1', _, _, _, _, _, _, rfl, rN', hN', hNl', hfl', rfl⟩
  · rintro c G' G'' l own' ⟨gs, nv, nn, N, i1, j1, k1, w1, w2, w3, w4, w5, w6, rfl, rN, hN, hNl, hfl, rfl⟩ g
    exact ⟨gs.trans g, nv, nn, N, i1, j1, k1, w1, w2, w3, w4, w5, w6, rfl, rN.mono g, hN, hNl, hfl, rfl⟩
  · rintro G' l own' hz tz ⟨gs, nv, nn, N, i1, j1, k1, w1, w2, w3, w4, w5, w6, rfl, rN, hN, hNl, hfl, rfl⟩ S hG
    rw [hl, List.take_length] at hfl
    exact k _ _ _ nv nn N i1 j1 k1 _ _ _ _ _ _ S gs rN hN (by lia) hfl
end
noncomputable abbrev fd227 : FuncData := fnOf (Str.ofString "_make") (Str.ofString "Match._make") F227.1 F227.2.1 F227.2.2.1 Value.none Value.none (Value.str (docOr F227.2.1) 531) (Value.str (Str.ofString "cpy313.difflib") 431) (some 230) (Value.ref 226) Value.none
theorem K227 (P : Params) : (K P).lookup 227 = some ⟨.type "function", none, .func fd227, #[]⟩ := by rfl
theorem C227 (P : Params) : codeIn (K P) fd227.code fd227.qualname = true := by rfl
noncomputable def n227 : List Str := [Str.ofString "cls", Str.ofString "iterable", Str.ofString "result"]
theorem len273 (P : Params) : findIn (K P) (.ref 273) "__len__" = some (some (.builtin "tuple.__len__")) := by kernel_rfl
theorem oi_tlen (self : Value) : bindSpecial (.builtin "tuple.__len__") self = pure (.builtin "tuple.__len__", [self]) := PySem.F.slot_tuple_len.bind self
theorem kind_tlen : builtinKind "tuple.__len__" = some .slot := by decide +kernel
theorem split_tlen : splitId "tuple.__len__" = some ("tuple", "__len__") := by decide +kernel
section
variable {w : World} {env : Env} {G₀ G : Store} {h₀ h : Heap} {own : List (Addr × Obj)} {l : Loc} {A : Around} {E : Value → Shared → Prop} {s : Shared} {t : Nat}
/-- len of a Match -/
theorem lenM {m dm : Addr} {vs : List Value} {Q : Value → Shared → Prop} (S : St w env G₀ h₀ own l G h) (hm : h.get? m = some (tcO 273 dm vs)) (hz : vs.length ≤ 100)
    (k : ∀ tk t', Q (.int vs.length tk) (mkS s h t')) : wpAny (model pw w) A (call (.builtin "len") [.ref m]) Q E (mkS s h t) := by
  have X := S.bsNow.X
  have L0 : Looks (model pw w) h (typeOf (.ref m)) (.ref 273) := (Looks.ld hm).andThen .now
  have L1 := looks_findIn (M := model pw w) X (len273 _)
  have L2 : Looks (model pw w) h (isInstance (.ref m) (.type "tuple")) true := L0.andThen (tc_match.sub X (by simp))
  refine call_function_entry kind_len plain_len entry_len (args_len1 _) ?_
  unfold Builtin.«len»
  refine wpAny_bind (m := oneArg "len" _) (wpAny_pure ?_)
  refine wpAny_bind (m := callSpecial? (.ref m) (Str.ofString "__len__")) ?_
  unfold callSpecial?
  refine wpAny_bind (wpAny_bind (L0.at (L1.at ?_)))
  refine wpAny_holding ?_
  simp only [oi_tlen]
  refine wpAny_bind (wpAny_pure ?_)
  refine wpAny_bind (wpAny_call (codeAny_call_builtin PySem.F.slot_tuple_len.plain PySem.F.entry_tuple_len (@check_slot (model pw w) _ _ (mkS s h t) "tuple.__len__" "tuple" "__len__" (.ref m) [] [] _ kind_tlen split_tlen L2 (PySem.F.args_tuple_len_1 _) ?_)))
  show wpAny _ _ (do retInt (← Builtin.Tuple.tupleItemsOf (.ref m)).size) _ _ (mkS s h t)
  refine wpAny_bind (wpAny_bind (wpAny_seqItems (items := vs.toArray) (n := 0) hm rfl (wpAny_pure ?_)))
  refine wpAny_bind (wpAny_mkInt (wpAny_pure ?_))
  refine wpAny_pure ?_
  refine wpAny_bind (wpAny_holding (wpAny_pure ?_))
  refine wpAny_bind (wpAny_letGo ?_)
  show wpAny _ _ (if ((vs.toArray.size : Nat) : Int) < 0 then _ else _) _ _ _
  rw [if_neg (by lia)]
  show wpAny _ _ (if ((vs.toArray.size : Nat) : Int) ≥ 2 ^ 63 then _ else _) _ _ _
  rw [if_neg (by simp; lia)]
  refine wpAny_bind (wpAny_mkInt (wpAny_pure ⟨_, rfl, ?_⟩))
  rw [List.size_toArray]
  exact k _ _
/-- Match._make(tuple) -/
theorem make_code {tp : Addr} {vs : List Value} {o : Obj} {n : Nat} {R : Result → Shared → Prop} (S : St w env G₀ h₀ own l G h) (ho : G tp = some o) (hc : o.cls = .type "tuple") (hd : o.data = .seq vs.toArray n) (h3 : vs.length = 3) (hroom : A.depth < recursionLimit)
    (k : ∀ h' G' t' m dm, St w env G₀ h₀ own l G' h' → G.Sub G' → G' m = some (tcO 273 dm vs) → R (.ok (.ret (.ref m))) (mkS s h' t')) :
    codeAny (model pw w) A (.call (.ref 227) ⟨[.ref 273, .ref tp], []⟩) R (mkS s h t) := by
  refine code_off (new := []) (names := n227) (l₁ := [(Str.ofString "cls", some (.ref 273)), (Str.ofString "iterable", some (.ref tp)), (Str.ofString "result", none)]) S K227 C227 rfl (.of_eq (by rfl)) (.cons .head (.cons (.tail .head) .nil)) (by decide +kernel) hroom fun h₁ t₁ S₁ => ?_
  refine seqS (wpAny_Expr (Calls.Constant_str ?_))
  refine seqS (setS (MethodCall_ (biS S₁ nz_tuple bb_tuple (meth_tnew S₁ ?_))))
  refine PyProof.Rows.callWith_builtin1 (args_cons (ldS S₁ (by walk_at "mem") (args_cons (ldS S₁ (by walk_at "mem") (args_nil ?_)))))
  refine tnewS tc_match S₁ (S₁.gin _ _ ho) hc hd (by lia) fun h₂ G₂ m dm S₂ g₂ e₂ => ?_
  refine stS S₂ (by walk_at "set") fun h₃ t₃ S₃ => ?_
  refine seqS (wpAny_If (wpAny_isTrue_Compare1 (Call_ (biS S₃ nz_len bb_len (PyProof.Rows.callWith_builtin1 (args_cons (ldS S₃ (by walk_at "mem") (args_nil ?_))))))))
  refine lenM S₃ (S₃.gin _ _ e₂) (by lia) fun tk t₄ => conI fun tk2 t₅ => PyProof.Rows.ne_int (wpAny_truthy_bool ?_)
  refine ifno (by rw [h3] <;> rfl) ?_
  refine wpAny_execs_nil ?_
  refine seqS (wpAny_Return_some (ldS S₃ (by walk_at "mem") ?_))
  exact k _ _ _ m dm (St.leave (new := []) S S₃) g₂ e₂
end
theorem map_mro : mroOf (.type "map") = pure [.type "map", .type "object"] := by rw [mroOf_type]; kernel_rfl
theorem map_lookup_new : typeLookup (.type "map") "__new__" = pure (some (.builtin "map.__new__")) := by rw [typeLookup_type, builtinLookup_eq_fast]; kernel_rfl
theorem map_slot_init : Slot "map" "__init__" "object.__init__" :=
  .of (owner := "object") (n := "__init__") (by rw [typeLookup_type, builtinLookup_eq_fast]; kernel_rfl) (by decide +kernel) (by decide +kernel) (by decide +kernel)
    (by first | exact .inl (by decide +kernel) | exact .inr (by decide +kernel)) (by rw [isSubtype_type]; kernel_rfl)
theorem map_slot_next : Slot "map" "__next__" "map.__next__" :=
  .of (owner := "map") (n := "__next__") (by rw [typeLookup_type, builtinLookup_eq_fast]; kernel_rfl) (by decide +kernel) (by decide +kernel) (by decide +kernel)
    (by first | exact .inl (by decide +kernel) | exact .inr (by decide +kernel)) (by rw [isSubtype_type]; kernel_rfl)
theorem map_lookup_iter : typeLookup (.type "map") "__iter__" = pure (some (.builtin "map.__iter__")) := by rw [typeLookup_type, builtinLookup_eq_fast]; kernel_rfl
theorem map_no_len : typeLookup (.type "map") "__len__" = pure none := by rw [typeLookup_type, builtinLookup_eq_fast]; kernel_rfl
theorem map_no_hint : typeLookup (.type "map") "__length_hint__" = pure none := by rw [typeLookup_type, builtinLookup_eq_fast]; kernel_rfl
theorem map_called : TypeCalled "map" "map.__new__" "object.__init__" :=
  ⟨by decide +kernel, by decide +kernel, ⟨_, _, map_mro⟩, madeBy_type map_mro map_lookup_new (by decide +kernel), by decide +kernel, by rw [isSubtype_type]; kernel_rfl, map_slot_init⟩
theorem map_typeCall (a b : Value) : checkTypeCall "map" ⟨[a, b], []⟩ = pure () := by kernel_rfl
theorem map_newCall (a b : Value) : checkBuiltinCall "map.__new__" ⟨[.type "map", a, b], []⟩ = pure () := by kernel_rfl
theorem map_plain : plainId "map.__new__" = true := by decide +kernel
theorem map_entry : entryFor table "map.__new__" = some Builtin.«map.__new__» := entryFor_of_tree (by kernel_rfl)
theorem map_entry_next : entryFor table "map.__next__" = some Builtin.«map.__next__» := entryFor_of_tree (by kernel_rfl)
theorem map_args_next (a : Value) : argsOk "map.__next__" ⟨[a], []⟩ := by unfold argsOk; kernel_rfl
theorem map_sub : isSubtype (.type "map") (.type "map") = pure true := by rw [isSubtype_type]; kernel_rfl
theorem map_init_args (a b c : Value) : argsOk "object.__init__" ⟨[a, b, c], []⟩ := by unfold argsOk; kernel_rfl
noncomputable abbrev mapH1 (h : Heap) (l1 : Addr) : Heap := h.push { cls := .type "list_iterator", data := .fields #[.ref l1, .int 0 0] }
noncomputable abbrev mapH2 (h : Heap) (l1 : Addr) : Heap := (mapH1 h l1).push { cls := .type "tuple", data := .seq #[.ref h.objs.size] }
noncomputable abbrev mapH3 (h : Heap) (l1 : Addr) (f : Value) : Heap := (mapH2 h l1).push { cls := .type "map", data := .fields #[.ref (mapH1 h l1).objs.size, f] }
theorem meets_map_new (f : Value) (l1 : Addr) (xs : Array Value) :
    Meets (Builtin.«map.__new__» ⟨[.type "map", f, .ref l1], []⟩) (fun _ R s => s.heap.IsList l1 xs ∧
      R (.ok (.ret (.ref (mapH2 s.heap l1).objs.size))) { s with heap := mapH3 s.heap l1 f }) :=
  .of_wp fun prog w A R s h => by
    obtain ⟨hp, g, d, tk, os⟩ := s; obtain ⟨hl1, h⟩ := h
    have hsub := map_sub
    have hL1 : Heap.IsList (Shared.heap ⟨hp, g, d, tk, os⟩) l1 xs := hl1
    wp_walk using wpAny_pyIter_list hL1
    exact ⟨_, rfl, h⟩
theorem map_slot_iter : Slot "map" "__iter__" "map.__iter__" :=
  .of (owner := "map") (n := "__iter__") map_lookup_iter (by decide +kernel) (by decide +kernel) (by decide +kernel)
    (by first | exact .inl (by decide +kernel) | exact .inr (by decide +kernel)) (by rw [isSubtype_type]; kernel_rfl)
theorem map_args_iter (a : Value) : argsOk "map.__iter__" ⟨[a], []⟩ := by unfold argsOk; kernel_rfl
theorem map_entry_iter : entryFor table "map.__iter__" = some Builtin.«dict_keyiterator.__iter__» :=
  entryFor_alias (id' := "dict_keyiterator.__iter__") (by kernel_rfl) (by first | rfl | decide +kernel | (unfold String.splitOn; simp +decide [String.splitOnAux])) (by decide +kernel) (by kernel_rfl)
noncomputable abbrev mapO (to : Addr) (f : Value) : Obj := { cls := .type "map", data := .fields #[.ref to, f] }
noncomputable abbrev itO (la : Addr) (k : Nat) : Obj := { cls := .type "list_iterator", data := .fields #[.ref la, .int (k : Nat) 0] }
section
variable {w : World} {env : Env} {G₀ G : Store} {h₀ h : Heap} {own : List (Addr × Obj)} {l : Loc} {A : Around} {E : Value → Shared → Prop} {s : Shared} {t : Nat}
/-- map(f, list) -/
theorem mapMake {f : Value} {la : Addr} {vs : List Value} {n : Nat} {Q : Value → Shared → Prop} (S : St w env G₀ h₀ own l G h) (e : G la = some (lstO vs n))
    (k : ∀ h' mo to it oi, St w env G₀ h₀ ((mo, mapO to f) :: (to, tupO [.ref it]) :: (it, oi) :: own) l G h' → LIter la 0 oi → Q (.ref mo) (mkS s h' t)) :
    wpAny (model pw w) A (call (.type "map") [f, .ref la]) Q E (mkS s h t) := by
  refine callType_new map_called (by decide) (map_typeCall _ _) (map_newCall _ _) (fun obj => map_init_args obj _ _) map_entry (meets_map_new f la vs.toArray) ⟨⟨_, S.gin _ _ e, rfl, n, rfl⟩, ?_⟩
  have S1 := S.pushOwn (itO la 0) rfl
  have S2 := S1.pushOwn (tupO [.ref h.objs.size]) rfl
  have S3 := S2.pushOwn (mapO (h.push (itO la 0)).objs.size f) rfl
  exact ⟨⟨_, Heap.get?_push_size _ rfl, rfl⟩, k _ _ _ _ _ S3 ⟨rfl, rfl⟩⟩
/-- the next of a map of Match._make -/
theorem mapNext {mo to it la mm tp : Addr} {oi : Obj} {vs ws : List Value} {n c : Nat} {ot : Obj} {m : Nat} {Q : Option Value → Shared → Prop} (S : St w env G₀ h₀ ((mo, mapO to (.ref mm)) :: (to, tupO [.ref it]) :: (it, oi) :: own) l G h) (hi : LIter la c oi)
    (e : G la = some (lstO vs n)) (em : G mm = some (methodObj (.ref 227) (.ref 273))) (hv : vs[c]? = some (.ref tp)) (ho : G tp = some ot) (hc : ot.cls = .type "tuple") (hd : ot.data = .seq ws.toArray m) (h3 : ws.length = 3) (hroom : A.depth < recursionLimit)
    (k : ∀ h' G' t' x dx oi', St w env G₀ h₀ ((mo, mapO to (.ref mm)) :: (to, tupO [.ref it]) :: (it, oi') :: own) l G' h' → LIter la (c + 1) oi' → G.Sub G' → G' x = some (tcO 273 dx ws) → Q (some (.ref x)) (mkS s h' t')) :
    wpAny (model pw w) A (pyNext (.ref mo)) Q E (mkS s h t) := by
  have hmo := (S.ow _ (.head _)).1
  have hto := (S.ow _ (.tail _ (.head _))).1
  have hit := (S.ow _ (.tail _ (.tail _ (.head _)))).1
  have hT : (mkS s h t).TypeIs (.ref mo) "map" := ⟨_, hmo, rfl⟩
  unfold pyNext
  refine wpAny_bind (wpAny_attempt (wpAny_callSpecial?_slot (name := Str.ofString "__next__") hT map_slot_next (wpAny_call_entry map_slot_next hT map_entry_next ?_ (map_args_next _))))
  show wpAny _ _ (field (.ref mo) 0 >>= _) _ _ _
  refine wpAny_bind (wpAny_field hmo rfl (x := .ref to) rfl ?_)
  refine wpAny_bind (wpAny_seqItems (items := #[.ref it]) (n := 0) hto rfl ?_)
  dsimp only
  rw [← Array.forIn_toList]
  refine wpAny_bind ?_
  show wpAny _ _ (forIn [Value.ref it] _ _) _ _ _
  rw [List.forIn_cons]
  refine wpAny_bind (wpAny_bind (wpAny_holding (wpAny_nextOf_list_item (s := mkS s h t) (l := la) (i := c) (items := vs.toArray) ⟨_, hit, hi.1, hi.2⟩ ⟨_, S.gin _ _ e, rfl, n, rfl⟩ (by simpa using hv) fun h₂ hi₂ hs₂ => ?_)))
  obtain ⟨oi', ei', ci', di'⟩ := hi₂
  have S₂ := S.upd (.tail (.tail .head)) hs₂ ei'
  refine wpAny_pure ?_
  dsimp only
  rw [List.forIn_nil]
  refine wpAny_pure ?_
  refine wpAny_bind (wpAny_field (S₂.ow _ (.head _)).1 rfl (x := .ref mm) rfl (wpAny_bind (wpAny_holding ?_)))
  refine wpAny_call (method_call (s := mkS s h₂ t) (S₂.gin _ _ em) (make_code S₂ ho hc hd h3 hroom fun h₃ G₃ t₃ x dx S₃ g₃ e₃ => ?_))
  refine wpAny_bind (wpAny_letGo (wpAny_pure ⟨_, rfl, ?_⟩))
  exact wpAny_pure (k h₃ G₃ t₃ x dx oi' S₃ ⟨ci', di'⟩ g₃ e₃)
/-- a map at its end -/
theorem mapStop {mo to it la : Addr} {f : Value} {oi : Obj} {vs : List Value} {n : Nat} {Q : Option Value → Shared → Prop} (hh : A.handled = none) (S : St w env G₀ h₀ ((mo, mapO to f) :: (to, tupO [.ref it]) :: (it, oi) :: own) l G h) (hi : LIter la vs.length oi)
    (e : G la = some (lstO vs n))
    (k : ∀ h', St w env G₀ h₀ own l G h' → Q none (mkS s h' t)) :
    wpAny (model pw w) A (pyNext (.ref mo)) Q E (mkS s h t) := by
  have hmo := (S.ow _ (.head _)).1
  have hto := (S.ow _ (.tail _ (.head _))).1
  have hit := (S.ow _ (.tail _ (.tail _ (.head _)))).1
  have hT : (mkS s h t).TypeIs (.ref mo) "map" := ⟨_, hmo, rfl⟩
  unfold pyNext
  refine wpAny_bind (wpAny_attempt (wpAny_callSpecial?_slot (name := Str.ofString "__next__") hT map_slot_next (wpAny_call_entry map_slot_next hT map_entry_next ?_ (map_args_next _))))
  show wpAny _ _ (field (.ref mo) 0 >>= _) _ _ _
  refine wpAny_bind (wpAny_field hmo rfl (x := .ref to) rfl ?_)
  refine wpAny_bind (wpAny_seqItems (items := #[.ref it]) (n := 0) hto rfl ?_)
  dsimp only
  rw [← Array.forIn_toList]
  refine wpAny_bind ?_
  show wpAny _ _ (forIn [Value.ref it] _ _) _ _ _
  rw [List.forIn_cons]
  refine wpAny_bind (wpAny_bind (wpAny_holding (wpAny_nextOf_list_end (s := mkS s h t) (l := la) (i := vs.length) (items := vs.toArray) (by exact hh) ⟨_, hit, hi.1, hi.2⟩ ⟨_, S.gin _ _ e, rfl, n, rfl⟩ (by simp) fun h₂ ex hs₂ hx => ?_)))
  obtain ⟨o, eo, co⟩ := hx
  refine wpAny_bind (wpAny_isInstance (T := "StopIteration") (b := true) ⟨_, eo, co⟩ isSubtype_stop ?_)
  exact wpAny_pure (k h₂ (S.dropAll (part := [_, _, _]) fun b o hb e => hs₂ b o (fun q => hb (by simp [q])) e))
end
theorem Rep.tri {G : Store} {v : Value} {b : Tri} (r : Rep G v (dTri b)) : ∃ tp o n t1 t2 t3, v = .ref tp ∧ G tp = some o ∧ o.cls = .type "tuple" ∧ o.data = .seq [Value.int (b.1 : Nat) t1, .int (b.2.1 : Nat) t2, .int (b.2.2 : Nat) t3].toArray n := by
  cases r with
  | tuple e c d q =>
    rename_i a o vs n
    generalize hvs : vs.toList = ws at q
    cases q with
    | cons b1 q1 =>
    obtain ⟨_, _, rfl, b2, b3⟩ := q1.two
    obtain ⟨tk1, rfl⟩ := b1.intv
    obtain ⟨tk2, rfl⟩ := b2.intv
    cases b3 with
    | int _ tk3 => exact ⟨a, o, n, tk1, tk2, tk3, rfl, e, c, by rw [d, ← hvs, Array.toArray_toList]⟩
section
variable {w : World} {env : Env} {G₀ G : Store} {h₀ h : Heap} {own : List (Addr × Obj)} {l : Loc} {A : Around} {E : Value → Shared → Prop} {s : Shared} {t : Nat}
theorem mapLoop {mo to it la mm Sx : Addr} {vs : List Value} {n : Nat} {bs : List Tri} {R : Result → Shared → Prop} (hh : A.handled = none) (hroom : A.depth < recursionLimit) (hz : bs.length ≤ 100) : ∀ (m c : Nat), m = bs.length - c → c ≤ bs.length → ∀ {G h t oi ws cc}, G la = some (lstO vs n) → RepAll G vs (bs.map dTri) → G mm = some (methodObj (.ref 227) (.ref 273)) →
    LIter la c oi → Fa (IsM G) ws (bs.take c) → St w env G₀ h₀ ((Sx, lstO ws cc) :: (mo, mapO to (.ref mm)) :: (to, tupO [.ref it]) :: (it, oi) :: own) l G h →
    (∀ h' G' t' ws' cc', St w env G₀ h₀ ((Sx, lstO ws' cc') :: own) l G' h' → G.Sub G' → Fa (IsM G') ws' bs → R (.ok (.ret .none)) (mkS s h' t')) →
    codeAny (model pw w) A (.builtin "list.extend.loop" ⟨[.ref Sx, .ref mo, .none], []⟩) R (mkS s h t) := by
  intro m
  induction m with
  | zero =>
    intro c hm hc G h t oi ws cc e rv em hi hf S k
    obtain rfl : c = bs.length := by lia
    have hl : vs.length = bs.length := by have := rv.length; simpa using this
    refine codeAny_builtin PySem.F.entry_extend_loop ?_
    rw [Around.under_plainId PySem.F.plain_extend_loop _]
    show wpAny _ A.in1 (pyNext (.ref mo) >>= _) _ _ _
    have S' : St w env G₀ h₀ ((mo, mapO to (.ref mm)) :: (to, tupO [.ref it]) :: (it, oi) :: (Sx, lstO ws cc) :: own) l G h := S.idx (part := [_, _, _, _]) [1, 2, 3, 0] (by decide) rfl
    refine wpAny_bind (mapStop (by exact hh) S' (hl ▸ hi) e fun h' S'' => ?_)
    exact wpAny_pure (k _ _ _ _ _ S'' (Store.Sub.refl _) (by rw [List.take_length] at hf; exact hf))
  | succ m ih =>
    intro c hm hc G h t oi ws cc e rv em hi hf S k
    have hlt : c < bs.length := by lia
    have hl : vs.length = bs.length := by have := rv.length; simpa using this
    refine codeAny_builtin PySem.F.entry_extend_loop ?_
    rw [Around.under_plainId PySem.F.plain_extend_loop _]
    show wpAny _ A.in1 (pyNext (.ref mo) >>= _) _ _ _
    have S' : St w env G₀ h₀ ((mo, mapO to (.ref mm)) :: (to, tupO [.ref it]) :: (it, oi) :: (Sx, lstO ws cc) :: own) l G h := S.idx (part := [_, _, _, _]) [1, 2, 3, 0] (by decide) rfl
    obtain ⟨v, hv, rv1⟩ := rv.get (k := c) (d := dTri bs[c]) (by rw [List.getElem?_map, List.getElem?_eq_getElem hlt]; rfl)
    obtain ⟨tp, ot, nt, t1, t2, t3, rfl, e1, c1, d1⟩ := rv1.tri
    refine wpAny_bind (mapNext S' hi e em hv e1 c1 d1 rfl hroom fun h₂ G₂ t₂ x dx oi' S₂ hi' g₂ e₂ => ?_)
    have hSx := (S₂.ow (Sx, lstO ws cc) (.tail _ (.tail _ (.tail _ (.head _))))).1
    have hwl : ws.length ≤ bs.length := by rw [hf.length, List.length_take]; lia
    show wpAny _ A.in1 (updateSeq Sx (·.push (.ref x)) >>= _) _ _ _
    refine wpAny_bind (wpAny_updateSeq hSx rfl (wpAny_pure ⟨plainId_quiet PySem.F.plain_extend_loop _, ?_⟩) (by simp; rw [sizeLine_eq]; lia) (by simp; rw [sizeLine_eq]; lia))
    have q : Obj.mapSeq (·.push (Value.ref x)) (lstO ws cc) = lstO (ws ++ [.ref x]) (cc + 1) := by simp [Obj.mapSeq, lstO]
    have S₃ := S₂.upd (o' := lstO (ws ++ [.ref x]) (cc + 1)) (.tail (.tail (.tail .head))) (Heap.SameBut.update h₂ Sx (Obj.mapSeq (·.push (Value.ref x)))) (by rw [← q]; exact Heap.get?_update_self _ hSx rfl)
    refine ih (c + 1) (by lia) hlt (G := G₂) (oi := oi') (ws := ws ++ [.ref x]) (cc := cc + 1) (g₂ _ _ e) (rv.mono g₂) (g₂ _ _ em) hi' ?_ (S₃.idx (part := [_, _, _, _]) [3, 0, 1, 2] (by decide) rfl) fun h' G' t' ws' cc' S' g' hf' => k h' G' t' ws' cc' S' (g₂.trans g') hf'
    · rw [take_snoc (List.getElem?_eq_getElem hlt)]
      exact (hf.mono fun _ _ => IsM.mono g₂).app (.cons ⟨x, dx, t1, t2, t3, rfl, e₂⟩ .nil)
theorem map_hint {M : Model} {mo : Addr} {s : Shared} {Q : Bool → Shared → Prop} (hT : s.TypeIs (.ref mo) "map") (k : Q true s) : wpAny M A (Builtin.List.listLengthHint (.ref mo)) Q E s := by
  unfold Builtin.List.listLengthHint
  refine wpAny_bind (wpAny_specialOf hT map_no_len ?_)
  dsimp only
  refine wpAny_bind (wpAny_specialOf hT map_no_hint ?_)
  exact wpAny_pure k
theorem map_iter {w : World} {A : Around} {E : Value → Shared → Prop} {mo : Addr} {s : Shared} {Q : Value → Shared → Prop} (hT : s.TypeIs (.ref mo) "map") (k : Q (.ref mo) s) : wpAny (model pw w) A (pyIter (.ref mo)) Q E s := by
  refine wpAny_pyIter_slot hT map_slot_iter (wpAny_call_entry map_slot_iter hT map_entry_iter ?_ (map_args_iter _))
  show wpAny _ _ (ret (.ref mo)) _ _ s
  exact wpAny_pure ⟨_, rfl, "map", _, hT, map_slot_next.lookup, k⟩
/-- list(map(Match._make, ..)) -/
theorem listMap {mo to it la mm : Addr} {oi : Obj} {vs : List Value} {n : Nat} {bs : List Tri} {Q : Value → Shared → Prop} (S : St w env G₀ h₀ ((mo, mapO to (.ref mm)) :: (to, tupO [.ref it]) :: (it, oi) :: own) l G h) (hi : LIter la 0 oi) (hh : A.handled = none) (hroom : A.depth < recursionLimit) (hz : bs.length ≤ 100)
    (e : G la = some (lstO vs n)) (rv : RepAll G vs (bs.map dTri)) (em : G mm = some (methodObj (.ref 227) (.ref 273)))
    (k : ∀ h' G' t' ra ws c, St w env G₀ h₀ ((ra, lstO ws c) :: own) l G' h' → G.Sub G' → Fa (IsM G') ws bs → Q (.ref ra) (mkS s h' t')) :
    wpAny (model pw w) A (call (.type "list") [.ref mo]) Q E (mkS s h t) := by
  have hmo := (S.ow _ (.head _)).1
  refine callType_codes (Q₁ := fun obj s₁ => obj = .ref h.objs.size ∧ s₁ = mkS s (h.push { cls := .type "list", data := .seq #[] }) t) PySem.F.called_list (PySem.F.typeCall_list_1 _) PySem.F.entry_list_init
    (code_list_new _ ⟨rfl, rfl⟩) fun obj s₁ h₁ => ?_
  obtain ⟨rfl, rfl⟩ := h₁
  have S1 := S.pushOwn (listO []) rfl
  have hS := (S1.ow _ (.head _)).1
  refine ⟨⟨_, hS, rfl⟩, PySem.F.args_list_init_2 _ _, ?_⟩
  show wpAny _ _ (do let old ← Builtin.List.listItems (.ref h.objs.size); Builtin.List.listUpdate (.ref h.objs.size) (fun _ => #[]); letGo old.toList.reverse; Builtin.List.listExtendWith (.ref h.objs.size) (.ref mo) .none) _ _ _
  refine wpAny_bind (listItems_at hS rfl ?_)
  refine wpAny_bind (listUpdate_at hS rfl ?_ (Nat.zero_le _) (Nat.zero_le _))
  obtain ⟨n1, e1⟩ : ∃ n1, ((h.push (listO [])).update h.objs.size (Obj.mapSeq fun _ => (#[] : Array Value))).get? h.objs.size = some (lstO [] n1) := ⟨_, get?_update_seq (c := "list") hS fun _ => #[]⟩
  have S2 := S1.upd (o' := lstO [] n1) .head (Heap.SameBut.update _ _ _) e1
  refine wpAny_bind (wpAny_letGo ?_)
  have hne : h.objs.size ≠ mo := Nat.ne_of_gt (Heap.lt_size hmo)
  have hmo2 := (S2.ow _ (.tail _ (.head _))).1
  unfold Builtin.List.listExtendWith
  refine wpAny_bind (wpAny_typeOf (T := "map") ⟨_, hmo2, rfl⟩ ?_)
  have h1 : Builtin.List.listSameRef (.ref h.objs.size) (.ref mo) = false := by simp [Builtin.List.listSameRef, hne]
  simp only [h1, show ((Value.type "map") == Value.type "list") = false from by decide, show ((Value.type "map") == Value.type "tuple") = false from by decide, Bool.or_false, Bool.false_eq_true, if_false]
  refine wpAny_bind (map_iter ⟨_, hmo2, rfl⟩ ?_)
  refine wpAny_bind (wpAny_holding (map_hint ⟨_, hmo2, rfl⟩ ?_))
  refine wpAny_ite_split (fun _ => ?_) (fun q => absurd q (by simp))
  refine wpAny_bind (wpAny_rule ?_)
  refine wpAny_bind ?_
  show wpAny _ _ (updateSeq h.objs.size (·.push .none) >>= fun _ => updateSeq h.objs.size (·.pop)) _ _ _
  refine wpAny_bind (wpAny_updateSeq e1 rfl ?_)
  have hS₂ := Heap.get?_update_self (Obj.mapSeq (·.push Value.none)) e1 rfl
  have S3 := S2.upd .head (Heap.SameBut.update _ _ _) hS₂
  refine wpAny_updateSeq (hz := by seq_fits) hS₂ rfl ?_
  have hS₃ := Heap.get?_update_self (Obj.mapSeq (·.pop)) hS₂ rfl
  have S4 := S3.upd .head (Heap.SameBut.update _ _ _) hS₃
  refine wpAny_pure ⟨plainId_quiet PySem.F.plain_extend_loop _, ?_⟩
  have q : ∃ n, Obj.mapSeq (·.pop) (Obj.mapSeq (·.push Value.none) (lstO [] n1)) = lstO [] n := ⟨_, by simp [Obj.mapSeq, lstO]; rfl⟩
  obtain ⟨n4, q⟩ := q
  rw [q] at S4
  refine mapLoop (A := A.in1) (s := s) (t := t) (R := wants (fun r s₂ => r = Value.none ∧ Q (Value.ref h.objs.size) s₂) E) (by exact hh) hroom hz _ 0 rfl (Nat.zero_le _) e rv em hi .nil S4 fun h' G' t' ws' cc' S' g' hf' => ⟨rfl, k h' G' t' _ ws' cc' S' g' hf'⟩
end
theorem make_find (P : Params) : findCls (K P) (.ref 273) (.type "type") (Str.ofString "_make") = some (.get (.builtin "classmethod.__get__") (.ref 229) .none (.ref 273)) := by kernel_rfl
theorem make_rec (P : Params) : recIn (K P) 229 "classmethod" = some [.ref 227, .bool false] := by kernel_rfl
section
variable {w : World} {env : Env} {G₀ G : Store} {h₀ h : Heap} {own : List (Addr × Obj)} {l : Loc} {A : Around} {E : Value → Shared → Prop} {s : Shared} {t : Nat}
/-- Match._make -/
theorem boundMake {expr : Bool} {Q : Value → Shared → Prop} (S : St w env G₀ h₀ own l G h) (k : ∀ h' G' t' mm, St w env G₀ h₀ own l G' h' → G.Sub G' → G' mm = some (methodObj (.ref 227) (.ref 273)) → Q (.ref mm) (mkS s h' t')) :
    wpAny (model pw w) A (getAttr (.ref 273) (Str.ofString "_make") expr) Q E (mkS s h t) := by
  have X := S.bsNow.X
  obtain ⟨S', g'⟩ := S.push (methodObj (.ref 227) (.ref 273)) rfl
  refine cls_bind (mc := .type "type") X (tc_match.reads _) (make_find _) (wpAny_call (cm_get (s := mkS s h (t + 1)) X (make_rec _) (handed_on rfl ?_)))
  exact k _ _ _ _ S' g' Store.put_self
end
section
variable {w : World} {env : Env} {G₀ G : Store} {h₀ h : Heap} {own : List (Addr × Obj)} {l : Loc} {A : Around} {E : Value → Shared → Prop} {s : Shared} {t : Nat} {x dx : Addr} {od : Obj}
variable {la lb d sj L : Addr} {as bs : List Int} {led : Bool} {vop vfb vpop : Option Value}
inductive JP1 (s : Shared) (w : World) (h : Heap) (G G₂₁ : Store) (dx na qa ma x : Addr) (od : Obj) (as bs : List Int) (u₄ u₆ : Tok) (v1 v2 v3 v4 v5 v6 v7 v8 w4 w5 w6 : Option Value) (i1 j1 k1 : Nat) (w1 w2 w3 : Tok) (f : Flow) (s' : Shared) : Prop
  | mk (e1 : f = .next) (h' : Heap) (G'' : Store) (t' : Nat) (nv : List Value) (nn : Nat) (N : List Tri) (e2 : s' = mkS s h' t') (e3 : St w (callEnv fd341 h.objs.size 341) G (offH h [(dx, od)]) [(na, lstO nv nn), (dx, od)] (LG (some (.ref x)) (some (Value.int (↑as.length) u₄)) (some (Value.int (↑bs.length) u₆)) (some (.ref qa)) (some (.ref ma)) v1 v2 v3 v4 v5 v6 v7 v8 (some (.int (i1 : Nat) w1)) (some (.int (j1 : Nat) w2)) (some (.int (k1 : Nat) w3)) (some (.ref na)) w4 w5 w6) G'' h') (e4 : G₂₁.Sub G'') (e5 : RepAll G'' nv (N.map dTri)) (e6 : (∀ f ∈ N, 0 < f.2.2)) (e7 : N.length ≤ 61) (e8 : PSpec as bs (N.flatMap tp))
set_option maxHeartbeats 4000000 in
theorem blocks_spec {Q : Value → Shared → Prop} (S : St w env G₀ h₀ ((dx, od) :: own) l G h) (hx : G x = some (instObj 380 dx))
    (D : DictM (mAt (some (.ref la)) (some (.ref lb)) (some .none) vop vfb (some (.ref d)) (some (.ref sj)) vpop) od) (ra : Rep G (.ref la) (dInts as)) (rb : Rep G (.ref lb) (dInts bs)) (B : B2j w G d bs) (es : G sj = some (setO led)) (hnd : bs.Nodup) (hla : as.length ≤ 60) (hlb : bs.length ≤ 60)
    (hmono : MonoM as bs) (hh : A.handled = none) (hroom : A.depth + 8 < recursionLimit) (hu : A.units + 200 < cLine)
    (k : ∀ h' G' t' od' rl ws c N, St w env G₀ h₀ ((dx, od') :: own) l G' h' → G.Sub G' → DictM (mAt (some (.ref la)) (some (.ref lb)) (some (.ref rl)) vop vfb (some (.ref d)) (some (.ref sj)) vpop) od' → G' rl = some (lstO ws c) → Fa (IsM G') ws (N ++ [(as.length, bs.length, 0)]) → (∀ f ∈ N, 0 < f.2.2) → N.length ≤ 61 → PSpec as bs (N.flatMap tp) → Q (.ref rl) (mkS s h' t')) :
    wpAny (model pw w) A (call (.ref 341) [.ref x]) Q E (mkS s h t) := by
  refine callOff (new := [(dx, od)]) (names := n341) (l₁ := LG (some (.ref x)) none none none none none none none none none none none none none none none none none none none) S K341 C341 rfl (by rfl) (.cons .head .nil) (by decide +kernel) (by lia) fun h₁ t₁ S₁ => ?_
  have X : ∀ {env G₀ h₀ own l G' h'}, St w env G₀ h₀ own l G' h' → G.Sub G' → (dx, od) ∈ own → SelfAt h' x dx od _ := fun S' g hm => selfAt S' (g _ _ hx) hm D mAt_nd
  refine seqS (wpAny_Expr (Calls.Constant_str ?_))
  refine seqS (wpAny_If (wpAny_isTrue_Compare1 (attrS S₁ (by walk_at "mem") (X S₁ (Store.Sub.refl _) (.head _)) (name := aMB) (by walk_at "mem") (by decide +kernel) rfl fun t₂ => wpAny_Constant_none (isnot_none_none (wpAny_truthy_bool ?_)))))
  refine wpAny_execs_nil ?_
  refine seqS (Assign_Tuple_swapped (names := [Str.ofString "la", Str.ofString "lb"]) (Tuple_ (args_cons (Call_ (biS S₁ nz_len bb_len (PyProof.Rows.callWith_builtin1 (args_cons (attrS S₁ (by walk_at "mem") (X S₁ (Store.Sub.refl _) (.head _)) (name := aA) (by walk_at "mem") (by decide +kernel) rfl fun t₃ => args_nil ?_))))))))
  refine lenS S₁ ra (by simp; lia) fun u₄ t₄ => ?_
  refine args_cons (Call_ (biS S₁ nz_len bb_len (PyProof.Rows.callWith_builtin1 (args_cons (attrS S₁ (by walk_at "mem") (X S₁ (Store.Sub.refl _) (.head _)) (name := aB) (by walk_at "mem") (by decide +kernel) rfl fun t₅ => args_nil ?_)))))
  refine lenS S₁ rb (by simp; lia) fun u₆ t₆ => args_nil ?_
  refine tupUnpack S₁ (by exact hh) rfl fun h₂ S₂ => ?_
  refine inOrder_cons (bindS S₂ (by walk_at "set") fun h₃ u₃ S₃ => inOrder_cons (bindS S₃ (by walk_at "set") fun h₅ u₅ S₅ => inOrder_nil ?_))
  rw [List.length_map, List.length_map] at S₅
  refine seqS (setS (List_ (args_cons (Tuple_ (args_cons (conI fun tk1 tu1 => args_cons (ldS S₅ (by walk_at "mem") (args_cons (conI fun tk2 tu2 => args_cons (ldS S₅ (by walk_at "mem") (args_nil ?_)))))))))))
  refine tupS S₅ (ds := [.int ((0 : Nat) : Int), .int (as.length : Nat), .int ((0 : Nat) : Int), .int (bs.length : Nat)]) (.cons (.int _ _) (.cons (.int _ _) (.cons (.int _ _) (.cons (.int _ _) .nil)))) fun h₆ G₆ qv S₆ g₆ r₆ => args_nil ?_
  refine listOwn S₆ fun h₇ qa S₇ => stS S₇ (by walk_at "set") fun h₈ t₈ S₈ => ?_
  refine seqS (setS (List_ (args_nil (listOwn S₈ fun h₉ ma S₉ => stS S₉ (by walk_at "set") fun h₁₀ t₁₀ S₁₀ => ?_))))
  have S₁₁ := S₁₀.idx0 (own' := [(dx, od), (qa, lstO [qv] 0), (ma, lstO [] 0)]) [2, 1, 0] (by decide) rfl
  have g6 := g₆
  refine queue_loop (qs := [(0, as.length, 0, bs.length)]) (fs := []) (g6 _ _ hx) D (ra.mono g6) (rb.mono g6) (B.mono g6) (g6 _ _ es) hnd hla hlb hmono (by exact hh) (by show A.depth + 1 + 6 < _; lia) S₁₁ ⟨QI.start as bs, .cons r₆ .nil, .nil, by simp [wid], by simp [wid]⟩ fun h₁₂ G₁₂ t₁₂ qv qn mv mn fs v1 v2 v3 v4 v5 v6 v7 v8 S₁₂ g₁₂ I => ?_
  have hfl := I.rf.length
  have hwi := I.wi
  refine seqS (sortStS (a := ma) (ow := fun o => [(dx, od), (qa, lstO qv qn), (ma, o)]) S₁₂ (by walk_at "mem") (fun o' => .tail (.tail .head)) (fun o o' => .tail (.tail .head)) I.rf ?_ (by lia) (by show A.units + 3 + 100 < _; lia) fun h₁₃ G₁₃ mn' mv' fs' S₁₃ g₁₃ hf' hp' hs' => ?_)
  · rw [List.nodup_iff_pairwise_ne, List.pairwise_map]
    refine I.qi.ff.imp_of_mem ?_
    intro x y hx hy hxy
    have := (I.qi.fok x hx).1
    have := (I.qi.fok y hy).1
    lia
  refine seqS (wpAny_Assign_three (conI fun tk5 tu5 => ?_))
  refine wpAny_assign_Name (stS S₁₃ (by walk_at "set") fun h₁₄ u₁₄ S₁₄ => wpAny_assign_Name (stS S₁₄ (by walk_at "set") fun h₁₅ u₁₅ S₁₅ => wpAny_assign_Name (stS S₁₅ (by walk_at "set") fun h₁₆ u₁₆ S₁₆ => ?_)))
  refine seqS (setS (List_ (args_nil (listOwn S₁₆ fun h₁₇ na S₁₇ => stS S₁₇ (by walk_at "set") fun h₁₈ t₁₈ S₁₈ => ?_))))
  obtain ⟨S₁₉, g₁₉⟩ := S₁₈.freeze (a := ma) (.tail (.tail (.tail .head)))
  have S₂₀ := S₁₉.idx0 (own' := [(na, lstO [] 0), (dx, od)]) [0, 1] (by decide) rfl
  have hlen' : fs'.length ≤ 60 := by rw [hp'.length_eq]; lia
  have hpos' : ∀ f ∈ fs', 0 < f.2.2 := fun f hf => (I.qi.fok f (hp'.mem_iff.mp hf)).1
  have ps := I.qi.sorted hmono hnd hp' hs'
  refine merge_loop (by exact hh) Store.put_self (hf'.mono fun _ _ => IsM.mono g₁₉) hpos' (by lia) S₂₀ fun h₂₁ G₂₁ t₂₁ nv nn N i1 j1 k1 w1 w2 w3 w4 w5 w6 S₂₁ g₂₁ rN hN hNl hfl' => ?_
  have g21 := g6.trans (g₁₂.trans (g₁₃.trans (g₁₉.trans g₂₁)))
  rw [← hfl'] at ps
  have rNl := rN.length
  rw [List.length_map] at rNl
  refine seqS (wpAny_mono (Q := (JP1 s w h G G₂₁ dx na qa ma x od as bs u₄ u₆ v1 v2 v3 v4 v5 v6 v7 v8 w4 w5 w6 i1 j1 k1 w1 w2 w3)) ?_ ?_ fun _ _ x => x)
  · refine hideV fun Q₂ hQ₂ => ?_
    refine wpAny_If (isTrue_plain (ldS S₂₁ (by walk_at "mem") (PyProof.Rows.truthy_int ?_)))
    by_cases hk : k1 = 0
    · subst hk
      refine ifno (by simp) ?_
      rw [flat_snoc, tp_zero, List.append_nil] at ps
      subst hQ₂
      exact wpAny_execs_nil ⟨rfl, _, _, _, nv, nn, N, rfl, S₂₁, Store.Sub.refl _, rN, hN, by lia, ps⟩
    · refine ifso (by simp; lia) ?_
      subst hQ₂
      refine seqS (appendStS (a := na) (vs := nv) (n := nn) (ow := fun v => [(na, lstO (nv ++ [v]) (nn + 1)), (dx, od)]) (d := dTri (i1, j1, k1)) S₂₁ (by walk_at "mem") (fun v => .head) (by rw [sizeLine_eq]; lia) (Tuple_ (args_cons (ldS S₂₁ (by walk_at "mem") (args_cons (ldS S₂₁ (by walk_at "mem") (args_cons (ldS S₂₁ (by walk_at "mem") (args_nil ?_)))))))) fun v h₆ G₆ t₆ S₆ g₆ r₆ => wpAny_execs_nil ⟨rfl, _, _, _, _, _, N ++ [(i1, j1, k1)], rfl, S₆, g₆, ?_, ?_, ?_, ps⟩)
      · exact tupS S₂₁ (.cons (.int _ _) (.cons (.int _ _) (.cons (.int _ _) .nil))) fun h' G' v S' g' r' => ⟨_, _, _, rfl, S', g', r'⟩
      · rw [List.map_append]; exact (rN.mono g₆).app (.cons r₆ .nil)
      · intro f hf
        rcases List.mem_append.mp hf with q | q
        · exact hN f q
        · simp at q; subst q; show 0 < k1; lia
      · simp; lia
  · rintro f s' ⟨rfl, h₂₂, G₂₂, t₂₂, nv', nn', N', rfl, S₂₂, g₂₂, rN', hN', hNl', ps'⟩
    have rNl' := rN'.length
    rw [List.length_map] at rNl'
    have g22 := g21.trans g₂₂
    refine seqS (appendStS (a := na) (vs := nv') (n := nn') (ow := fun v => [(na, lstO (nv' ++ [v]) (nn' + 1)), (dx, od)]) (d := dTri (as.length, bs.length, 0)) S₂₂ (by walk_at "mem") (fun v => .head) (by rw [sizeLine_eq]; lia) (Tuple_ (args_cons (ldS S₂₂ (by walk_at "mem") (args_cons (ldS S₂₂ (by walk_at "mem") (args_cons (conI fun tk7 tu7 => args_nil ?_))))))) fun v h₂₃ G₂₃ t₂₃ S₂₃ g₂₃ r₂₃ => ?_)
    · exact tupS S₂₂ (.cons (.int _ _) (.cons (.int _ _) (.cons (.int _ _) .nil))) fun h' G' v S' g' r' => ⟨_, _, _, rfl, S', g', r'⟩
    obtain ⟨S₂₄, g₂₄⟩ := S₂₃.freeze (a := na) .head
    refine seqS (plainObj_wpAny_Assign_Attribute (Call_ (biS S₂₄ nz_list bb_list (PyProof.Rows.callWith_type1 (args_cons (Call_ (biS S₂₄ nz_map bb_map (PyProof.Rows.callWith_type1 (args_cons (Attribute_any_ (glS S₂₄ gl_Match (boundMake S₂₄ fun h₂₅ G₂₅ t₂₅ mm S₂₅ g₂₅ e₂₅ => args_cons (ldS S₂₅ (by walk_at "mem") (args_nil ?_))))))))))))))
    refine mapMake S₂₅ (g₂₅ _ _ Store.put_self) fun h₂₆ mo to it oi S₂₆ hi => args_nil ?_
    refine listMap S₂₆ hi (by exact hh) (by show A.depth + 1 < _; lia) (bs := N' ++ [(as.length, bs.length, 0)]) (by simp; lia) (g₂₅ _ _ Store.put_self) ?_ e₂₅ fun h₂₇ G₂₇ t₂₇ rl ws c S₂₇ g₂₇ hf₂₇ => ?_
    · rw [List.map_append]
      exact ((rN'.mono g₂₃).app (.cons r₂₃ .nil)).mono (g₂₄.trans g₂₅)
    have g27 := g22.trans (g₂₃.trans (g₂₄.trans (g₂₅.trans g₂₇)))
    obtain ⟨S₂₈, g₂₈⟩ := S₂₇.freeze (a := rl) .head
    refine ldS S₂₈ (by walk_at "mem") (setA S₂₈ (S₂₈.gin _ _ ((g27.trans g₂₈) _ _ hx)) (fun o' => .head) D (name := aMB) (by walk_at "set") mAt_nd (by decide +kernel) (Nat.le_of_ble_eq_true rfl) fun h₂₉ t₂₉ o₂₉ S₂₉ D₂₉ => ?_)
    refine seqS (wpAny_Return_some (attrS S₂₉ (by walk_at "mem") (selfAt S₂₉ ((g27.trans g₂₈) _ _ hx) (.head _) D₂₉ mAt_nd) (name := aMB) (by walk_at "mem") (by decide +kernel) rfl fun t₃₀ => ?_))
    exact k _ _ _ _ rl ws c N' (S.leave S₂₉) (g27.trans g₂₈) D₂₉ Store.put_self (hf₂₇.mono fun _ _ => IsM.mono g₂₈) hN' (by lia) ps'
end
noncomputable abbrev fd391 : FuncData := fnOf (Str.ofString "_law_row") (Str.ofString "_law_row") F391.1 F391.2.1 F391.2.2.1 Value.none Value.none Value.none (Value.str (Str.ofString "law_il0153_01") 821) none (Value.ref 390) Value.none
theorem K391 (P : Params) : (K P).lookup 391 = some ⟨.type "function", none, .func fd391, #[]⟩ := by rfl
theorem C391 (P : Params) : codeIn (K P) fd391.code fd391.qualname = true := by rfl
noncomputable abbrev LR (p r k : Option Value) : Loc := [(Str.ofString "places", p), (Str.ofString "row", r), (Str.ofString "k", k)]
noncomputable def n391 : List Str := [Str.ofString "places", Str.ofString "row", Str.ofString "k"]
noncomputable def rowFrom : Nat → List (List Int) → List Int
  | _, [] => []
  | k, p :: ps => (if k = 0 then [] else [10 * (k : Int)]) ++ p ++ rowFrom (k + 1) ps
theorem sum_le8 : ∀ (ps : List (List Int)), (∀ p ∈ ps, p.length ≤ 8) → (ps.map List.length).sum ≤ 8 * ps.length := by
  intro ps hps
  induction ps with
  | nil => exact Nat.zero_le _
  | cons p ps ih =>
    have h1 := hps p (.head _)
    have h2 := ih fun q hq => hps q (.tail _ hq)
    rw [List.map_cons, List.sum_cons, List.length_cons]; lia
theorem rowFrom_length : ∀ (k : Nat) (ps : List (List Int)), (rowFrom k ps).length ≤ ps.length + (ps.map List.length).sum
  | _, [] => by simp [rowFrom]
  | k, p :: ps => by
    have := rowFrom_length (k + 1) ps
    simp only [rowFrom, List.length_append, List.length_cons, List.map_cons, List.sum_cons]
    split <;> simp <;> lia
theorem rowFrom_take (ps : List (List Int)) (k : Nat) (hk : k < ps.length) : rowFrom 0 (ps.take (k + 1)) = rowFrom 0 (ps.take k) ++ (if k = 0 then [] else [10 * (k : Int)]) ++ ps[k] := by
  have key : ∀ (j k : Nat) (ps : List (List Int)) (hk : k < ps.length), rowFrom j (ps.take (k + 1)) = rowFrom j (ps.take k) ++ (if j + k = 0 then [] else [10 * ((j + k : Nat) : Int)]) ++ ps[k] := by
    intro j k
    induction k generalizing j with
    | zero => intro ps hk; cases ps with | nil => simp at hk | cons p ps => simp [rowFrom]
    | succ k ih =>
      intro ps hk
      cases ps with
      | nil => simp at hk
      | cons p ps =>
        have := ih (j + 1) ps (by simpa using hk)
        simp only [List.take_succ_cons, rowFrom, this, List.getElem_cons_succ]
        rw [show j + 1 + k = j + (k + 1) by lia]
        simp [List.append_assoc]
  simpa using key 0 k ps hk
section
variable {w : World} {env : Env} {G₀ G : Store} {h₀ h : Heap} {own : List (Addr × Obj)} {l : Loc} {A : Around} {E : Value → Shared → Prop} {s : Shared} {t : Nat}
theorem row_spec {v : Value} {places : List (List Int)} {Q : Value → Shared → Prop} (S : St w env G₀ h₀ own l G h) (hp : Rep G v (.list (places.map dInts))) (h4 : places.length = 4) (hs : ∀ p ∈ places, p.length ≤ 8) (hh : A.handled = none) (hroom : A.depth < recursionLimit)
    (k : ∀ v G' h' t', St w env G₀ h₀ own l G' h' → G.Sub G' → Rep G' v (dInts (rowFrom 0 places)) → Q v (mkS s h' t')) :
    wpAny (model pw w) A (call (.ref 391) [v]) Q E (mkS s h t) := by
  refine callS (names := n391) (l₁ := (LR (some v) none none)) S K391 C391 rfl (by rfl) (.cons .head .nil) (by decide +kernel) hroom fun h₁ t₁ S₁ => ?_
  refine seqS (setS (List_ (args_nil (listS S₁ .nil fun h₂ G₂ v₂ S₂ g₂ r₂ => stS S₂ (by walk_at "set") fun h₃ t₃ S₃ => ?_))))
  refine seqS (for_ (Call_ (biS S₃ nz_range bb_range (PyProof.Rows.callWith_type1 (args_cons (wpAny_Constant_int (args_nil ?_)))))))
  refine range1S (n := 4) S₃ (by decide) fun h₄ it t₄ S₄ => ?_
  refine for_iter (G₁ := G₂) (Iter.range (a := 0) (n := 4)) (by exact hh) (fun j G l own => own = [] ∧ ∃ rv kv, l = (LR (some v) (some rv) kv) ∧ Rep G rv (dInts (rowFrom 0 (places.take j)))) ?_ ?_ ?_ 4 0 rfl (by decide) rfl ⟨rfl, _, _, rfl, by simpa [rowFrom, dInts] using r₂⟩ S₄ (Store.Sub.refl _)
  · rintro j hj p G l own' h t x rfl hJ ⟨u, rfl⟩ S hG
    refine hideQ fun Q' hQ => ?_
    obtain ⟨rfl, rv, kv, rfl, hr⟩ := hJ
    have hj : j < 4 := hj
    have hjp : j < places.length := by lia
    refine wpAny_assign_Name (stS S (by walk_at "set") fun h₅ t₅ S₅ => ?_)
    refine seqS (setS (wpAny_BinOp (wpAny_BinOp (ldS S₅ (by walk_at "mem") (cutS (s := s) (d := dInts (if j = 0 then [] else [10 * (j : Int)])) S₅ ?_ fun v₆ h₆ G₆ t₆ S₆ g₆ r₆ => ?_)))))
    · refine wpAny_IfExp (wpAny_isTrue_Compare1 (ldS S₅ (by walk_at "mem") (wpAny_Constant_int (gt_int (wpAny_truthy_bool ?_)))))
      by_cases hj0 : j = 0
      · subst hj0
        exact List_ (args_nil (listS S₅ .nil fun h' G' v' S' g' r' => ⟨_, _, _, rfl, S', g', by simpa [dInts] using r'⟩))
      · rw [decide_eq_true (by lia : (0 : Int) + (j : Int) > 0), if_pos rfl, if_neg hj0]
        refine List_ (args_cons (wpAny_BinOp (wpAny_Constant_int (ldS S₅ (by walk_at "mem") (mul_int ?_ ?_)))))
        · refine args_nil (listS S₅ (.cons (.int _ _) .nil) fun h' G' v' S' g' r' => ⟨_, _, _, rfl, S', g', by simpa [dInts] using r'⟩)
        · exact IntMulOk.of_left (by decide +kernel)
    · have hpj := hs _ (List.getElem_mem hjp)
      have hsum : ((places.take j).map List.length).sum ≤ 8 * j := Nat.le_trans (sum_le8 _ fun p hp => hs p (List.mem_of_mem_take hp)) (Nat.mul_le_mul_left 8 (List.length_take_le _ _))
      have hrl := rowFrom_length 0 (places.take j)
      have htl : (places.take j).length ≤ j := List.length_take_le _ _
      have hif : (if j = 0 then ([] : List Int) else [10 * (j : Int)]).length ≤ 1 := by split <;> simp
      refine addListS S₆ (hr.mono g₆) r₆ ?_ fun h₇ G₇ v₇ S₇ g₇ r₇ => ?_
      · rw [List.length_map, List.length_map, sizeLine_eq]; lia
      · refine Subscript_ (ldS S₇ (by walk_at "mem") (ldS S₇ (by walk_at "mem") ?_))
        have g7 : G.Sub G₇ := g₆.trans g₇
        have g0 : _ := (g₂.trans hG).trans g7
        refine itemS (d := dInts places[j]) S₇ (hp.mono g0) (by lia) (by lia) ?_ fun x₈ r₈ => ?_
        · rw [show ((0 : Int) + (j : Int)).toNat = j by lia, List.getElem?_map, List.getElem?_eq_getElem hjp]; rfl
        · refine addListS S₇ r₇ r₈ ?_ fun h₉ G₉ v₉ S₉ g₉ r₉ => stS S₉ (by walk_at "set") fun h₁₀ t₁₀ S₁₀ => ?_
          · rw [List.length_append, List.length_map, List.length_map, List.length_map, sizeLine_eq]; lia
          · subst hQ
            refine wpAny_execs_nil ⟨_, _, [], _, _, rfl, S₁₀, hG.trans (g7.trans g₉), rfl, _, _, rfl, ?_⟩
            rw [rowFrom_take places j hjp]
            simpa [dInts] using r₉
  · rintro k G G' l own' ⟨rfl, rv, kv, rfl, hr⟩ g
    exact ⟨rfl, rv, kv, rfl, hr.mono g⟩
  · rintro G l own' h t ⟨rfl, rv, kv, rfl, hr⟩ S hG
    refine seqS (wpAny_Return_some (ldS S (by walk_at "mem") ?_))
    refine k _ _ _ _ (St.back ‹_› S) (g₂.trans hG) ?_
    rw [List.take_of_length_le (by rw [h4]; decide)] at hr
    exact hr
end
noncomputable abbrev fd398 : FuncData := fnOf (Str.ofString "_law_edits") (Str.ofString "_law_edits") F398.1 F398.2.1 F398.2.2.1 Value.none Value.none Value.none (Value.str (Str.ofString "law_il0153_01") 821) none (Value.ref 397) Value.none
theorem K398 (P : Params) : (K P).lookup 398 = some ⟨.type "function", none, .func fd398, #[]⟩ := by rfl
theorem C398 (P : Params) : codeIn (K P) fd398.code fd398.qualname = true := by rfl
noncomputable abbrev LE (o n e a w x : Option Value) : Loc := [(Str.ofString "old", o), (Str.ofString "new", n), (Str.ofString "edits", e), (Str.ofString "at", a), (Str.ofString "was", w), (Str.ofString "now", x)]
noncomputable def n398 : List Str := [Str.ofString "old", Str.ofString "new", Str.ofString "edits", Str.ofString "at", Str.ofString "was", Str.ofString "now"]
noncomputable abbrev sIns : Str := Str.ofString "insert"
noncomputable abbrev sRep : Str := Str.ofString "replace"
noncomputable abbrev sDel : Str := Str.ofString "delete"
noncomputable def ed1 (a : Int) (was now : List Int) : List Ed :=
  if was = now then [] else if was = now.take 1 then [⟨a + 1, a + 1, sIns, now.drop 1⟩] else if was = now.drop 1 then [⟨a, a, sIns, now.take 1⟩] else [⟨a, a + 1, if now ≠ [] then sRep else sDel, now⟩]
noncomputable def editsFrom : Int → List (List Int × List Int) → List Ed
  | _, [] => []
  | a, (was, now) :: r => ed1 a was now ++ editsFrom (a + was.length + 1) r
section
variable {w : World} {env : Env} {G₀ G : Store} {h₀ h : Heap} {own : List (Addr × Obj)} {l : Loc} {A : Around} {E : Value → Shared → Prop} {s : Shared} {t : Nat}
theorem drop1S {x : Str} {p1 p2 p3 p4 : Pos} {c : Nat} {v : Value} {ns : List Int} {Q : Value → Shared → Prop} (S : St w env G₀ h₀ own l G h) (hm : Has l x v) (r : Rep G v (dInts ns)) (hz : ns.length ≤ sizeLine)
    (k : ∀ h' G' v t', St w env G₀ h₀ own l G' h' → G.Sub G' → Rep G' v (dInts (ns.drop 1)) → Q v (mkS s h' t')) (hd : (x == ("__debug__" : Str)) = false := by decide +kernel) :
    wpAny (model pw w) A (eval (.Subscript (.Name x p1) (.Slice (some (.Constant (.int 1) c p2)) none none p3) p4) env) Q E (mkS s h t) := by
  refine Subscript_ (ldS S hm (wpAny_Slice (evalPart_some_step (wpAny_Constant_int (evalPart_none_step (evalPart_none_step ?_))))) hd)
  refine sliceS (t := t + 1) (es := (ns.drop 1).map .int) S r (.int 1 _) .none .none (by simp) (by simpa using hz) (fun vs ra => ?_) fun h' G' x S' g' r' => k _ _ _ _ S' g' r'
  rw [show (1 : Int) = ((1 : Nat) : Int) from rfl, slicePick_from', List.map_drop]
  simpa using ra.drop 1
theorem take1S {x : Str} {p1 p2 p3 p4 : Pos} {c : Nat} {v : Value} {ns : List Int} {Q : Value → Shared → Prop} (S : St w env G₀ h₀ own l G h) (hm : Has l x v) (r : Rep G v (dInts ns)) (hz : ns.length ≤ sizeLine)
    (k : ∀ h' G' v t', St w env G₀ h₀ own l G' h' → G.Sub G' → Rep G' v (dInts (ns.take 1)) → Q v (mkS s h' t')) (hd : (x == ("__debug__" : Str)) = false := by decide +kernel) :
    wpAny (model pw w) A (eval (.Subscript (.Name x p1) (.Slice none (some (.Constant (.int 1) c p2)) none p3) p4) env) Q E (mkS s h t) := by
  refine Subscript_ (ldS S hm (wpAny_Slice (evalPart_none_step (evalPart_some_step (wpAny_Constant_int (evalPart_none_step ?_))))) hd)
  refine sliceS (t := t + 1) (es := (ns.take 1).map .int) S r .none (.int 1 _) .none (by simp) (by simpa using hz) (fun vs ra => ?_) fun h' G' x S' g' r' => k _ _ _ _ S' g' r'
  rw [show (1 : Int) = ((1 : Nat) : Int) from rfl, slicePick_upto', List.map_take]
  simpa using ra.take 1
theorem ed1_one (a : Int) (was now : List Int) : (ed1 a was now).length ≤ 1 := by
  unfold ed1
  split
  · exact Nat.zero_le _
  · split
    · exact Nat.le_refl _
    · split <;> exact Nat.le_refl _
inductive JE1 (old new : List (List Int)) (v v' : Value) (ae : Addr) (j : Nat) (G : Store) (l : Loc) (own : List (Addr × Obj)) : Prop
  | mk (vs : List Value) (n : Nat) (a : Int) (u : Tok) (wv nv : Option Value) (acc : List Ed) (e1 : own = [(ae, lstO vs n)]) (e2 : RepAll G vs (acc.map dEd)) (e3 : acc ++ editsFrom a ((old.zip new).drop j) = editsFrom 0 (old.zip new)) (e4 : acc.length ≤ j) (e5 : l = (LE (some v) (some v') (some (Value.ref ae)) (some (Value.int a u)) wv nv))
inductive JE2 (s : Shared) (w : World) (h : Heap) (G G1 : Store) (p : List (Addr × Obj)) (ae : Addr) (v v' xw xn : Value) (a : Int) (u : Tok) (acc : List Ed) (was now : List Int) (f : Flow) (s' : Shared) : Prop
  | mk (e1 : f = .next) (h' : Heap) (G' : Store) (t' : Nat) (vs' : List Value) (n' : Nat) (e2 : s' = mkS s h' t') (e3 : St w (callEnv fd398 h.objs.size 398) G h (p ++ [(ae, lstO vs' n')]) (LE (some v) (some v') (some (Value.ref ae)) (some (Value.int a u)) (some xw) (some xn)) G' h') (e4 : G1.Sub G') (e5 : RepAll G' vs' ((acc ++ ed1 a was now).map dEd))
set_option maxHeartbeats 4000000 in
theorem edits_spec {v v' : Value} {old new : List (List Int)} {Q : Value → Shared → Prop} (S : St w env G₀ h₀ own l G h) (hp : Rep G v (.list (old.map dInts))) (hp' : Rep G v' (.list (new.map dInts))) (h4 : old.length = 4) (h4' : new.length = 4)
    (hs : ∀ p ∈ old, p.length ≤ 8) (hs' : ∀ p ∈ new, p.length ≤ 8) (hh : A.handled = none) (hroom : A.depth < recursionLimit) (hu : A.units + 100 < cLine)
    (k : ∀ v G' h' t', St w env G₀ h₀ own l G' h' → G.Sub G' → Rep G' v (dEds (editsFrom 0 (old.zip new))) → Q v (mkS s h' t')) :
    wpAny (model pw w) A (call (.ref 398) [v, v']) Q E (mkS s h t) := by
  have hu64 : A.units + 3 + 64 < cLine := by lia
  refine callS (names := n398) (l₁ := (LE (some v) (some v') none none none none)) S K398 C398 rfl (by rfl) (.cons .head (.cons (.tail .head) .nil)) (by decide +kernel) hroom fun h₁ t₁ S₁ => ?_
  refine seqS (setS (List_ (args_nil (listOwn S₁ fun h₂ ae S₂ => stS S₂ (by walk_at "set") fun h₃ t₃ S₃ => ?_))))
  refine seqS (setS (wpAny_Constant_int (stS S₃ (by walk_at "set") fun h₄ t₄ S₄ => ?_)))
  refine seqS (for_ (Call_ (biS S₄ nz_zip bb_zip (PyProof.Rows.callWith_type1 (args_cons (ldS S₄ (by walk_at "mem") (args_cons (ldS S₄ (by walk_at "mem") (args_nil ?_)))))))))
  refine zip2S (elts := [.Name (Str.ofString "was") ⟨621, 8, 621, 11⟩, .Name (Str.ofString "now") ⟨621, 13, 621, 16⟩]) (x1 := 0) (pos := ⟨621, 8, 621, 16⟩) S₄ hp hp' (n := 4) (by simpa using h4) (by simpa using h4') fun h₅ p it Part I hP S₅ => ?_
  refine for_iter (G₁ := G) I (by exact hh) (JE1 old new v v' ae) ?_ ?_ ?_ 4 0 rfl (by decide) hP ⟨[], 0, 0, _, none, none, [], rfl, .nil, rfl, Nat.le_refl _, rfl⟩ S₅ (Store.Sub.refl _)
  · rintro j hj p G1 l own1 hb tb x hPk hJ ⟨d, e, hd, he, rx⟩ S hG
    refine hideQ fun Q' hQ' => ?_
    obtain ⟨vs, n, a, u, wv, nv, acc, rfl, hacc, heq, hal, rfl⟩ := hJ
    have hj : j < 4 := hj
    have hjo : j < old.length := by lia
    have hjn : j < new.length := by lia
    rw [List.getElem?_map, List.getElem?_eq_getElem hjo, Option.map_some, Option.some.injEq] at hd
    rw [List.getElem?_map, List.getElem?_eq_getElem hjn, Option.map_some, Option.some.injEq] at he
    subst hd he
    have hwl := hs _ (List.getElem_mem hjo)
    have hnl := hs' _ (List.getElem_mem hjn)
    have hz : (old.zip new).drop j = (old[j], new[j]) :: (old.zip new).drop (j + 1) := by
      rw [List.drop_eq_getElem_cons (by rw [List.length_zip]; lia), List.getElem_zip]
    rw [hz, editsFrom] at heq
    generalize old[j] = was at *
    generalize new[j] = now at *
    refine unpackS S rx (by exact hh) (by rfl) (by rfl) fun h₆ vs₆ S₆ r₆ => ?_
    obtain ⟨xw, xn, rfl, rw₆, rn₆⟩ := r₆.two
    refine inOrder_cons (wpAny_assign_Name (stS S₆ (by walk_at "set") fun h₇ t₇ S₇ => inOrder_cons (wpAny_assign_Name (stS S₇ (by walk_at "set") fun h₈ t₈ S₈ => inOrder_nil ?_))))
    refine seqS (wpAny_mono (Q := (JE2 s w h G G1 p ae v v' xw xn a u acc was now)) ?_ ?_ fun _ _ x => x)
    · refine hideV fun Q₂ hQ₂ => ?_
      have ownTo : ∀ (x : Value), OwnTo (p ++ [(ae, lstO vs n)]) ae (lstO vs n) (lstO (vs ++ [x]) (n + 1)) (p ++ [(ae, lstO (vs ++ [x]) (n + 1))]) := fun x => by
        exact ownTail p
      have hvl : vs.length ≤ sizeLine := by
        have := hacc.length; rw [List.length_map] at this; rw [sizeLine_eq]; lia
      have done : ∀ h' G' t' (x : Value) (e : Ed), St w (callEnv fd398 h.objs.size 398) G h (p ++ [(ae, lstO (vs ++ [x]) (n + 1))]) (LE (some v) (some v') (some (Value.ref ae)) (some (Value.int a u)) (some xw) (some xn)) G' h' → G1.Sub G' → Rep G' x (dEd e) → ed1 a was now = [e] →
          Q₂ .next (mkS s h' t') := fun h' G' t' x e S' g' r' he => by
        subst hQ₂
        exact ⟨rfl, h', G', t', vs ++ [x], n + 1, rfl, S', g', by rw [he, List.map_append]; exact (hacc.mono g').app (.cons r' .nil)⟩
      refine wpAny_If (wpAny_isTrue_Compare1 (ldS S₈ (by walk_at "mem") (ldS S₈ (by walk_at "mem") (neS (n := 1) S₈ rw₆ rn₆ (nice_ints 0 _) (nice_ints 0 _) (by decide) hu64 fun b hb' => wpAny_truthy_bool ?_))))
      cases b with
      | false =>
        have hwn : was = now := by
          by_cases q : was = now
          · exact q
          · exact absurd (hb'.mpr fun e => q (dInts_inj.mp e)) (by decide)
        subst hQ₂
        refine wpAny_execs_nil ⟨rfl, _, _, _, vs, n, rfl, S₈, Store.Sub.refl _, ?_⟩
        rw [ed1, if_pos hwn, List.append_nil]; exact hacc
      | true =>
        have hwn : was ≠ now := fun q => hb'.mp rfl (dInts_inj.mpr q)
        have hnz : now.length ≤ sizeLine := by rw [sizeLine_eq]; lia
        refine seqS (wpAny_If (wpAny_isTrue_Compare1 (ldS S₈ (by walk_at "mem") (take1S S₈ (by walk_at "mem") rn₆ hnz fun h₉ G₉ v₉ t₉ S₉ g₉ r₉ => eqS (n := 1) S₉ (rw₆.mono g₉) r₉ (nice_ints 0 _) (nice_ints 0 _) (by decide) hu64 fun b hb1 => wpAny_truthy_bool ?_))))
        cases b with
        | true =>
          have h1 : was = now.take 1 := dInts_inj.mp (hb1.mp rfl)
          refine seqS (appendStS (d := dEd ⟨a + 1, a + 1, sIns, now.drop 1⟩) S₉ (by walk_at "mem") ownTo hvl ?_ fun x h' G' t' S' g' r' => wpAny_execs_nil (wpAny_execs_nil (done _ _ _ x _ S' (g₉.trans g') r' (by rw [ed1, if_neg hwn, if_pos h1]))))
          refine Tuple_ (args_cons (wpAny_BinOp (ldS S₉ (by walk_at "mem") (wpAny_Constant_int (addK ?_)))))
          refine args_cons (wpAny_BinOp (ldS S₉ (by walk_at "mem") (wpAny_Constant_int (addK ?_))))
          refine args_cons (Calls.Constant_str ?_)
          refine args_cons (drop1S S₉ (by walk_at "mem") (rn₆.mono g₉) hnz fun h' G' x t' S' g' r' => args_nil ?_)
          refine tupS S' (.cons (.int _ _) (.cons (.int _ _) (.cons (.str _ _) (.cons r' .nil)))) fun h' G' v S' g'' r' => ?_
          exact ⟨_, _, _, rfl, S', g'.trans g'', r'⟩
        | false =>
          have h1 : ¬ was = now.take 1 := fun q => absurd (hb1.mpr (dInts_inj.mpr q)) (by decide)
          refine seqS (wpAny_If (wpAny_isTrue_Compare1 (ldS S₉ (by walk_at "mem") (drop1S S₉ (by walk_at "mem") (rn₆.mono g₉) hnz fun h₁₀ G₁₀ v₁₀ t₁₀ S₁₀ g₁₀ r₁₀ => eqS (n := 1) S₁₀ (rw₆.mono (g₉.trans g₁₀)) r₁₀ (nice_ints 0 _) (nice_ints 0 _) (by decide) hu64 fun b hb2 => wpAny_truthy_bool ?_))))
          have g10 := g₉.trans g₁₀
          cases b with
          | true =>
            have h2 : was = now.drop 1 := dInts_inj.mp (hb2.mp rfl)
            refine seqS (appendStS (d := dEd ⟨a, a, sIns, now.take 1⟩) S₁₀ (by walk_at "mem") ownTo hvl ?_ fun x h' G' t' S' g' r' => wpAny_execs_nil (wpAny_execs_nil (wpAny_execs_nil (done _ _ _ x _ S' (g10.trans g') r' (by rw [ed1, if_neg hwn, if_neg h1, if_pos h2])))))
            refine Tuple_ (args_cons (ldS S₁₀ (by walk_at "mem") (args_cons (ldS S₁₀ (by walk_at "mem") (args_cons (Calls.Constant_str ?_))))))
            refine args_cons (take1S S₁₀ (by walk_at "mem") (rn₆.mono g10) hnz fun h' G' x t' S' g' r' => args_nil ?_)
            refine tupS S' (.cons (.int _ _) (.cons (.int _ _) (.cons (.str _ _) (.cons r' .nil)))) fun h' G' v S' g'' r' => ?_
            exact ⟨_, _, _, rfl, S', g'.trans g'', r'⟩
          | false =>
            have h2 : ¬ was = now.drop 1 := fun q => absurd (hb2.mpr (dInts_inj.mpr q)) (by decide)
            refine seqS (appendStS (d := dEd ⟨a, a + 1, if now ≠ [] then sRep else sDel, now⟩) S₁₀ (by walk_at "mem") ownTo hvl ?_ fun x h' G' t' S' g' r' => wpAny_execs_nil (wpAny_execs_nil (wpAny_execs_nil (done _ _ _ x _ S' (g10.trans g') r' (by rw [ed1, if_neg hwn, if_neg h1, if_neg h2])))))
            refine Tuple_ (args_cons (ldS S₁₀ (by walk_at "mem") (args_cons (wpAny_BinOp (ldS S₁₀ (by walk_at "mem") (wpAny_Constant_int (addK ?_)))))))
            refine args_cons (cutS (s := s) (d := .str (if now ≠ [] then sRep else sDel)) S₁₀ ?_ fun v₁₁ h₁₁ G₁₁ t₁₁ S₁₁ g₁₁ r₁₁ => ?_)
            · refine wpAny_IfExp (wpAny_isTrue_Compare1 (ldS S₁₀ (by walk_at "mem") (List_ (args_nil (listS S₁₀ .nil fun h' G' v' S' g' r' => neS (n := 1) S' (rn₆.mono (g10.trans g')) (show Rep G' v' (dInts []) from r') (nice_ints 0 _) (nice_ints 0 _) (by decide) hu64 fun b hb3 => wpAny_truthy_bool ?_)))))
              cases b with
              | true =>
                have h3 : now ≠ [] := fun q => hb3.mp rfl (dInts_inj.mpr q)
                rw [if_pos h3]
                exact Calls.Constant_str ⟨_, _, _, rfl, S', g', .str _ _⟩
              | false =>
                have h3 : ¬ now ≠ [] := fun q => absurd (hb3.mpr fun e => q (dInts_inj.mp e)) (by decide)
                rw [if_neg h3]
                exact Calls.Constant_str ⟨_, _, _, rfl, S', g', .str _ _⟩
            · refine args_cons (ldS S₁₁ (by walk_at "mem") (args_nil ?_))
              refine tupS S₁₁ (.cons (.int _ _) (.cons (.int _ _) (.cons r₁₁ (.cons (rn₆.mono (g10.trans g₁₁)) .nil)))) fun h' G' v S' g'' r' => ?_
              exact ⟨_, _, _, rfl, S', g₁₁.trans g'', r'⟩
    · rintro f s' ⟨rfl, h', G', t', vs', n', rfl, S', g', r'⟩
      refine seqS (setS (wpAny_BinOp (wpAny_BinOp (ldS S' (by walk_at "mem") ?_))))
      refine Call_ (biS S' nz_len bb_len (PyProof.Rows.callWith_builtin1 (args_cons (ldS S' (by walk_at "mem") (args_nil ?_)))))
      refine lenS S' (rw₆.mono g') ?_ fun u t'' => ?_
      · rw [List.length_map]; lia
      · refine addK (wpAny_Constant_int (addK (stS S' (by walk_at "set") fun h₁₂ t₁₂ S₁₂ => wpAny_execs_nil ?_)))
        subst hQ'
        refine ⟨_, _, _, _, _, rfl, S₁₂, hG.trans g', vs', n', _, _, _, _, _, rfl, r', ?_, ?_, rfl⟩
        · rw [List.append_assoc, List.length_map]; exact heq
        · have := ed1_one a was now
          rw [List.length_append]; lia
  · rintro j G1 G2 l own1 ⟨vs, n, a, u, wv, nv, acc, rfl, hacc, heq, hal, rfl⟩ g
    exact ⟨vs, n, a, u, wv, nv, acc, rfl, hacc.mono g, heq, hal, rfl⟩
  · rintro G1 l own1 h t ⟨vs, n, a, u, wv, nv, acc, rfl, hacc, heq, hal, rfl⟩ S hG
    refine seqS (wpAny_Return_some (ldS S (by walk_at "mem") ?_))
    obtain ⟨S', g'⟩ := S.freeze .head
    refine k _ _ _ _ (St.back ‹_› S') (hG.trans g') ?_
    rw [List.drop_of_length_le (by rw [List.length_zip, h4, h4']; decide), editsFrom, List.append_nil] at heq
    rw [← heq]
    exact .list Store.put_self rfl rfl (by simpa using hacc.mono g')
end
noncomputable abbrev fd408 : FuncData := fnOf (Str.ofString "_law_hands") (Str.ofString "_law_hands") F408.1 F408.2.1 F408.2.2.1 Value.none Value.none Value.none (Value.str (Str.ofString "law_il0153_01") 821) none (Value.ref 407) Value.none
theorem K408 (P : Params) : (K P).lookup 408 = some ⟨.type "function", none, .func fd408, #[]⟩ := by rfl
theorem C408 (P : Params) : codeIn (K P) fd408.code fd408.qualname = true := by rfl
noncomputable abbrev nScript : Str := Str.ofString "script"
noncomputable abbrev nBase : Str := Str.ofString "base"
noncomputable abbrev nOurs : Str := Str.ofString "ours"
noncomputable abbrev nTheirs : Str := Str.ofString "theirs"
noncomputable abbrev LH (s b o t k x w m : Option Value) : Loc := [(nScript, s), (nBase, b), (nOurs, o), (nTheirs, t), (Str.ofString "k", k), (Str.ofString "x", x), (Str.ofString "was", w), (Str.ofString "made", m)]
noncomputable def n408 : List Str := [nScript, nBase, nOurs, nTheirs, Str.ofString "k", Str.ofString "x", Str.ofString "was", Str.ofString "made"]
noncomputable def wasOf (x : Int) (k : Nat) : List Int := if x.fmod 2 = 1 then [10 * (k : Int) + 1] else []
noncomputable def made6 (x : Int) (k : Nat) : List (List Int) := [wasOf x k, [], [10 * (k : Int) + 2], [10 * (k : Int) + 3], wasOf x k ++ [10 * (k : Int) + 2], [10 * (k : Int) + 3] ++ wasOf x k]
noncomputable def oursOf (x : Int) (k : Nat) : List Int := (made6 x k).getD ((x.fdiv 2).fmod 6).toNat []
noncomputable def theirsOf (x : Int) (k : Nat) : List Int := (made6 x k ++ [oursOf x k]).getD ((x.fdiv 12).fmod 7).toNat []
noncomputable def xOf (ns : List Int) (k : Nat) : Int := ([27, 80, 5, 50] : List Int).getD k 0 + sumI ((pickNums ns (some (k : Int)) (some 16) (some 4)).map (·.fmod 84))
noncomputable def baseL (ns : List Int) (j : Nat) : List (List Int) := (List.range j).map fun k => wasOf (xOf ns k) k
noncomputable def oursL (ns : List Int) (j : Nat) : List (List Int) := (List.range j).map fun k => oursOf (xOf ns k) k
noncomputable def theirsL (ns : List Int) (j : Nat) : List (List Int) := (List.range j).map fun k => theirsOf (xOf ns k) k
section
variable {w : World} {env : Env} {G₀ G : Store} {h₀ h : Heap} {own : List (Addr × Obj)} {l : Loc} {A : Around} {E : Value → Shared → Prop} {s : Shared} {t : Nat}
theorem tenS {y : Str} {c : Int} {c1 c2 : Nat} {p1 p2 p3 p4 p5 p6 : Pos} {j : Int} {u : Tok} {Q : Value → Shared → Prop} (S : St w env G₀ h₀ own l G h) (hm : Has l y (.int j u))
    (k : ∀ h' G' v t', St w env G₀ h₀ own l G' h' → G.Sub G' → Rep G' v (dInts [10 * j + c]) → Q v (mkS s h' t')) (hd : (y == ("__debug__" : Str)) = false := by decide +kernel) :
    wpAny (model pw w) A (eval (.List [.BinOp (.BinOp (.Constant (.int 10) c1 p1) .Mult (.Name y p2) p3) .Add (.Constant (.int c) c2 p4) p5] p6) env) Q E (mkS s h t) := by
  refine List_ (args_cons (wpAny_BinOp (wpAny_BinOp (wpAny_Constant_int (ldS S hm (mul_int (wpAny_Constant_int (addK (args_nil ?_))) (IntMulOk.of_left (by decide +kernel))) hd)))))
  exact listS S (.cons (.int _ _) .nil) fun h' G' v S' g' r' => k _ _ _ _ S' g' r'
inductive JH (ns : List Int) (v : Value) (ah ao ab : Addr) (j : Nat) (G : Store) (l : Loc) (own : List (Addr × Obj)) : Prop
  | mk (v1 v2 v3 : List Value) (m1 m2 m3 : Nat) (kv xv wv mv : Option Value) (e1 : own = [(ah, lstO v3 m3), (ao, lstO v2 m2), (ab, lstO v1 m1)]) (e2 : RepAll G v1 ((baseL ns j).map dInts)) (e3 : RepAll G v2 ((oursL ns j).map dInts)) (e4 : RepAll G v3 ((theirsL ns j).map dInts)) (e5 : l = (LH (some v) (some (Value.ref ab)) (some (Value.ref ao)) (some (Value.ref ah)) kv xv wv mv))
set_option maxHeartbeats 4000000 in
theorem hands_spec {v : Value} {ns : List Int} {Q : Value → Shared → Prop} (S : St w env G₀ h₀ own l G h) (hp : Rep G v (dInts ns)) (hl : ns.length ≤ 1000) (hh : A.handled = none) (hroom : A.depth < recursionLimit)
    (k : ∀ v G' h' t', St w env G₀ h₀ own l G' h' → G.Sub G' → Rep G' v (.tuple [.list ((baseL ns 4).map dInts), .list ((oursL ns 4).map dInts), .list ((theirsL ns 4).map dInts)]) → Q v (mkS s h' t')) :
    wpAny (model pw w) A (call (.ref 408) [v]) Q E (mkS s h t) := by
  refine callS (names := n408) (l₁ := (LH (some v) none none none none none none none)) S K408 C408 rfl (by rfl) (.cons .head .nil) (by decide +kernel) hroom fun h₁ t₁ S₁ => ?_
  refine seqS (Assign_Tuple_swapped (names := [nBase, nOurs, nTheirs]) (Tuple_ (args_cons (List_ (args_nil (listOwn S₁ fun h₂ ab S₂ => args_cons (List_ (args_nil (listOwn S₂ fun h₃ ao S₃ => args_cons (List_ (args_nil (listOwn S₃ fun h₄ ah S₄ => args_nil ?_))))))))))))
  refine tupUnpack S₄ (by exact hh) rfl fun h₅ S₅ => ?_
  refine inOrder_cons (bindS S₅ (by walk_at "set") fun h₆ t₆ S₆ => inOrder_cons (bindS S₆ (by walk_at "set") fun h₇ t₇ S₇ => inOrder_cons (bindS S₇ (by walk_at "set") fun h₈ t₈ S₈ => inOrder_nil ?_)))
  refine seqS (for_ (Call_ (biS S₈ nz_range bb_range (PyProof.Rows.callWith_type1 (args_cons (wpAny_Constant_int (args_nil ?_)))))))
  refine range1S (n := 4) S₈ (by decide) fun h₄ it t₄ S₄ => ?_
  refine for_iter (G₁ := G) (Iter.range (a := 0) (n := 4)) (by exact hh) (JH ns v ah ao ab) ?_ ?_ ?_ 4 0 rfl (by decide) rfl ⟨[], [], [], 0, 0, 0, none, none, none, none, rfl, .nil, .nil, .nil, rfl⟩ S₄ (Store.Sub.refl _)
  · rintro j hj p G1 l own1 hb tb x rfl hJ ⟨u, hx⟩ S hG
    refine hideQ fun Q' hQ' => ?_
    obtain ⟨v1, v2, v3, m1, m2, m3, kv, xv, wv, mv, rfl, r1, r2, r3, rfl⟩ := hJ
    rw [Int.zero_add] at hx
    subst hx
    have hj : j < 4 := hj
    refine wpAny_assign_Name (stS S (by walk_at "set") fun h₉ t₉ S₉ => ?_)
    refine seqS (setS (wpAny_BinOp (Subscript_ (List_ (args_cons (wpAny_Constant_int (args_cons (wpAny_Constant_int (args_cons (wpAny_Constant_int (args_cons (wpAny_Constant_int (args_nil ?_)))))))))))))
    refine listS S₉ (.cons (.int _ _) (.cons (.int _ _) (.cons (.int _ _) (.cons (.int _ _) .nil)))) fun h₁₀ G₁₀ v₁₀ S₁₀ g₁₀ r₁₀ => ?_
    refine ldS S₁₀ (by walk_at "mem") ?_
    refine itemTmpS (d := .int (([27, 80, 5, 50] : List Int).getD j 0)) S₁₀ r₁₀ (by lia) (by lia) ?_ fun x₁₁ r₁₁ => ?_
    · obtain rfl | rfl | rfl | rfl : j = 0 ∨ j = 1 ∨ j = 2 ∨ j = 3 := by lia
      all_goals rfl
    obtain ⟨tk, rfl⟩ := r₁₁.intv
    refine Call_ (biS S₁₀ nz_sum bb_sum (PyProof.Rows.callWith_builtin1 (args_cons ?_)))
    have g0 := hG.trans g₁₀
    refine cutS (s := s) (d := dInts ((pickNums ns (some (j : Int)) (some 16) (some 4)).map (·.fmod 84))) S₁₀ ?_ fun v₁₂ h₁₂ G₁₂ t₁₂ S₁₂ g₁₂ r₁₂ => ?_
    · refine wpAny_ListComp (by decide) rfl (by decide) (Subscript_ (ldS S₁₀ (by walk_at "mem") (wpAny_Slice (evalPart_some_step (ldS S₁₀ (by walk_at "mem") (evalPart_some_step (wpAny_Constant_int (evalPart_some_step (wpAny_Constant_int ?_)))))))))
      refine slice3S (es := (pickNums ns (some (j : Int)) (some 16) (some 4)).map .int) S₁₀ (hp.mono g0) (.int _ _) (.int _ _) (.int _ _) (by simp) (by rw [List.length_map, sizeLine_eq]; lia) (fun vs ra => IntsAre.rep (ra.ints.pick _ _ _)) fun h₁₁ G₁₁ v₁₁ S₁₁ g₁₁ r₁₁ => ?_
      refine iterS (target := .Name (Str.ofString "n") ⟨637, 49, 637, 50⟩) S₁₁ r₁₁ fun h₁₂ p it Part I hP S₁₂ hag => ?_
      have hpl := pickNums_le ns (some (j : Int)) (some 16) (some 4)
      refine compTail (names := [Str.ofString "n"]) (dat := fun i => .int (((pickNums ns (some (j : Int)) (some 16) (some 4)).getD i 0).fmod 84)) I (by exact hh) (Store.Sub.refl _) hP S₁₂ (by rw [List.length_map]; lia) hag (by decide +kernel) (by decide) ?_ ?_
      · intro L G₁ h₁ i hi own₁ G₂ h₂ t₂ vals v hv hitem hG2 S₂
        obtain ⟨o, rfl⟩ : ∃ o, vals = [o] := by
          cases vals with
          | nil => cases hv
          | cons a r => cases r with
            | nil => exact ⟨a, rfl⟩
            | cons => cases hv
        obtain ⟨d, hd, rv⟩ := hitem
        rw [List.length_map] at hi
        rw [List.getElem?_map, List.getElem?_eq_getElem hi] at hd
        obtain rfl := Option.some.inj hd
        obtain ⟨tn, rfl⟩ := rv.intv
        refine wpAny_assign_Name (stS (l' := [(Str.ofString "n", some (.int (pickNums ns (some (j : Int)) (some 16) (some 4))[i] tn))]) S₂ .head fun h₅ t₅ S₅ => ?_)
        refine wpAny_BinOp (ldS S₅ .head (wpAny_Constant_int (mod_int' (by decide) ?_)))
        refine ⟨_, _, _, [_], rfl, S₅, rfl, Store.Sub.refl _, ?_⟩
        rw [List.getD_eq_getElem?_getD, List.getElem?_eq_getElem hi]
        exact .int _ _
      · intro h' G' v t' S' g' r'
        refine ⟨_, _, _, rfl, S', g₁₁.trans g', ?_⟩
        have e : (List.range (List.map PyData.int (pickNums ns (some (j : Int)) (some 16) (some 4))).length).map (fun i => PyData.int (((pickNums ns (some (j : Int)) (some 16) (some 4)).getD i 0).fmod 84)) = ((pickNums ns (some (j : Int)) (some 16) (some 4)).map (·.fmod 84)).map .int := by
          refine List.ext_getElem (by simp) fun i h1 h2 => ?_
          have hi : i < (pickNums ns (some (j : Int)) (some 16) (some 4)).length := by simpa using h1
          simp [hi]
        rw [e] at r'
        exact r'
    refine args_nil (sumS S₁₂ (by exact hh) r₁₂ fun h₁₃ u₁₃ t₁₃ S₁₃ => addK ?_)
    have ex : ([27, 80, 5, 50] : List Int).getD j 0 + sumI ((pickNums ns (some (j : Int)) (some 16) (some 4)).map (·.fmod 84)) = xOf ns j := rfl
    rw [ex]
    have hb1 : baseL ns (j + 1) = baseL ns j ++ [wasOf (xOf ns j) j] := by simp [baseL, List.range_succ]
    have hb2 : oursL ns (j + 1) = oursL ns j ++ [oursOf (xOf ns j) j] := by simp [oursL, List.range_succ]
    have hb3 : theirsL ns (j + 1) = theirsL ns j ++ [theirsOf (xOf ns j) j] := by simp [theirsL, List.range_succ]
    generalize xOf ns j = x at hb1 hb2 hb3 ⊢
    refine stS S₁₃ (by walk_at "set") fun h₁₄ t₁₄ S₁₄ => ?_
    have g12 := g₁₀.trans g₁₂
    refine seqS (setS (cutS (s := s) (d := dInts (wasOf x j)) S₁₄ ?_ fun vw h₁₅ G₁₅ t₁₅ S₁₅ g₁₅ rw₁₅ => stS S₁₅ (by walk_at "set") fun h₁₆ t₁₆ S₁₆ => ?_))
    · refine wpAny_IfExp (wpAny_isTrue_Compare1 (wpAny_BinOp (ldS S₁₄ (by walk_at "mem") (wpAny_Constant_int (mod_int' (by decide) (wpAny_Constant_int (PyProof.Rows.eq_int (wpAny_truthy_bool ?_))))))))
      by_cases hx : x.fmod 2 = 1
      · rw [wasOf, if_pos hx, show (x.fmod 2 == 1) = true by simp [hx], if_pos rfl]
        exact tenS S₁₄ (by walk_at "mem") fun h' G' v t' S' g' r' => ⟨_, _, _, rfl, S', g', r'⟩
      · rw [wasOf, if_neg hx, show (x.fmod 2 == 1) = false by simp [hx], if_neg (by decide)]
        exact List_ (args_nil (listS S₁₄ .nil fun h' G' v' S' g' r' => ⟨_, _, _, rfl, S', g', by simpa [dInts] using r'⟩))
    have hwl : (wasOf x j).length ≤ 1 := by unfold wasOf; split <;> simp
    refine seqS (setS (List_ (args_cons (ldS S₁₆ (by walk_at "mem") (args_cons (List_ (args_nil (listS S₁₆ .nil fun h₁₇ G₁₇ v₁₇ S₁₇ g₁₇ r₁₇ => ?_))))))))
    refine args_cons (tenS S₁₇ (by walk_at "mem") fun h₁₈ G₁₈ v₁₈ t₁₈ S₁₈ g₁₈ r₁₈ => args_cons (tenS S₁₈ (by walk_at "mem") fun h₁₉ G₁₉ v₁₉ t₁₉ S₁₉ g₁₉ r₁₉ => ?_))
    have g19 := g₁₇.trans (g₁₈.trans g₁₉)
    refine args_cons (wpAny_BinOp (ldS S₁₉ (by walk_at "mem") (tenS S₁₉ (by walk_at "mem") fun h₂₀ G₂₀ v₂₀ t₂₀ S₂₀ g₂₀ r₂₀ => addListS S₂₀ (rw₁₅.mono (g19.trans g₂₀)) r₂₀ (by rw [List.length_map, sizeLine_eq]; simp; lia) fun h₂₁ G₂₁ v₂₁ S₂₁ g₂₁ r₂₁ => ?_)))
    have g21 := g₂₀.trans g₂₁
    refine args_cons (wpAny_BinOp (tenS S₂₁ (by walk_at "mem") fun h₂₂ G₂₂ v₂₂ t₂₂ S₂₂ g₂₂ r₂₂ => ldS S₂₂ (by walk_at "mem") (addListS S₂₂ r₂₂ (rw₁₅.mono (g19.trans (g21.trans g₂₂))) (by rw [List.length_map, List.length_map, sizeLine_eq]; simp; lia) fun h₂₃ G₂₃ v₂₃ S₂₃ g₂₃ r₂₃ => args_nil ?_)))
    have g23 := g₂₂.trans g₂₃
    have rm : RepAll G₂₃ [vw, v₁₇, v₁₈, v₁₉, v₂₁, v₂₃] ((made6 x j).map dInts) :=
      .cons (rw₁₅.mono (g19.trans (g21.trans g23))) (.cons (r₁₇.mono (g₁₈.trans (g₁₉.trans (g21.trans g23)))) (.cons (r₁₈.mono (g₁₉.trans (g21.trans g23))) (.cons (r₁₉.mono (g21.trans g23))
        (.cons (by simpa [dInts] using r₂₁.mono g23) (.cons (by simpa [dInts] using r₂₃) .nil)))))
    refine listOwn S₂₃ fun h₂₄ am S₂₄ => stS S₂₄ (by walk_at "set") fun h₂₅ t₂₅ S₂₅ => ?_
    have hx6 : 0 ≤ (x.fdiv 2).fmod 6 ∧ (x.fdiv 2).fmod 6 < 6 := ⟨Int.fmod_nonneg_of_pos _ (by decide), Int.fmod_lt_of_pos _ (by decide)⟩
    have hx7 : 0 ≤ (x.fdiv 12).fmod 7 ∧ (x.fdiv 12).fmod 7 < 7 := ⟨Int.fmod_nonneg_of_pos _ (by decide), Int.fmod_lt_of_pos _ (by decide)⟩
    have gets : ∀ (L : List (List Int)) (i : Nat), i < L.length → (L.map dInts)[i]? = some (dInts (L.getD i [])) := fun L i hi => by
      rw [List.getElem?_map, List.getD_eq_getElem?_getD, List.getElem?_eq_getElem hi]; rfl
    refine seqS (appendStS (a := am) (vs := [vw, v₁₇, v₁₈, v₁₉, v₂₁, v₂₃]) (n := 0) (d := dInts (oursOf x j)) S₂₅ (by walk_at "mem") (fun v => .head) (by rw [sizeLine_eq]; show 6 ≤ 16777216; decide) ?_ fun v₂₆ h₂₆ G₂₆ t₂₆ S₂₆ g₂₆ r₂₆ => ?_)
    · refine Subscript_ (ldS S₂₅ (by walk_at "mem") (wpAny_BinOp (wpAny_BinOp (ldS S₂₅ (by walk_at "mem") (wpAny_Constant_int (PyProof.Rows.floordiv_int (by decide) (wpAny_Constant_int (mod_int' (by decide) ?_))))))))
      exact itemOwn (vs := [vw, v₁₇, v₁₈, v₁₉, v₂₁, v₂₃]) (n := 0) (d := dInts (oursOf x j)) S₂₅ (.head _) rm hx6.1 (by lia) (gets (made6 x j) _ (by show _ < 6; lia)) fun y ry => ⟨_, _, _, rfl, S₂₅, Store.Sub.refl _, ry⟩
    have rm7 : RepAll G₂₆ ([vw, v₁₇, v₁₈, v₁₉, v₂₁, v₂₃] ++ [v₂₆]) ((made6 x j ++ [oursOf x j]).map dInts) := by
      rw [List.map_append]; exact (rm.mono g₂₆).app (.cons r₂₆ .nil)
    have gw : G₁₅.Sub G₂₆ := g19.trans (g21.trans (g23.trans g₂₆))
    have len1 : v1.length ≤ sizeLine := by have := r1.length; simp [baseL] at this; rw [sizeLine_eq]; lia
    have len2 : v2.length ≤ sizeLine := by have := r2.length; simp [oursL] at this; rw [sizeLine_eq]; lia
    have len3 : v3.length ≤ sizeLine := by have := r3.length; simp [theirsL] at this; rw [sizeLine_eq]; lia
    refine seqS (appendStS (a := ab) (vs := v1) (n := m1) (d := dInts (wasOf x j)) S₂₆ (by walk_at "mem") (fun v => .tail (.tail (.tail (.tail .head)))) len1 (ldS S₂₆ (by walk_at "mem") ⟨_, _, _, rfl, S₂₆, Store.Sub.refl _, rw₁₅.mono gw⟩) fun v₂₇ h₂₇ G₂₇ t₂₇ S₂₇ g₂₇ r₂₇ => ?_)
    refine seqS (appendStS (a := ao) (vs := v2) (n := m2) (d := dInts (oursOf x j)) S₂₇ (by walk_at "mem") (fun v => .tail (.tail (.tail .head))) len2 ?_ fun v₂₈ h₂₈ G₂₈ t₂₈ S₂₈ g₂₈ r₂₈ => ?_)
    · refine Subscript_ (ldS S₂₇ (by walk_at "mem") (wpAny_Constant_int ?_))
      exact itemOwn (vs := [vw, v₁₇, v₁₈, v₁₉, v₂₁, v₂₃] ++ [v₂₆]) (n := 1) (d := dInts (oursOf x j)) S₂₇ (.head _) (rm7.mono g₂₇) (by decide) (by decide) rfl fun y ry => ⟨_, _, _, rfl, S₂₇, Store.Sub.refl _, ry⟩
    refine seqS (appendStS (a := ah) (vs := v3) (n := m3) (d := dInts (theirsOf x j)) S₂₈ (by walk_at "mem") (fun v => .tail (.tail .head)) len3 ?_ fun v₂₉ h₂₉ G₂₉ t₂₉ S₂₉ g₂₉ r₂₉ => ?_)
    · refine Subscript_ (ldS S₂₈ (by walk_at "mem") (wpAny_BinOp (wpAny_BinOp (ldS S₂₈ (by walk_at "mem") (wpAny_Constant_int (PyProof.Rows.floordiv_int (by decide) (wpAny_Constant_int (mod_int' (by decide) ?_))))))))
      exact itemOwn (vs := [vw, v₁₇, v₁₈, v₁₉, v₂₁, v₂₃] ++ [v₂₆]) (n := 1) (d := dInts (theirsOf x j)) S₂₈ (.head _) (rm7.mono (g₂₇.trans g₂₈)) hx7.1 (by lia) (gets (made6 x j ++ [oursOf x j]) _ (by show _ < 7; lia)) fun y ry => ⟨_, _, _, rfl, S₂₈, Store.Sub.refl _, ry⟩
    have g29 := g₂₇.trans (g₂₈.trans g₂₉)
    have gall : G1.Sub G₂₉ := g12.trans (g₁₅.trans (gw.trans g29))
    have S30 := S₂₉.dropAll (part := [_]) (own := [(it, ritO (0 + ((j + 1 : Nat) : Int)) (((4 : Nat) : Int) - ((j + 1 : Nat) : Int)))] ++ [(ah, lstO (v3 ++ [v₂₉]) (m3 + 1)), (ao, lstO (v2 ++ [v₂₈]) (m2 + 1)), (ab, lstO (v1 ++ [v₂₇]) (m1 + 1))]) (fun b o _ e => e)
    subst hQ'
    refine wpAny_execs_nil ⟨_, _, [(ah, lstO (v3 ++ [v₂₉]) (m3 + 1)), (ao, lstO (v2 ++ [v₂₈]) (m2 + 1)), (ab, lstO (v1 ++ [v₂₇]) (m1 + 1))], _, _, rfl, S30, hG.trans gall, _, _, _, _, _, _, _, _, _, _, rfl, ?_, ?_, ?_, rfl⟩
    · rw [hb1, List.map_append]; exact (r1.mono gall).app (.cons (r₂₇.mono (g₂₈.trans g₂₉)) .nil)
    · rw [hb2, List.map_append]; exact (r2.mono gall).app (.cons (r₂₈.mono g₂₉) .nil)
    · rw [hb3, List.map_append]; exact (r3.mono gall).app (.cons r₂₉ .nil)
  · rintro j G1 G2 l own1 ⟨v1, v2, v3, m1, m2, m3, kv, xv, wv, mv, rfl, r1, r2, r3, rfl⟩ g
    exact ⟨v1, v2, v3, m1, m2, m3, kv, xv, wv, mv, rfl, r1.mono g, r2.mono g, r3.mono g, rfl⟩
  · rintro G1 l own1 h t ⟨v1, v2, v3, m1, m2, m3, kv, xv, wv, mv, rfl, r1, r2, r3, rfl⟩ S hG
    obtain ⟨Sa, ga⟩ := S.freeze .head
    obtain ⟨Sb, gb⟩ := Sa.freeze .head
    obtain ⟨Sc, gc⟩ := Sb.freeze .head
    have e3 : Rep _ (Value.ref ah) (.list ((theirsL ns 4).map dInts)) := .list (G := G1.put ah (lstO v3 m3)) Store.put_self rfl rfl (by simpa using r3.mono ga)
    have e2 : Rep _ (Value.ref ao) (.list ((oursL ns 4).map dInts)) := .list (G := (G1.put ah (lstO v3 m3)).put ao (lstO v2 m2)) Store.put_self rfl rfl (by simpa using r2.mono (ga.trans gb))
    have e1 : Rep _ (Value.ref ab) (.list ((baseL ns 4).map dInts)) := .list (G := ((G1.put ah (lstO v3 m3)).put ao (lstO v2 m2)).put ab (lstO v1 m1)) Store.put_self rfl rfl (by simpa using r1.mono (ga.trans (gb.trans gc)))
    refine seqS (wpAny_Return_some (Tuple_ (args_cons (ldS Sc (by walk_at "mem") (args_cons (ldS Sc (by walk_at "mem") (args_cons (ldS Sc (by walk_at "mem") (args_nil ?_)))))))))
    refine tupS Sc (.cons e1 (.cons (e2.mono gc) (.cons (e3.mono (gb.trans gc)) .nil))) fun h' G' v S' g' r' => ?_
    exact k _ _ _ _ (St.back ‹_› S') (hG.trans (ga.trans (gb.trans (gc.trans g')))) r'
end
/-! ## get_opcodes -/
structure Op where
  w : Str
  i1 : Nat
  i2 : Nat
  j1 : Nat
  j2 : Nat
noncomputable abbrev dOp (o : Op) : PyData := .tuple [.str o.w, .int (o.i1 : Nat), .int (o.i2 : Nat), .int (o.j1 : Nat), .int (o.j2 : Nat)]
noncomputable abbrev sEmp : Str := Str.ofString ""
noncomputable abbrev sEqu : Str := Str.ofString "equal"
noncomputable def tagOf (i ai j bj : Nat) : Str := if i < ai then (if j < bj then sRep else sDel) else if j < bj then sIns else sEmp
noncomputable def gapOp (i ai j bj : Nat) : List Op := if i < ai ∨ j < bj then [⟨tagOf i ai j bj, i, ai, j, bj⟩] else []
noncomputable def eqOp (ai bj n : Nat) : List Op := if n = 0 then [] else [⟨sEqu, ai, ai + n, bj, bj + n⟩]
noncomputable def opsFrom : Nat → Nat → List Tri → List Op
  | _, _, [] => []
  | i, j, (ai, bj, n) :: r => gapOp i ai j bj ++ (eqOp ai bj n ++ opsFrom (ai + n) (bj + n) r)
theorem tag_len {i ai j bj : Nat} : (((tagOf i ai j bj).length : Int) != 0) = decide (i < ai ∨ j < bj) := by
  unfold tagOf
  split
  · split <;> simp [*] <;> decide
  · split <;> simp [*] <;> decide
theorem tag_small {i ai j bj : Nat} : ¬ (((tagOf i ai j bj).length : Int) ≥ 2 ^ 63) := by
  unfold tagOf
  split
  · split <;> decide +kernel
  · split <;> decide +kernel
noncomputable abbrev fd348 : FuncData := fnOf (Str.ofString "get_opcodes") (Str.ofString "SequenceMatcher.get_opcodes") F348.1 F348.2.1 F348.2.2.1 Value.none Value.none (Value.str (docOr F348.2.1) 770) (Value.str (Str.ofString "cpy313.difflib") 431) none (Value.ref 347) Value.none
theorem K348 (P : Params) : (K P).lookup 348 = some ⟨.type "function", none, .func fd348, #[]⟩ := by rfl
theorem C348 (P : Params) : codeIn (K P) fd348.code fd348.qualname = true := by rfl
noncomputable abbrev LO (sx i j an ai bj sz tg : Option Value) : Loc := [(nSelf, sx), (Str.ofString "i", i), (Str.ofString "j", j), (Str.ofString "answer", an), (Str.ofString "ai", ai), (Str.ofString "bj", bj), (Str.ofString "size", sz), (Str.ofString "tag", tg)]
noncomputable def n348 : List Str := [nSelf, Str.ofString "i", Str.ofString "j", Str.ofString "answer", Str.ofString "ai", Str.ofString "bj", Str.ofString "size", Str.ofString "tag"]
section
variable {w : World} {env : Env} {G₀ G : Store} {h₀ h : Heap} {own : List (Addr × Obj)} {l : Loc} {A : Around} {E : Value → Shared → Prop} {s : Shared} {t : Nat} {x dx : Addr} {od : Obj}
variable {la lb d sj L : Addr} {as bs : List Int} {led : Bool} {vfb vpop : Option Value}
inductive JO1 (G₈ : Store) (ao x : Addr) (as bs : List Int) (N : List Tri) (c : Nat) (G' : Store) (l : Loc) (own : List (Addr × Obj)) : Prop
  | mk (e1 : G₈.Sub G') (nv : List Value) (nn : Nat) (acc : List Op) (i j : Nat) (wi wj : Tok) (w1 w2 w3 w4 : Option Value) (e2 : own = [(ao, lstO nv nn)]) (e3 : RepAll G' nv (acc.map dOp)) (e4 : acc.length ≤ 2 * c) (e5 : acc ++ opsFrom i j ((N ++ [(as.length, bs.length, 0)]).drop c) = opsFrom 0 0 (N ++ [(as.length, bs.length, 0)])) (e6 : l = (LO (some (.ref x)) (some (.int (i : Nat) wi)) (some (.int (j : Nat) wj)) (some (.ref ao)) w1 w2 w3 w4))
inductive JO2 (s : Shared) (w : World) (h : Heap) (G : Store) (dx : Addr) (od : Obj) (p : List (Addr × Obj)) (ao x : Addr) (i j ai bj sz : Nat) (wi wj ti tj tn : Tok) (nv : List Value) (nn : Nat) (G' : Store) (tg : Str) (f : Flow) (s' : Shared) : Prop
  | mk (e1 : f = .next) (h' : Heap) (t' : Nat) (tk : Tok) (e2 : s' = mkS s h' t') (e3 : St w (callEnv fd348 h.objs.size 348) G (offH h [(dx, od)]) (p ++ [(ao, lstO nv nn)]) (LO (some (.ref x)) (some (.int (i : Nat) wi)) (some (.int (j : Nat) wj)) (some (.ref ao)) (some (.int (ai : Nat) ti)) (some (.int (bj : Nat) tj)) (some (.int (sz : Nat) tn)) (some (.str tg tk))) G' h')
inductive JO3 (s : Shared) (w : World) (h : Heap) (G : Store) (dx : Addr) (od : Obj) (p : List (Addr × Obj)) (ao x : Addr) (i j ai bj sz : Nat) (wi wj ti tj tn : Tok) (acc : List Op) (tk : Tok) (G' : Store) (f : Flow) (s' : Shared) : Prop
  | mk (e1 : f = .next) (h' : Heap) (G'' : Store) (t' : Nat) (nv' : List Value) (nn' : Nat) (e2 : s' = mkS s h' t') (e3 : St w (callEnv fd348 h.objs.size 348) G (offH h [(dx, od)]) (p ++ [(ao, lstO nv' nn')]) (LO (some (.ref x)) (some (.int (i : Nat) wi)) (some (.int (j : Nat) wj)) (some (.ref ao)) (some (.int (ai : Nat) ti)) (some (.int (bj : Nat) tj)) (some (.int (sz : Nat) tn)) (some (.str (tagOf i ai j bj) tk))) G'' h') (e4 : G'.Sub G'') (e5 : RepAll G'' nv' ((acc ++ gapOp i ai j bj).map dOp))
set_option maxHeartbeats 4000000 in
theorem opcodes_spec {Q : Value → Shared → Prop} (S : St w env G₀ h₀ ((dx, od) :: own) l G h) (hx : G x = some (instObj 380 dx))
    (D : DictM (mAt (some (.ref la)) (some (.ref lb)) (some .none) (some .none) vfb (some (.ref d)) (some (.ref sj)) vpop) od) (ra : Rep G (.ref la) (dInts as)) (rb : Rep G (.ref lb) (dInts bs)) (B : B2j w G d bs) (es : G sj = some (setO led)) (hnd : bs.Nodup) (hla : as.length ≤ 60) (hlb : bs.length ≤ 60)
    (hmono : MonoM as bs) (hh : A.handled = none) (hroom : A.depth + 9 < recursionLimit) (hu : A.units + 300 < cLine)
    (k : ∀ h' G' t' v N, St w env G₀ h₀ own l G' h' → G.Sub G' → Rep G' v (.list ((opsFrom 0 0 (N ++ [(as.length, bs.length, 0)])).map dOp)) → (∀ f ∈ N, 0 < f.2.2) → N.length ≤ 61 → PSpec as bs (N.flatMap tp) → Q v (mkS s h' t')) :
    wpAny (model pw w) A (call (.ref 348) [.ref x]) Q E (mkS s h t) := by
  refine callOff (new := [(dx, od)]) (names := n348) (l₁ := LO (some (.ref x)) none none none none none none none) S K348 C348 rfl (by rfl) (.cons .head .nil) (by decide +kernel) (by lia) fun h₁ t₁ S₁ => ?_
  have X : ∀ {env G₀ h₀ own l G' h'}, St w env G₀ h₀ own l G' h' → G.Sub G' → (dx, od) ∈ own → SelfAt h' x dx od _ := fun S' g hm => selfAt S' (g _ _ hx) hm D mAt_nd
  refine seqS (wpAny_Expr (Calls.Constant_str ?_))
  refine seqS (wpAny_If (wpAny_isTrue_Compare1 (attrS S₁ (by walk_at "mem") (X S₁ (Store.Sub.refl _) (.head _)) (name := aOp) (by walk_at "mem") (by decide +kernel) rfl fun t₂ => wpAny_Constant_none (isnot_none_none (wpAny_truthy_bool ?_)))))
  refine wpAny_execs_nil ?_
  refine seqS (wpAny_Assign_two (conI fun tk1 tu1 => wpAny_assign_Name (stS S₁ (by walk_at "set") fun h₂ u₂ S₂ => wpAny_assign_Name (stS S₂ (by walk_at "set") fun h₃ u₃ S₃ => ?_))))
  refine seqS (wpAny_Assign_two (List_ (args_nil (listOwn S₃ fun h₄ ao S₄ => ?_))))
  refine putS S₄ (by walk_at "mem") (selfAt S₄ hx (.tail _ (.head _)) D mAt_nd) (fun o' => .tail .head) (by walk_at "set") (by decide +kernel) (Nat.le_of_ble_eq_true rfl) fun h₅ t₅ o₅ S₅ D₅ => ?_
  refine wpAny_assign_Name (stS S₅ (by walk_at "set") fun h₆ t₆ S₆ => ?_)
  have S₇ := S₆.idx0 (own' := [(dx, o₅), (ao, listO [])]) [1, 0] (by decide) rfl
  refine seqS (for_ (selfCall0S meth_blocks S₇ (by walk_at "mem") (selfAt S₇ hx (.head _) D₅ mAt_nd) ?_))
  refine blocks_spec S₇ hx D₅ ra rb B es hnd hla hlb hmono (by exact hh) (by show A.depth + 1 + 8 < _; lia) (by show A.units + 3 + 200 < _; lia) fun h₈ G₈ t₈ o₈ rl ws c N S₈ g₈ D₈ er hf hN hNl ps => ?_
  refine iterRawS S₈ er fun h₉ p it Part I hP S₉ => ?_
  have hlen : (N ++ [(as.length, bs.length, 0)]).length ≤ 62 := by simp; lia
  refine for_iter (G₁ := G₈) (I _) (by exact hh) (JO1 G₈ ao x as bs N) ?_ ?_ ?_ _ 0 rfl (Nat.zero_le _) hP ⟨Store.Sub.refl _, [], 0, [], 0, 0, _, _, _, _, _, _, rfl, .nil, Nat.le_refl _, rfl, rfl⟩ (S₉.pick (own' := p ++ [(ao, lstO [] 0)]) ?_ ?_) (Store.Sub.refl _)
  · rintro c hc p G' l own' hz tz v hPk hJ hv S hG
    refine hideQ fun Q' hQ' => ?_
    obtain ⟨gs, nv, nn, acc, i, j, wi, wj, w1, w2, w3, w4, rfl, rN, hal, hops, rfl⟩ := hJ
    obtain ⟨⟨ai, bj, sz⟩, hfc, m, dm, ti, tj, tn, rfl, e⟩ := hf.get hv
    simp only at e
    have hd : (N ++ [(as.length, bs.length, 0)]).drop c = (ai, bj, sz) :: (N ++ [(as.length, bs.length, 0)]).drop (c + 1) := by
      obtain ⟨hlt, e2⟩ := List.getElem?_eq_some_iff.mp hfc
      rw [List.drop_eq_getElem_cons hlt, e2]
    rw [hd, opsFrom] at hops
    have hcl := hf.length
    refine unpackM tc_match S (gs _ _ e) (by exact hh) rfl rfl fun h₂ S₂ => ?_
    refine inOrder_cons (wpAny_assign_Name (stS S₂ (by walk_at "set") fun h₃ u₃ S₃ => inOrder_cons (wpAny_assign_Name (stS S₃ (by walk_at "set") fun h₄ u₄ S₄ => inOrder_cons (wpAny_assign_Name (stS S₄ (by walk_at "set") fun h₅ u₅ S₅ => inOrder_nil ?_))))))
    have rl := rN.length
    rw [List.length_map] at rl
    refine seqS (setS (Calls.Constant_str (stS S₅ (by walk_at "set") fun h₆ u₆ S₆ => ?_)))
    refine seqS (wpAny_mono (Q := JO2 s w h G dx od p ao x i j ai bj sz wi wj ti tj tn nv nn G' (tagOf i ai j bj)) ?_ ?_ fun _ _ x => x)
    · refine hideV fun Q₂ hQ₂ => ?_
      refine wpAny_If (isTrue_and (wpAny_isTrue_Compare1 (ldS S₆ (by walk_at "mem") (ldS S₆ (by walk_at "mem") (PyProof.Rows.lt_int (wpAny_truthy_bool ?_))))))
      by_cases c1 : i < ai
      · refine ifso (ltI (by first | assumption | lia)) ?_
        refine isTrue_and (wpAny_isTrue_Compare1 (ldS S₆ (by walk_at "mem") (ldS S₆ (by walk_at "mem") (PyProof.Rows.lt_int (wpAny_truthy_bool ?_)))))
        by_cases c2 : j < bj
        · refine ifso (ltI (by first | assumption | lia)) ?_
          refine isTrue_and_nil ?_
          refine ifso rfl ?_
          subst hQ₂
          rw [show tagOf i ai j bj = sRep by simp [tagOf, c1, c2]]
          refine seqS (setS (Calls.Constant_str (stS S₆ (by walk_at "set") fun h₇ u₇ S₇ => wpAny_execs_nil ⟨rfl, _, _, _, rfl, S₇⟩)))
        · refine ifno (nltI (by first | assumption | lia)) ?_
          refine seqS (wpAny_If (wpAny_isTrue_Compare1 (ldS S₆ (by walk_at "mem") (ldS S₆ (by walk_at "mem") (PyProof.Rows.lt_int (wpAny_truthy_bool ?_))))))
          refine ifso (ltI (by first | assumption | lia)) ?_
          subst hQ₂
          rw [show tagOf i ai j bj = sDel by simp [tagOf, c1, c2]]
          refine seqS (setS (Calls.Constant_str (stS S₆ (by walk_at "set") fun h₇ u₇ S₇ => wpAny_execs_nil (wpAny_execs_nil ⟨rfl, _, _, _, rfl, S₇⟩))))
      · refine ifno (nltI (by first | assumption | lia)) ?_
        refine seqS (wpAny_If (wpAny_isTrue_Compare1 (ldS S₆ (by walk_at "mem") (ldS S₆ (by walk_at "mem") (PyProof.Rows.lt_int (wpAny_truthy_bool ?_))))))
        refine ifno (nltI (by first | assumption | lia)) ?_
        refine seqS (wpAny_If (wpAny_isTrue_Compare1 (ldS S₆ (by walk_at "mem") (ldS S₆ (by walk_at "mem") (PyProof.Rows.lt_int (wpAny_truthy_bool ?_))))))
        by_cases c2 : j < bj
        · refine ifso (ltI (by first | assumption | lia)) ?_
          subst hQ₂
          rw [show tagOf i ai j bj = sIns by simp [tagOf, c1, c2]]
          refine seqS (setS (Calls.Constant_str (stS S₆ (by walk_at "set") fun h₇ u₇ S₇ => wpAny_execs_nil (wpAny_execs_nil (wpAny_execs_nil ⟨rfl, _, _, _, rfl, S₇⟩)))))
        · refine ifno (nltI (by first | assumption | lia)) ?_
          subst hQ₂
          rw [show tagOf i ai j bj = sEmp by simp [tagOf, c1, c2]]
          refine wpAny_execs_nil (wpAny_execs_nil (wpAny_execs_nil ⟨rfl, _, _, _, rfl, S₆⟩))
    · rintro f s' ⟨rfl, h₇, t₇, tk, rfl, S₇⟩
      refine seqS (wpAny_mono (Q := (JO3 s w h G dx od p ao x i j ai bj sz wi wj ti tj tn acc tk G')) ?_ ?_ fun _ _ x => x)
      · refine hideV fun Q₃ hQ₃ => ?_
        refine wpAny_If (isTrue_plain (ldS S₇ (by walk_at "mem") (P.truthy_str (s := mkS s h₇ t₇) tag_small ?_)))
        rw [tag_len]
        by_cases hg : i < ai ∨ j < bj
        · refine ifso (decide_eq_true hg) ?_
          subst hQ₃
          refine seqS (appendStS (t := t₇ + 1 + 1) (a := ao) (vs := nv) (n := nn) (ow := fun v => p ++ [(ao, lstO (nv ++ [v]) (nn + 1))]) (d := dOp ⟨tagOf i ai j bj, i, ai, j, bj⟩) S₇ (by walk_at "mem") (fun v => ownTail p) (by rw [sizeLine_eq]; lia) (Tuple_ (args_cons (ldS S₇ (by walk_at "mem") (args_cons (ldS S₇ (by walk_at "mem") (args_cons (ldS S₇ (by walk_at "mem") (args_cons (ldS S₇ (by walk_at "mem") (args_cons (ldS S₇ (by walk_at "mem") (args_nil ?_)))))))))))) fun v h₈ G₈ t₈ S₈ g₈ r₈ => wpAny_execs_nil ⟨rfl, _, _, _, _, _, rfl, S₈, g₈, ?_⟩)
          · exact tupS S₇ (.cons (.str _ _) (.cons (.int _ _) (.cons (.int _ _) (.cons (.int _ _) (.cons (.int _ _) .nil))))) fun h' G' v S' g' r' => ⟨_, _, _, rfl, S', g', r'⟩
          · rw [show gapOp i ai j bj = [⟨tagOf i ai j bj, i, ai, j, bj⟩] from if_pos hg, List.map_append]
            exact (rN.mono g₈).app (.cons r₈ .nil)
        · refine ifno (decide_eq_false hg) ?_
          subst hQ₃
          refine wpAny_execs_nil ⟨rfl, _, _, _, nv, nn, rfl, S₇, Store.Sub.refl _, ?_⟩
          rw [show gapOp i ai j bj = [] from if_neg hg, List.append_nil]
          exact rN
      · rintro f s' ⟨rfl, h₈, G₈', t₈, nv', nn', rfl, S₈, g₈', rN'⟩
        have rl' := rN'.length
        have hgl : (gapOp i ai j bj).length ≤ 1 := by unfold gapOp; split <;> simp
        rw [List.length_map, List.length_append] at rl'
        refine seqS (Assign_Tuple_swapped (names := [Str.ofString "i", Str.ofString "j"]) (Tuple_ (args_cons (wpAny_BinOp (ldS S₈ (by walk_at "mem") (ldS S₈ (by walk_at "mem") (addI (c := ((ai + sz : Nat) : Int)) (by lia) fun tk3 tu3 => ?_)))))))
        refine args_cons (wpAny_BinOp (ldS S₈ (by walk_at "mem") (ldS S₈ (by walk_at "mem") (addI (c := ((bj + sz : Nat) : Int)) (by lia) fun tk4 tu4 => args_nil ?_))))
        refine tupUnpack S₈ (by exact hh) rfl fun h₉ S₉ => ?_
        refine inOrder_cons (bindS S₉ (by walk_at "set") fun h₁₀ u₁₀ S₁₀ => inOrder_cons (bindS S₁₀ (by walk_at "set") fun h₁₁ u₁₁ S₁₁ => inOrder_nil ?_))
        have fin : ∀ h' G'' t' nv'' nn'', St w (callEnv fd348 h.objs.size 348) G (offH h [(dx, od)]) (p ++ [(ao, lstO nv'' nn'')]) (LO (some (.ref x)) (some (.int (ai + sz : Nat) tk3)) (some (.int (bj + sz : Nat) tk4)) (some (.ref ao)) (some (.int (ai : Nat) ti)) (some (.int (bj : Nat) tj)) (some (.int (sz : Nat) tn)) (some (.str (tagOf i ai j bj) tk))) G'' h' → G₈'.Sub G'' → RepAll G'' nv'' ((acc ++ gapOp i ai j bj ++ eqOp ai bj sz).map dOp) →
            Q' .next (mkS s h' t') := fun h' G'' t' nv'' nn'' S' g' r' => by
          have hel : (eqOp ai bj sz).length ≤ 1 := by unfold eqOp; split <;> simp
          subst hQ'
          exact ⟨_, _, _, _, _, rfl, S', gs.trans (g₈'.trans g'), gs.trans (g₈'.trans g'), nv'', nn'', _, _, _, _, _, _, _, _, _, rfl, r', by simp only [List.length_append]; lia, by simpa [List.append_assoc] using hops, rfl⟩
        refine seqS (wpAny_If (isTrue_plain (ldS S₁₁ (by walk_at "mem") (PyProof.Rows.truthy_int ?_))))
        by_cases hk : sz = 0
        · subst hk
          refine ifno (by simp) ?_
          refine wpAny_execs_nil (wpAny_execs_nil ?_)
          have := fin _ _ u₁₁ nv' nn' S₁₁ (Store.Sub.refl _) (by simpa [eqOp] using rN')
          exact this
        · refine ifso (by simp; lia) ?_
          refine seqS (appendStS (a := ao) (vs := nv') (n := nn') (ow := fun v => p ++ [(ao, lstO (nv' ++ [v]) (nn' + 1))]) (d := dOp ⟨sEqu, ai, ai + sz, bj, bj + sz⟩) S₁₁ (by walk_at "mem") (fun v => ownTail p) (by rw [sizeLine_eq]; lia) (Tuple_ (args_cons (Calls.Constant_str (args_cons (ldS S₁₁ (by walk_at "mem") (args_cons (ldS S₁₁ (by walk_at "mem") (args_cons (ldS S₁₁ (by walk_at "mem") (args_cons (ldS S₁₁ (by walk_at "mem") (args_nil ?_)))))))))))) fun v h₁₂ G₁₂ t₁₂ S₁₂ g₁₂ r₁₂ => wpAny_execs_nil (wpAny_execs_nil ?_))
          · exact tupS S₁₁ (.cons (.str _ _) (.cons (.int _ _) (.cons (.int _ _) (.cons (.int _ _) (.cons (.int _ _) .nil))))) fun h' G' v S' g' r' => ⟨_, _, _, rfl, S', g', r'⟩
          · have := fin _ _ t₁₂ _ _ S₁₂ g₁₂ (by
              rw [show eqOp ai bj sz = [⟨sEqu, ai, ai + sz, bj, bj + sz⟩] from if_neg hk, List.map_append]
              exact (rN'.mono g₁₂).app (.cons r₁₂ .nil))
            exact this
  · rintro c G' G'' l own' ⟨gs, nv, nn, acc, i, j, wi, wj, w1, w2, w3, w4, rfl, rN, hal, hops, rfl⟩ g
    exact ⟨gs.trans g, nv, nn, acc, i, j, wi, wj, w1, w2, w3, w4, rfl, rN.mono g, hal, hops, rfl⟩
  · rintro G' l own' hz tz ⟨gs, nv, nn, acc, i, j, wi, wj, w1, w2, w3, w4, rfl, rN, hal, hops, rfl⟩ S hG
    rw [hf.length, List.drop_length, opsFrom, List.append_nil] at hops
    obtain ⟨S', g'⟩ := S.freeze (a := ao) .head
    refine seqS (wpAny_Return_some (ldS S' (by walk_at "mem") ?_))
    refine k _ _ _ _ N (St.leave (new := [(dx, od)]) ‹_› S') (g₈.trans (gs.trans g')) (.list Store.put_self rfl rfl ?_) hN hNl ps
    rw [← hops]; exact rN.mono g'
  · simp only [List.mem_append, List.mem_cons, List.not_mem_nil, or_false]; grind
  · have := S₉.ond
    simp only [List.map_append, List.map_cons, List.map_nil, List.nodup_append, List.nodup_cons, List.mem_cons, List.not_mem_nil, not_or] at this ⊢; grind
end
/-! ## a comprehension with a free name and a test -/
noncomputable abbrev compEnvF (env : Env) (scope : Scope) (cl : List (Str × Addr)) (L : Addr) : Env := { newEnv scope L env.globals cl env.qual none .none (some env) 0 with scope := relabel scope env }
section
variable {w : World} {A : Around} {env : Env} {s : Shared} {G₀ G : Store} {h₀ h : Heap} {own : List (Addr × Obj)} {l : Loc} {t : Nat}
theorem St.innerF {scope : Scope} {cl : List (Str × Addr)} {names : List Str} {new : List (Addr × Obj)} (S : St w env G₀ h₀ (new ++ own) l G h)
    (hok : ((names.all fun n => decide (scope.names.lookup n = some .local)) && decide names.Nodup && decide (scope.kind = .function)) = true)
    {h' : Heap} (hns : h'.Ns h.objs.size (fun x => ([] : List (Str × Value)).reverse.lookup x)) (hk : ∀ b o, h.get? b = some o → h'.get? b = some o) :
    St w (compEnvF env scope cl h.objs.size) G (offH h new) new (names.map fun n => (n, none)) G h' := by
  simp only [Bool.and_eq_true, decide_eq_true_eq, List.all_eq_true] at hok
  obtain ⟨⟨hl, hnd⟩, hki⟩ := hok
  have O := S.off
  have hnames : (names.map fun n => ((n, none) : Str × Option Value)).map (·.1) = names := by rw [List.map_map]; exact List.map_id' names
  have hn := S.ond
  rw [List.map_append, List.nodup_append] at hn
  refine { bs := O.bs, kind := hki, glo := S.glo, blt := S.blt, fr := ⟨?_, fun b o e => hk _ _ (O.keep b o e), Nat.le_of_eq O.size⟩, nd := by rw [hnames]; exact hnd, lc := fun x hx => by rw [hnames] at hx; exact lookup_relabel_local (hl x hx), gin := fun b o e => hk _ _ (S.gin b o e), gsub := fun _ _ e => e, gnew := fun _ _ e => .inl e, gL := ?_, ow := fun p hp => ?_, ond := hn.1 }
  · rw [look_none]; exact hns
  · cases q : G h.objs.size with
    | none => exact q
    | some o => exact absurd (Heap.lt_size (S.gin _ _ q)) (Nat.lt_irrefl _)
  · have D := S.ow p (List.mem_append_left _ hp)
    exact ⟨hk _ _ D.1, Nat.ne_of_lt (Heap.lt_size D.1), O.none p hp, D.2.2.2⟩
theorem filterMap_range_succ {α : Type} (f : Nat → Option α) (k : Nat) : (List.range (k + 1)).filterMap f = (List.range k).filterMap f ++ (f k).toList := by
  rw [List.range_succ, List.filterMap_append]
  congr 1
set_option maxHeartbeats 4000000 in
theorem compTailF {target elt iter c : PySem.Expr} {scope : Scope} {cl : List (Str × Addr)} {pos : Pos} {it : Value} {n : Nat} {Gz : Store} {Part : Nat → List (Addr × Obj) → Prop} {item : Nat → Store → Value → Prop} {p : List (Addr × Obj)} {names : List Str} {dat : Nat → Option PyData} {Q : Value → Shared → Prop} {E : Value → Shared → Prop}
    (I : Iter w target it n Gz Part item) (hh : A.handled = none) (hz : Gz.Sub G) (hP : Part 0 p) (S : St w env G₀ h₀ (p ++ own) l G h) (hn : n ≤ 1000)
    (hag : ∀ {s : Shared} {Q : Value → Shared → Prop} {h : Heap} {t : Nat} {env' : Env} {G₀' h₀' own' l' G'} , St w env' G₀' h₀' (p ++ own') l' G' h → Q it (mkS s h t) → wpAny (model pw w) A (pyIter it) Q E0 (mkS s h t))
    (hok : ((names.all fun n => decide (scope.names.lookup n = some .local)) && decide names.Nodup && decide (scope.kind = .function)) = true) (hcell : ∀ x ∈ scope.names, x.2 ≠ .cell)
    (turn : ∀ (L : Addr) (G₁ : Store) (h₁ : Heap) (k : Nat), k < n → ∀ (own₁ : List (Addr × Obj)) (G₂ : Store) (h₂ : Heap) (t₂ : Nat) (vals : List (Option Value)) (v : Value), vals.length = names.length → item k G₂ v → G.Sub G₂ →
      St w (compEnvF env scope cl L) G₁ h₁ own₁ (names.zip vals) G₂ h₂ →
      wpAny (model pw w) A (assign target (compEnvF env scope cl L) v) (fun _ s₂ => wpAny (model pw w) A (isTrue c (compEnvF env scope cl L) (eval c (compEnvF env scope cl L))) (fun b s₂' => if b then wpAny (model pw w) A (eval elt (compEnvF env scope cl L)) (fun x s₃ => ∃ h₃ G₃ t₃ vals' d, s₃ = mkS s h₃ t₃ ∧ St w (compEnvF env scope cl L) G₁ h₁ own₁ (names.zip vals') G₃ h₃ ∧ vals'.length = names.length ∧ G₂.Sub G₃ ∧ dat k = some d ∧ Rep G₃ x d) E0 s₂'
        else ∃ h₃ G₃ t₃ vals', s₂' = mkS s h₃ t₃ ∧ St w (compEnvF env scope cl L) G₁ h₁ own₁ (names.zip vals') G₃ h₃ ∧ vals'.length = names.length ∧ G₂.Sub G₃ ∧ dat k = none) E0 s₂) E0 (mkS s h₂ t₂))
    (k : ∀ h' G' v t', St w env G₀ h₀ own l G' h' → G.Sub G' → Rep G' v (.list ((List.range n).filterMap dat)) → Q v (mkS s h' t')) :
    wpAny (model pw w) A (newList []) (fun acc s₃ => wpAny (model pw w) A (newFunctionEnv scope env.globals cl [] env.qual none .none (some env)) (fun cenv s₄ =>
      codeAny (model pw w) A (.compStart (.ListComp elt [⟨target, iter, [c], 0⟩] scope pos) 0 it acc { cenv with scope := relabel scope env }) (compPost (model pw w) A E none Q acc cenv.locals) s₄) E s₃) E (mkS s h t) := by
  have Sa : St w env G₀ h₀ ((p ++ [(h.objs.size, listO [])]) ++ own) l G (h.push (listO [])) := by
    have S1 := S.pushOwn (listO []) rfl
    refine { S1 with ow := fun q hq => S1.ow q ?_, ond := ?_ }
    · simp only [List.mem_append, List.mem_cons, List.not_mem_nil, or_false] at hq ⊢
      rcases hq with (hq | hq) | hq
      · exact .inr (.inl hq)
      · exact .inl hq
      · exact .inr (.inr hq)
    · have := S1.ond
      simp only [List.map_cons, List.map_append, List.map_nil, List.append_assoc, List.cons_append, List.nil_append] at this ⊢
      exact (List.perm_middle.nodup_iff).mpr this
  refine wpAny_newList (s := mkS s h t) ?_
  refine wpAny_newFunctionEnv (s := mkS s (h.push (listO [])) t) hcell (fun _ hx => (nomatch hx)) (fun h₄ hns hsb => ?_) (by simp only [Bool.and_eq_true, decide_eq_true_eq] at hok; exact hok.2)
  have hk4 : ∀ b o, (h.push (listO [])).get? b = some o → h₄.get? b = some o := fun b o e => hsb.extBut b o (Nat.ne_of_lt (Heap.lt_size e)) (Heap.get?_push_of_some _ e)
  have Si := Sa.innerF (cl := cl) hok hns hk4
  have loop : ∀ (m k : Nat), m = n - k → k ≤ n → ∀ {p' vs nn vals G₂ h₂ t₂}, Part k p' → vals.length = names.length → RepAll G₂ vs ((List.range k).filterMap dat) → G.Sub G₂ →
      St w (compEnvF env scope cl (h.push (listO [])).objs.size) G (offH (h.push (listO [])) (p ++ [(h.objs.size, listO [])])) (p' ++ [(h.objs.size, lstO vs nn)]) (names.zip vals) G₂ h₂ →
      codeAny (model pw w) A (.compLoop (.ListComp elt [⟨target, iter, [c], 0⟩] scope pos) 0 it (.ref h.objs.size) (compEnvF env scope cl (h.push (listO [])).objs.size)) (compPost (model pw w) A E none Q (.ref h.objs.size) (h.push (listO [])).objs.size) (mkS s h₂ t₂) := by
    intro m
    induction m with
    | zero =>
      intro k hm hk p' vs nn vals G₂ h₂ t₂ hp' hv hr hg S'
      obtain rfl : k = n := by lia
      refine comp_turn_if (I.stop hh (hz.trans hg) hp' S' fun h' t' S'' => (⟨_, S''.fr.ns, fun h'' hs => ?_⟩ : ∃ m, _))
      have Lv := Sa.leave S''
      have big : ∀ {b : Addr} {o : Obj}, (h.push (listO [])).get? b = some o → b ≠ (h.push (listO [])).objs.size := fun {b o} e q => by subst q; exact absurd (Heap.lt_size e) (Nat.lt_irrefl _)
      have Gb := Lv.garb (c := (h.push (listO [])).objs.size) (h' := h'') (by
          cases q : h₀.get? (h.push (listO [])).objs.size with
          | none => rfl
          | some o => exact absurd rfl (big (Sa.fr.keep _ _ q))) S''.gL (Nat.ne_of_lt Sa.fr.ns.lt) (fun q hq => by
          rcases List.mem_append.mp hq with z | z
          · exact (S''.ow q z).2.1
          · exact big (Sa.ow q (List.mem_append_right _ z)).1) (fun b o hb e => (hs.2 b hb).trans e)
      obtain ⟨Sf, gf⟩ := Gb.freeze .head
      exact k _ _ _ _ Sf (hg.trans gf) (.list Store.put_self rfl rfl (by simpa using hr.mono gf))
    | succ m ih =>
      intro k hm hk p' vs nn vals G₂ h₂ t₂ hp' hv hr hg S'
      have hk' : k < n := by lia
      have hvl : vs.length ≤ sizeLine := by
        have := hr.length
        have h2 := List.length_filterMap_le dat (List.range k)
        rw [List.length_range] at h2; rw [sizeLine_eq]; lia
      refine comp_turn_if (wpAny_mono (I.next (Q := fun v s' => wpAny (model pw w) A (assign target (compEnvF env scope cl (h.push (listO [])).objs.size) v) (fun _ s₂ => wpAny (model pw w) A (isTrue c (compEnvF env scope cl (h.push (listO [])).objs.size) (eval c (compEnvF env scope cl (h.push (listO [])).objs.size))) (fun b s₂' => if b then wpAny (model pw w) A (eval elt (compEnvF env scope cl (h.push (listO [])).objs.size)) (fun x s₃ =>
          wpAny (model pw w) A (call (.builtin "list.append") [.ref h.objs.size, x]) (fun _ s₄ => codeAny (model pw w) A (.compLoop (.ListComp elt [⟨target, iter, [c], 0⟩] scope pos) 0 it (.ref h.objs.size) (compEnvF env scope cl (h.push (listO [])).objs.size)) (compPost (model pw w) A E none Q (.ref h.objs.size) (h.push (listO [])).objs.size) s₄) E0 s₃) E0 s₂'
          else codeAny (model pw w) A (.compLoop (.ListComp elt [⟨target, iter, [c], 0⟩] scope pos) 0 it (.ref h.objs.size) (compEnvF env scope cl (h.push (listO [])).objs.size)) (compPost (model pw w) A E none Q (.ref h.objs.size) (h.push (listO [])).objs.size) s₂') E0 s₂) E0 s') hk' hh (hz.trans hg) hp' S' fun p'' v h₅ G₅ t₅ hp'' S₅ g₅ hi => ?_) (fun r s₁ h₁ => ?_) fun _ _ x => x)
      · refine wpAny_mono (turn _ _ _ k hk' _ _ _ t₅ vals v hv hi (hg.trans g₅) S₅) (fun _ s₂ h₂ => wpAny_mono h₂ (fun b s₂' hb => ?_) fun _ _ x => x) fun _ _ x => x
        cases b with
        | true =>
          rw [if_pos rfl] at hb ⊢
          refine wpAny_mono hb (fun x s₃ h₃ => ?_) fun _ _ x => x
          obtain ⟨h₆, G₆, t₆, vals', d, rfl, S₆, hv', g₆, ed, rx⟩ := h₃
          refine appS S₆ (ownTail p'') hvl fun h₇ t₇ S₇ => ?_
          refine ih (k + 1) (by lia) (by lia) hp'' hv' ?_ (hg.trans (g₅.trans g₆)) S₇
          rw [filterMap_range_succ, ed]
          exact (hr.mono (g₅.trans g₆)).app (.cons rx .nil)
        | false =>
          rw [if_neg (by decide)] at hb ⊢
          obtain ⟨h₆, G₆, t₆, vals', rfl, S₆, hv', g₆, ed⟩ := hb
          refine ih (k + 1) (by lia) (by lia) hp'' hv' ?_ (hg.trans (g₅.trans g₆)) S₆
          rw [filterMap_range_succ, ed]
          simpa using hr.mono (g₅.trans g₆)
      · cases r with
        | none => exact h₁.elim
        | some v => exact h₁
  have hzip : (names.map fun n => ((n, none) : Str × Option Value)) = names.zip (names.map fun _ => none) := by
    clear hok turn Si loop
    induction names with
    | nil => rfl
    | cons a as ih => simp [ih]
  have Sz := Si
  rw [hzip] at Sz
  have start : ∀ t', codeAny (model pw w) A (.compLoop (.ListComp elt [⟨target, iter, [c], 0⟩] scope pos) 0 it (.ref h.objs.size) (compEnvF env scope cl (h.push (listO [])).objs.size)) _ (mkS s h₄ t') := fun t' =>
    loop n 0 rfl (Nat.zero_le _) (nn := 0) hP (by simp) .nil (Store.Sub.refl _) Sz
  exact codeAny_compStart_list (start _) (wpAny_mono (hag Sz (start _)) (fun _ _ x => x) fun _ _ x => x.elim)
end
noncomputable abbrev fd403 : FuncData := fnOf (Str.ofString "_law_told") (Str.ofString "_law_told") F403.1 F403.2.1 F403.2.2.1 Value.none Value.none Value.none (Value.str (Str.ofString "law_il0153_01") 821) none (Value.ref 402) Value.none
theorem K403 (P : Params) : (K P).lookup 403 = some ⟨.type "function", none, .func fd403, #[]⟩ := by rfl
theorem C403 (P : Params) : codeIn (K P) fd403.code fd403.qualname = true := by rfl
noncomputable abbrev nNew : Str := Str.ofString "new"
noncomputable abbrev LT (o c : Option Value) : Loc := [(Str.ofString "old", o), (Str.ofString "codes", c)]
theorem names403 : fd403.scope.names = [(Str.ofString "old", .local), (nNew, .cell), (Str.ofString "codes", .local), (Str.ofString "SequenceMatcher", .globalImplicit)] := by rfl
theorem cells403 (n : Nat) : cellsFrom n fd403.scope.names [] = [(nNew, n)] := by rw [names403]; rfl
section
variable {w : World} {env : Env} {G₀ G : Store} {h₀ h : Heap} {own : List (Addr × Obj)} {l : Loc} {A : Around} {E : Value → Shared → Prop} {s : Shared} {t : Nat}
/-- the call of _law_told, new in a cell -/
theorem call403 {v v' : Value} {Q : Value → Shared → Prop} (S : St w env G₀ h₀ own l G h) (hroom : A.depth < recursionLimit)
    (k : ∀ h₁ G₁ t₁ oc, St w (callEnvC fd403 h.objs.size 403) G h [] (LT (some v) none) G₁ h₁ → G.Sub G₁ → G₁ (h.objs.size + 1) = some oc → oc.data = .cell (some v') →
      wpAny (model pw w) (A.deeper (callEnvC fd403 h.objs.size 403)) (execs F403.2.1 (callEnvC fd403 h.objs.size 403)) (fun fl s' => Q (retV fl) s') E0 (mkS s h₁ t₁)) :
    wpAny (model pw w) A (call (.ref 403) [v, v']) Q E (mkS s h t) := by
  refine wpAny_call (codeAny_call_cells (s := mkS s h t) (fd := fd403) (body := F403.2.1) (binds := [(Str.ofString "old", v), (nNew, v')]) hroom (S.bsNow.X _ _ (K403 _)) rfl S.bsNow.lim (codeRec_of S.bsNow.X (C403 _)) rfl (by rfl) rfl ?_ fun s₁ X => ?_)
  · intro x hx
    simp only [List.mem_cons, List.not_mem_nil, or_false] at hx
    rw [cells403]
    rcases hx with rfl | rfl
    · left; rfl
    · right; exact ⟨by rfl, by rfl⟩
  · obtain ⟨h₁, tk, rfl, hk⟩ := X.done
    have hc := X.cell nNew (h.objs.size + 1) (by show (cellsFrom (h.objs.size + 1) fd403.scope.names []).lookup nNew = _; rw [cells403]; rfl)
    obtain ⟨oc, eoc, doc⟩ := hc
    have e1 : bindL (callEnvC fd403 h.objs.size 403).kindOf [(Str.ofString "old", v), (nNew, v')] (fun _ => none) = look (LT (some v) none) := by
      have k1 : (callEnvC fd403 h.objs.size 403).kindOf (Str.ofString "old") = some .local := by rfl
      have k2 : ¬ (callEnvC fd403 h.objs.size 403).kindOf nNew = some .local := by
        rw [show (callEnvC fd403 h.objs.size 403).kindOf nNew = some .cell from rfl]; decide
      simp only [bindL, if_pos k1, if_neg k2]
      funext y
      unfold look LT
      by_cases hy : y = Str.ofString "old"
      · subst hy; simp
      · rw [if_neg hy]
        simp only [List.lookup_cons, beq_eq_false_iff_ne.mpr hy]
        by_cases hy2 : y = Str.ofString "codes"
        · subst hy2; simp
        · simp [beq_eq_false_iff_ne.mpr hy2]
    have e2 : bindC (callEnvC fd403 h.objs.size 403).kindOf [(Str.ofString "old", v), (nNew, v')] (fun _ => none) nNew = some v' := by
      have k1 : (callEnvC fd403 h.objs.size 403).kindOf (Str.ofString "old") = some .local := by rfl
      have k2 : ¬ (callEnvC fd403 h.objs.size 403).kindOf nNew = some .local := by
        rw [show (callEnvC fd403 h.objs.size 403).kindOf nNew = some .cell from rfl]; decide
      simp only [bindC, if_pos k1, if_neg k2, if_true]
    have hns := X.toInCall.ns
    rw [e1] at hns
    rw [e2] at doc
    have hfr : h.get? (h.objs.size + 1) = none := none_size h _ (Nat.le_succ _)
    have big : ∀ n, h.objs.size ≤ n → G n = none := fun n hn => by
      cases q : G n with
      | none => rfl
      | some o => exact absurd (Heap.lt_size (S.gin _ _ q)) (Nat.not_lt.mpr hn)
    have S1 : St w (callEnvC fd403 h.objs.size 403) G h [(h.objs.size + 1, oc)] (LT (some v) none) G h₁ :=
      { bs := S.bsNow, kind := rfl, glo := rfl, blt := rfl, fr := ⟨hns, X.toInCall.keep, X.toInCall.fresh⟩, nd := (by decide +kernel : ([Str.ofString "old", Str.ofString "codes"] : List Str).Nodup), lc := fun x hx => by
          have hx : x ∈ [Str.ofString "old", Str.ofString "codes"] := hx
          simp only [List.mem_cons, List.not_mem_nil, or_false] at hx
          rcases hx with rfl | rfl <;> rfl
       , gin := fun a o e => X.toInCall.keep _ _ (S.gin a o e), gsub := fun _ _ e => e, gnew := fun _ _ e => .inl e, gL := big _ (Nat.le_refl _),
        ow := fun p hp => by
          obtain rfl : p = (h.objs.size + 1, oc) := by simpa using hp
          exact ⟨eoc, Nat.succ_ne_self _, hfr, big _ (Nat.le_succ _)⟩, ond := by simp }
    obtain ⟨S2, g2⟩ := S1.freeze (a := h.objs.size + 1) .head
    exact wpAny_mono (k h₁ _ tk oc S2 g2 Store.put_self doc) (fun fl s' q => by cases fl <;> exact q) fun _ _ x => x.elim
/-- a list met as a source, whatever the target -/
theorem iterAllS {v : Value} {ds : List PyData} {Q : Value → Shared → Prop} (S : St w env G₀ h₀ own l G h) (r : Rep G v (.list ds))
    (k : ∀ h' p it Part, (∀ target, Iter w target it ds.length G Part (fun k G v => ∃ d, ds[k]? = some d ∧ Rep G v d)) → Part 0 p → St w env G₀ h₀ (p ++ own) l G h' →
      (∀ {A' : Around} {s : Shared} {Q : Value → Shared → Prop} {h : Heap} {t : Nat} {env' : Env} {G₀' h₀' own' l' G'}, St w env' G₀' h₀' (p ++ own') l' G' h → Q it (mkS s h t) → wpAny (model pw w) A' (pyIter it) Q E0 (mkS s h t)) → Q it (mkS s h' t)) :
    wpAny (model pw w) A (pyIter v) Q E (mkS s h t) := by
  cases r with
  | list e c d q =>
    rename_i a o vs n
    refine wpAny_pyIter_list (s := mkS s h t) ⟨o, S.gin _ _ e, c, n, d⟩ ?_
    have S1 := S.pushOwn { cls := .type "list_iterator", data := .fields #[.ref a, .int 0 0] } rfl
    refine k _ [(h.objs.size, { cls := .type "list_iterator", data := .fields #[.ref a, .int 0 0] })] (.ref h.objs.size) _ (fun _ => Iter.list (vs := vs.toList) e c ⟨n, by rw [d, Array.toArray_toList]⟩ q rfl) ⟨_, rfl, rfl, rfl⟩ S1 fun S' hq => ?_
    have g := (S'.ow _ (List.mem_append_left _ (List.mem_singleton.mpr rfl))).1
    exact wpAny_pyIter_listiter ⟨_, g, rfl, rfl⟩ hq
theorem range_filterMap {α β : Type} (f : α → Option β) : ∀ l : List α, (List.range l.length).filterMap (fun k => (l[k]?).bind f) = l.filterMap f := by
  intro l
  induction l with
  | nil => rfl
  | cons a l ih =>
    rw [List.length_cons, List.range_succ_eq_map, List.filterMap_cons]
    have e : ((List.range l.length).map Nat.succ).filterMap (fun k => ((a :: l)[k]?).bind f) = l.filterMap f := by
      rw [List.filterMap_map, ← ih]
      rfl
    rw [e, List.filterMap_cons]
    rfl
theorem slicePick_runs (items : Array Value) (a b : Nat) : slicePick items (some (a : Int)) (some (b : Int)) none = ((items.toList.drop a).take (b - a)).toArray := by
  rw [slicePick_plain]
  simp only [Option.elim, clipAt_nat]
  congr 1
  apply List.ext_getElem?
  intro i
  rw [List.getElem?_take, List.getElem?_take, List.getElem?_drop, List.getElem?_drop]
  by_cases h1 : a ≤ items.size
  · rw [Nat.min_eq_left h1]
    by_cases h2 : i < b - a
    · rw [if_pos h2]
      by_cases h3 : i < min b items.size - a
      · rw [if_pos h3]
      · rw [if_neg h3, List.getElem?_eq_none]; simp; lia
    · rw [if_neg h2, if_neg (by lia)]
  · rw [Nat.min_eq_right (show items.size ≤ a by lia)]
    rw [if_neg (by lia)]
    split
    · rw [List.getElem?_eq_none]; simp; lia
    · rfl
/-- a name in a cell -/
theorem ldCell {x : Str} {pos : Pos} {c : Addr} {oc : Obj} {v : Value} {Q : Value → Shared → Prop} (S : St w env G₀ h₀ own l G h) (e : G c = some oc) (hd : oc.data = .cell (some v)) (hc : env.cells.lookup x = some c) (hl : env.kindOf x = some .cell) (k : Q v (mkS s h t))
    (hdb : (x == ("__debug__" : Str)) = false := by decide +kernel) : wpAny (model pw w) A (eval (.Name x pos) env) Q E (mkS s h t) :=
  wpAny_Name (wpAny_loadName_cell (s := mkS s h t) S.kind hl hc ⟨oc, S.gin _ _ e, hd⟩ k) hdb
theorem keep380 (P : Params) : keepIn (K P) (.ref 380) = true := by kernel_rfl
noncomputable def toldOf (new : List Int) (ops : List Op) : List Ed := ops.filterMap fun o => if o.w = sEqu then none else some ⟨o.i1, o.i2, o.w, (new.drop o.j1).take (o.j2 - o.j1)⟩
theorem opsFrom_len : ∀ (N : List Tri) (i j : Nat), (opsFrom i j N).length ≤ 2 * N.length
  | [], _, _ => Nat.le_refl _
  | (ai, bj, n) :: r, i, j => by
    have := opsFrom_len r (ai + n) (bj + n)
    have h1 : (gapOp i ai j bj).length ≤ 1 := by unfold gapOp; split <;> simp
    have h2 : (eqOp ai bj n).length ≤ 1 := by unfold eqOp; split <;> simp
    simp only [opsFrom, List.length_append, List.length_cons]; lia
theorem told_map (bs : List Int) (ops : List Op) : (ops.filterMap fun o => if o.w = sEqu then none else some (dEd ⟨o.i1, o.i2, o.w, (bs.drop o.j1).take (o.j2 - o.j1)⟩)) = (toldOf bs ops).map dEd := by
  unfold toldOf
  rw [List.map_filterMap]
  congr 1
  funext o
  split <;> rfl
set_option maxHeartbeats 4000000 in
theorem told_spec {v v' : Value} {as bs : List Int} {Q : Value → Shared → Prop} (S : St w env G₀ h₀ own l G h) (ra : Rep G v (dInts as)) (rb : Rep G v' (dInts bs)) (hnd : bs.Nodup) (hla : as.length ≤ 60) (hlb : bs.length ≤ 60)
    (hmono : MonoM as bs) (hh : A.handled = none) (hroom : A.depth + 12 < recursionLimit) (hu : A.units + 400 < cLine)
    (k : ∀ h' G' t' x N, St w env G₀ h₀ own l G' h' → G.Sub G' → Rep G' x (dEds (toldOf bs (opsFrom 0 0 (N ++ [(as.length, bs.length, 0)])))) → (∀ f ∈ N, 0 < f.2.2) → PSpec as bs (N.flatMap tp) → Q x (mkS s h' t')) :
    wpAny (model pw w) A (call (.ref 403) [v, v']) Q E (mkS s h t) := by
  obtain ⟨la, vas, rfl, -, -⟩ := ra.isList S.gin
  obtain ⟨lb, vbs, rfl, -, -⟩ := rb.isList S.gin
  refine call403 S (by lia) fun h₁ G₁ t₁ oc S₁ g₁ ec dc => ?_
  have hcl : (callEnvC fd403 h.objs.size 403).cells.lookup nNew = some (h.objs.size + 1) := by
    show (cellsFrom (h.objs.size + 1) fd403.scope.names []).lookup nNew = _; rw [cells403]; rfl
  refine seqS (setS (MethodCall_ (Call_ (glS S₁ gl_SequenceMatcher (callWithK keep380 S₁ (args_cons (wpAny_Constant_none (args_cons (ldS S₁ (by walk_at "mem") (args_cons (ldCell S₁ ec dc hcl rfl (args_cons (wpAny_Constant_bool (args_nil ⟨S₁.bsNow.X, ?_⟩))))))))))))))
  refine matcher_spec S₁ (rb.mono g₁) hnd (by lia) (by exact hh) (by show A.depth + 1 + 6 < _; lia) fun h₂ G₂ t₂ x dx od d sj sp led S₂ g₂ ex D₂ B₂ es => ?_
  refine methA S₂ (S₂.gin _ _ ex) (S₂.ow _ (.head _)).1 D₂ (look_mAt meth_opcodes.free) meth_opcodes.find meth_opcodes.typ (callWith_K0 S₂.bsNow.X (meth_opcodes.keep _) ?_)
  have g12 := g₁.trans g₂
  refine opcodes_spec S₂ ex D₂ (ra.mono g12) (rb.mono g12) B₂ es hnd hla hlb hmono (by exact hh) (by show A.depth + 1 + 9 < _; lia) (by show A.units + 3 + 300 < _; lia) fun h₃ G₃ t₃ vc N S₃ g₃ rc hN hNl ps => ?_
  refine stS S₃ (by walk_at "set") fun h₄ t₄ S₄ => ?_
  have g13 := g12.trans g₃
  have ec' := (g₂.trans g₃) _ _ ec
  refine seqS (wpAny_Return_some ?_)
  rw [eval_ListComp]
  refine wpAny_comprehension_free (cl := [(nNew, h.objs.size + 1)]) rfl (fun _ => rfl) ?_ rfl ?_ ?_
  · rfl
  · decide
  refine ldS S₄ (by walk_at "mem") ?_
  generalize hops : opsFrom 0 0 (N ++ [(as.length, bs.length, 0)]) = ops at rc k
  refine iterAllS S₄ rc fun h₅ p it Part I hP S₅ hag => ?_
  refine compTailF (names := [Str.ofString "word", Str.ofString "i", Str.ofString "j", Str.ofString "k", Str.ofString "l"]) (dat := fun c => (ops[c]?).bind fun o => if o.w = sEqu then none else some (dEd ⟨o.i1, o.i2, o.w, (bs.drop o.j1).take (o.j2 - o.j1)⟩)) (I _) (by exact hh) (Store.Sub.refl _) hP S₅ (by rw [List.length_map, ← hops]; have := opsFrom_len (N ++ [(as.length, bs.length, 0)]) 0 0; simp at this ⊢; lia) hag (by decide +kernel) (by decide) ?_ ?_
  · intro L G₆ h₆ c hc own₆ G₇ h₇ t₇ vals x hv hi hG S₇
    obtain ⟨o1, o2, o3, o4, o5, rfl⟩ : ∃ o1 o2 o3 o4 o5, vals = [o1, o2, o3, o4, o5] := len5 hv
    obtain ⟨d, hd, rv⟩ := hi
    rw [List.length_map] at hc
    rw [List.getElem?_map, List.getElem?_eq_getElem hc] at hd
    obtain rfl := Option.some.inj hd
    simp only [List.getElem?_eq_getElem hc, Option.bind_some]
    generalize ops[c] = o at *
    refine unpackS S₇ rv (by exact hh) rfl rfl fun h₈ vs S₈ r₈ => ?_
    obtain ⟨_, _, _, _, _, rfl, b1, b2, b3, b4, b5⟩ := r₈.five
    obtain ⟨tk1, rfl⟩ := b1.strv
    obtain ⟨tk2, rfl⟩ := b2.intv
    obtain ⟨tk3, rfl⟩ := b3.intv
    obtain ⟨tk4, rfl⟩ := b4.intv
    obtain ⟨tk5, rfl⟩ := b5.intv
    refine inOrder_cons (wpAny_assign_Name (stS (l' := [(Str.ofString "word", some (.str o.w tk1)), (Str.ofString "i", o2), (Str.ofString "j", o3), (Str.ofString "k", o4), (Str.ofString "l", o5)]) S₈ .head fun h₉ u₉ S₉ => ?_))
    refine inOrder_cons (wpAny_assign_Name (stS S₉ (by walk_at "set") fun h₁₀ u₁₀ S₁₀ => inOrder_cons (wpAny_assign_Name (stS S₁₀ (by walk_at "set") fun h₁₁ u₁₁ S₁₁ => inOrder_cons (wpAny_assign_Name (stS S₁₁ (by walk_at "set") fun h₁₂ u₁₂ S₁₂ => inOrder_cons (wpAny_assign_Name (stS S₁₂ (by walk_at "set") fun h₁₃ u₁₃ S₁₃ => inOrder_nil ?_))))))))
    refine wpAny_isTrue_Compare1 (ldS S₁₃ (by walk_at "mem") (Calls.Constant_str (PyProof.Rows.ne_str (wpAny_truthy_bool ?_))))
    have g7 := hG
    by_cases ho : o.w = sEqu
    · rw [show (o.w != sEqu) = false by simp [ho], if_neg (by decide)]
      exact ⟨_, _, _, [_, _, _, _, _], rfl, S₁₃, rfl, Store.Sub.refl _, if_pos ho⟩
    · rw [show (o.w != sEqu) = true by simp [ho], if_pos rfl]
      refine Tuple_ (args_cons (ldS S₁₃ (by walk_at "mem") (args_cons (ldS S₁₃ (by walk_at "mem") (args_cons (ldS S₁₃ (by walk_at "mem") (args_cons ?_)))))))
      refine Subscript_ (ldCell S₁₃ (g7 _ _ ec') dc (by rfl) (by rfl) (wpAny_Slice (evalPart_some_step (ldS S₁₃ (by walk_at "mem") (evalPart_some_step (ldS S₁₃ (by walk_at "mem") (evalPart_none_step ?_)))))))
      refine sliceS (es := ((bs.drop o.j1).take (o.j2 - o.j1)).map .int) S₁₃ (rb.mono (g13.trans g7)) (.int _ _) (.int _ _) .none (by simp) (by simp; rw [sizeLine_eq]; lia) (fun vs rvs => ?_) fun h₁₄ G₁₄ y S₁₄ g₁₄ r₁₄ => args_nil ?_
      · rw [slicePick_runs, List.map_take, List.map_drop]
        simpa using (rvs.drop o.j1).take (o.j2 - o.j1)
      refine tupS S₁₄ (.cons (.int _ _) (.cons (.int _ _) (.cons (.str _ _) (.cons r₁₄ .nil)))) fun h₁₅ G₁₅ y S₁₅ g₁₅ r₁₅ => ?_
      exact ⟨_, _, _, [_, _, _, _, _], _, rfl, S₁₅, rfl, g₁₄.trans g₁₅, if_neg ho, r₁₅⟩
  · intro h' G' x t' S' g' r'
    rw [List.length_map, range_filterMap, told_map, ← hops] at r'
    exact k _ _ _ x N (S.back S') (g13.trans g') r' hN ps
end
/-- the edit that one gap tells -/
noncomputable def gapE (new : List Int) (i ai j bj : Nat) : List Ed := toldOf new (gapOp i ai j bj)
/-- the edits that pairs tell -/
noncomputable def pairE (new : List Int) (la lb : Nat) : Nat → Nat → List (Nat × Nat) → List Ed
  | i, j, [] => gapE new i la j lb
  | i, j, (a, b) :: r => gapE new i a j b ++ pairE new la lb (a + 1) (b + 1) r
theorem toldOf_app (new : List Int) (x y : List Op) : toldOf new (x ++ y) = toldOf new x ++ toldOf new y := List.filterMap_append
theorem told_eqOp (new : List Int) (a b n : Nat) : toldOf new (eqOp a b n) = [] := by
  unfold eqOp toldOf
  split <;> simp
theorem gapE_none (new : List Int) (i j : Nat) : gapE new i i j j = [] := by
  unfold gapE gapOp toldOf
  simp
theorem pairE_run (new : List Int) (la lb : Nat) (r : List (Nat × Nat)) : ∀ (n a b : Nat), pairE new la lb a b (tp (a, b, n) ++ r) = pairE new la lb (a + n) (b + n) r
  | 0, a, b => rfl
  | n + 1, a, b => by
    have e : tp (a, b, n + 1) = (a, b) :: tp (a + 1, b + 1, n) := by
      rw [Nat.add_comm n 1, tp_join]
      rfl
    rw [e, List.cons_append, pairE, gapE_none, List.nil_append, pairE_run new la lb r n (a + 1) (b + 1)]
    congr 1 <;> lia
theorem told_pairs (new : List Int) (la lb : Nat) : ∀ (N : List Tri) (i j : Nat), (∀ f ∈ N, 0 < f.2.2) → toldOf new (opsFrom i j (N ++ [(la, lb, 0)])) = pairE new la lb i j (N.flatMap tp)
  | [], i, j, _ => by
    simp only [List.nil_append, opsFrom, toldOf_app, told_eqOp, List.flatMap_nil, pairE]
    simp [toldOf, gapE]
  | (a, b, n) :: N, i, j, h => by
    have hn : 0 < n := h (a, b, n) (.head _)
    simp only [List.cons_append, opsFrom, toldOf_app, told_eqOp, List.flatMap_cons, List.nil_append]
    rw [told_pairs new la lb N _ _ fun f hf => h f (.tail _ hf)]
    obtain ⟨m, rfl⟩ : ∃ m, n = m + 1 := ⟨n - 1, by lia⟩
    have e : tp (a, b, m + 1) = (a, b) :: tp (a + 1, b + 1, m) := by
      rw [Nat.add_comm m 1, tp_join]
      rfl
    rw [e, List.cons_append, pairE, pairE_run]
    rw [show a + 1 + m = a + (m + 1) by lia, show b + 1 + m = b + (m + 1) by lia]
    rfl
noncomputable def shP (i j : Nat) (ps : List (Nat × Nat)) : List (Nat × Nat) := ps.map fun p => (i + p.1, j + p.2)
theorem PSpec.mono {as bs : List Int} {ps : List (Nat × Nat)} (S : PSpec as bs ps) : MonoM as bs := by
  intro i j i' j' h h' hi
  have m := (S.mem i j).mpr h
  have m' := (S.mem i' j').mpr h'
  have key : ∀ (ps : List (Nat × Nat)), ps.Pairwise (fun x y => x.1 < y.1 ∧ x.2 < y.2) → (i, j) ∈ ps → (i', j') ∈ ps → j < j' := by
    intro ps hp
    induction hp with
    | nil => intro a; cases a
    | cons a b ih =>
      intro x y
      rcases List.mem_cons.mp x with e | x1
      · rcases List.mem_cons.mp y with e' | y1
        · have : i' = i := (Prod.mk.inj (e'.trans e.symm)).1
          lia
        · have := (a _ y1).2
          rw [← e] at this
          exact this
      · rcases List.mem_cons.mp y with e' | y1
        · have := (a _ x1).1
          rw [← e'] at this
          simp only at this
          lia
        · exact ih x1 y1
  exact key ps S.asc m m'
theorem Mt.lt {as bs : List Int} {i j : Nat} (h : Mt as bs i j) : i < as.length ∧ j < bs.length := by
  obtain ⟨v, a, b⟩ := h
  exact ⟨(List.getElem?_eq_some_iff.mp a).1, (List.getElem?_eq_some_iff.mp b).1⟩
/-- two stretches with nothing across -/
theorem PSpec.app {as bs as' bs' : List Int} {ps qs : List (Nat × Nat)} (S : PSpec as bs ps) (T : PSpec as' bs' qs) (h1 : ∀ v ∈ as, v ∉ bs') (h2 : ∀ v ∈ as', v ∉ bs) :
    PSpec (as ++ as') (bs ++ bs') (ps ++ shP as.length bs.length qs) where
  asc := by
    refine List.pairwise_append.mpr ⟨S.asc, ?_, ?_⟩
    · unfold shP
      rw [List.pairwise_map]
      exact T.asc.imp fun {x y} h => ⟨Nat.add_lt_add_left h.1 _, Nat.add_lt_add_left h.2 _⟩
    · intro x hx y hy
      have := Mt.lt ((S.mem x.1 x.2).mp hx)
      obtain ⟨q, _, rfl⟩ := List.mem_map.mp hy
      exact ⟨by show x.1 < as.length + q.1; lia, by show x.2 < bs.length + q.2; lia⟩
  mem i j := by
    rw [List.mem_append]
    constructor
    · rintro (h | h)
      · obtain ⟨v, a, b⟩ := (S.mem i j).mp h
        exact ⟨v, by rw [List.getElem?_append_left (List.getElem?_eq_some_iff.mp a).1, a], by rw [List.getElem?_append_left (List.getElem?_eq_some_iff.mp b).1, b]⟩
      · obtain ⟨q, hq, e⟩ := List.mem_map.mp h
        obtain ⟨rfl, rfl⟩ := Prod.mk.inj e
        obtain ⟨v, a, b⟩ := (T.mem q.1 q.2).mp hq
        exact ⟨v, by rw [List.getElem?_append_right (by lia), Nat.add_sub_cancel_left, a], by rw [List.getElem?_append_right (by lia), Nat.add_sub_cancel_left, b]⟩
    · rintro ⟨v, a, b⟩
      rw [List.getElem?_append] at a b
      split at a
      · split at b
        · exact .inl ((S.mem i j).mpr ⟨v, a, b⟩)
        · exact absurd (List.mem_of_getElem? b) (h1 v (List.mem_of_getElem? a))
      · split at b
        · exact absurd (List.mem_of_getElem? b) (h2 v (List.mem_of_getElem? a))
        · refine .inr (List.mem_map.mpr ⟨(i - as.length, j - bs.length), (T.mem _ _).mpr ⟨v, a, b⟩, ?_⟩)
          show (as.length + (i - as.length), bs.length + (j - bs.length)) = (i, j)
          rw [show as.length + (i - as.length) = i by lia, show bs.length + (j - bs.length) = j by lia]
/-- a place and what may stand there after -/
inductive Pl : List Int → List Int → Prop
  | same (p) : p.Nodup → p.length ≤ 2 → Pl p p
  | new (y) : Pl [] [y]
  | gone (x) : Pl [x] []
  | swap (x y) : x ≠ y → Pl [x] [y]
  | behind (x y) : x ≠ y → Pl [x] [x, y]
  | ahead (x y) : x ≠ y → Pl [x] [y, x]
noncomputable def segP : List Int → List Int → List (Nat × Nat)
  | was, now => if was = now then (List.range was.length).map (fun i => (i, i)) else if was = now.take 1 ∧ was ≠ [] then [(0, 0)] else if was = now.drop 1 ∧ was ≠ [] then [(0, 1)] else []
theorem PSpec.same {p : List Int} (h : p.Nodup) : PSpec p p ((List.range p.length).map (fun i => (i, i))) where
  asc := by
    rw [List.pairwise_map]
    exact List.pairwise_lt_range.imp fun {a b} h => ⟨h, h⟩
  mem i j := by
    rw [List.mem_map]
    constructor
    · rintro ⟨a, ha, e⟩
      obtain ⟨rfl, rfl⟩ := Prod.mk.inj e
      have := List.mem_range.mp ha
      exact ⟨p[a], List.getElem?_eq_getElem this, List.getElem?_eq_getElem this⟩
    · rintro ⟨v, a, b⟩
      have ha := (List.getElem?_eq_some_iff.mp a)
      have hb := (List.getElem?_eq_some_iff.mp b)
      obtain ⟨ha, ea⟩ := ha
      obtain ⟨hb, eb⟩ := hb
      have : i = j := (List.getElem_inj h).mp (ea.trans eb.symm)
      subst this
      exact ⟨i, List.mem_range.mpr ha, rfl⟩
theorem Pl.pairs {was now : List Int} (h : Pl was now) : PSpec was now (segP was now) := by
  cases h with
  | same p hn hl => rw [segP, if_pos rfl]; exact PSpec.same hn
  | new y =>
    have e : segP [] [y] = [] := by simp [segP]
    rw [e]
    exact ⟨.nil, fun i j => by simp [Mt]⟩
  | gone x =>
    have e : segP [x] [] = [] := by simp [segP]
    rw [e]
    exact ⟨.nil, fun i j => by simp [Mt]⟩
  | swap x y hxy =>
    have e : segP [x] [y] = [] := by simp [segP, hxy]
    rw [e]
    refine ⟨.nil, fun i j => ?_⟩
    unfold Mt
    cases i <;> cases j <;> simp [hxy, Ne.symm hxy]
  | behind x y hxy =>
    have e : segP [x] [x, y] = [(0, 0)] := by simp [segP]
    rw [e]
    refine ⟨.cons (fun _ h => nomatch h) .nil, fun i j => ?_⟩
    unfold Mt
    match i, j with
    | 0, 0 => simp
    | 0, 1 => simp [hxy, Ne.symm hxy]
    | 0, j + 2 => simp
    | i + 1, j => simp
  | ahead x y hxy =>
    have e : segP [x] [y, x] = [(0, 1)] := by simp [segP, hxy]
    rw [e]
    refine ⟨.cons (fun _ h => nomatch h) .nil, fun i j => ?_⟩
    unfold Mt
    match i, j with
    | 0, 0 => simp [hxy, Ne.symm hxy]
    | 0, 1 => simp
    | 0, j + 2 => simp
    | i + 1, j => simp
theorem nIns : ¬ sIns = sEqu := by decide +kernel
theorem nDel : ¬ sDel = sEqu := by decide +kernel
theorem nRep : ¬ sRep = sEqu := by decide +kernel
theorem told_one (new : List Int) (o : Op) (h : ¬ o.w = sEqu) : toldOf new [o] = [⟨o.i1, o.i2, o.w, (new.drop o.j1).take (o.j2 - o.j1)⟩] := by
  unfold toldOf
  rw [List.filterMap_cons_some (b := ⟨o.i1, o.i2, o.w, (new.drop o.j1).take (o.j2 - o.j1)⟩) (by rw [if_neg h])]
  rfl
theorem gapE_ins (new : List Int) (i j n : Nat) (hn : 0 < n) : gapE new i i j (j + n) = [⟨i, i, sIns, (new.drop j).take n⟩] := by
  have e : gapOp i i j (j + n) = [⟨sIns, i, i, j, j + n⟩] := by
    rw [gapOp, if_pos (by lia), tagOf, if_neg (by lia), if_pos (by lia)]
  rw [gapE, e, told_one _ _ nIns]
  simp only [Nat.add_sub_cancel_left]
theorem gapE_del (new : List Int) (i j n : Nat) (hn : 0 < n) : gapE new i (i + n) j j = [⟨i, ((i + n : Nat) : Int), sDel, []⟩] := by
  have e : gapOp i (i + n) j j = [⟨sDel, i, i + n, j, j⟩] := by
    rw [gapOp, if_pos (by lia), tagOf, if_pos (by lia), if_neg (by lia)]
  rw [gapE, e, told_one _ _ nDel]
  simp only [Nat.sub_self, List.take_zero]
theorem gapE_rep (new : List Int) (i j n m : Nat) (hn : 0 < n) (hm : 0 < m) : gapE new i (i + n) j (j + m) = [⟨i, ((i + n : Nat) : Int), sRep, (new.drop j).take m⟩] := by
  have e : gapOp i (i + n) j (j + m) = [⟨sRep, i, i + n, j, j + m⟩] := by
    rw [gapOp, if_pos (by lia), tagOf, if_pos (by lia), if_pos (by lia)]
  rw [gapE, e, told_one _ _ nRep]
  simp only [Nat.add_sub_cancel_left]
/-- one place of a row tells its one edit -/
theorem pairE_place {was now : List Int} (h : Pl was now) (new : List Int) (i j : Nat) (hw : (new.drop j).take now.length = now) :
    (∀ (la lb : Nat) (r : List (Nat × Nat)), pairE new la lb i j (shP i j (segP was now) ++ (i + was.length, j + now.length) :: r) = ed1 i was now ++ pairE new la lb (i + was.length + 1) (j + now.length + 1) r) ∧
    pairE new (i + was.length) (j + now.length) i j (shP i j (segP was now)) = ed1 i was now := by
  have key : ∀ (la lb : Nat) (r : List (Nat × Nat)), pairE new la lb i j (shP i j (segP was now) ++ (i + was.length, j + now.length) :: r) = pairE new (i + was.length) (j + now.length) i j (shP i j (segP was now)) ++ pairE new la lb (i + was.length + 1) (j + now.length + 1) r := by
    have gen : ∀ (la lb a b : Nat) (r ps : List (Nat × Nat)) (i j : Nat), pairE new la lb i j (ps ++ (a, b) :: r) = pairE new a b i j ps ++ pairE new la lb (a + 1) (b + 1) r := by
      intro la lb a b r ps
      induction ps with
      | nil => intro i j; rfl
      | cons p ps ih => intro i j; rw [List.cons_append, pairE, ih, pairE, List.append_assoc]
    exact fun la lb r => gen _ _ _ _ _ _ _ _
  suffices q : pairE new (i + was.length) (j + now.length) i j (shP i j (segP was now)) = ed1 i was now from ⟨fun la lb r => by rw [key, q], q⟩
  cases h with
  | same p hn hl =>
    rw [segP, if_pos rfl, ed1, if_pos rfl]
    have e : shP i j ((List.range was.length).map fun i => (i, i)) = tp (i, j, was.length) ++ [] := by
      rw [List.append_nil]
      unfold shP tp
      rw [List.map_map]
      rfl
    rw [e, pairE_run, pairE, gapE_none]
  | new y =>
    have e : segP [] [y] = [] := by simp [segP]
    rw [e]
    show gapE new i i j (j + 1) = _
    rw [gapE_ins _ _ _ _ (by decide)]
    simp [ed1] at hw ⊢
    exact hw
  | gone x =>
    have e : segP [x] [] = [] := by simp [segP]
    rw [e]
    show gapE new i (i + 1) j j = _
    rw [gapE_del _ _ _ _ (by decide)]
    simp [ed1]
  | swap x y hxy =>
    have e : segP [x] [y] = [] := by simp [segP, hxy]
    rw [e]
    show gapE new i (i + 1) j (j + 1) = _
    rw [gapE_rep _ _ _ _ _ (by decide) (by decide)]
    simp [ed1, hxy] at hw ⊢
    exact hw
  | behind x y hxy =>
    have e : segP [x] [x, y] = [(0, 0)] := by simp [segP]
    rw [e]
    show gapE new i i j j ++ gapE new (i + 1) (i + 1) (j + 1) (j + 1 + 1) = _
    rw [gapE_none, gapE_ins _ _ _ _ (by decide)]
    have h2 : (new.drop (j + 1)).take 1 = [y] := by
      have := congrArg (List.drop 1) hw
      rw [List.drop_take, List.drop_drop] at this
      exact this
    simp [ed1, h2]
  | ahead x y hxy =>
    have e : segP [x] [y, x] = [(0, 1)] := by simp [segP, hxy]
    rw [e]
    show gapE new i i j (j + 1) ++ gapE new (i + 1) (i + 1) (j + 1 + 1) (j + 2) = _
    rw [gapE_none, gapE_ins _ _ _ _ (by decide)]
    have h2 : (new.drop j).take 1 = [y] := by
      have := congrArg (List.take 1) hw
      rw [List.take_take] at this
      exact this
    simp [ed1, h2, hxy]
structure PlAt (k : Nat) (was now : List Int) : Prop where
  pl : Pl was now
  w : ∀ v ∈ was, 10 * (k : Int) < v ∧ v < 10 * (k : Int) + 10
  n : ∀ v ∈ now, 10 * (k : Int) < v ∧ v < 10 * (k : Int) + 10
inductive PlsAt : Nat → List (List Int) → List (List Int) → Prop
  | nil (k) : PlsAt k [] []
  | cons {k was now ws ns} : PlAt k was now → PlsAt (k + 1) ws ns → PlsAt k (was :: ws) (now :: ns)
noncomputable def canP : Nat → List (List Int) → List (List Int) → List (Nat × Nat)
  | k, was :: ws, now :: ns => (if k = 0 then [] else [(0, 0)]) ++ shP (if k = 0 then 0 else 1) (if k = 0 then 0 else 1) (segP was now ++ shP was.length now.length (canP (k + 1) ws ns))
  | _, _, _ => []
theorem shP_app (i j : Nat) (a b : List (Nat × Nat)) : shP i j (a ++ b) = shP i j a ++ shP i j b := List.map_append
theorem shP_shP (i j i' j' : Nat) (a : List (Nat × Nat)) : shP i j (shP i' j' a) = shP (i + i') (j + j') a := by
  unfold shP
  rw [List.map_map]
  refine List.map_congr_left fun p _ => ?_
  show (i + (i' + p.1), j + (j' + p.2)) = (i + i' + p.1, j + j' + p.2)
  rw [Nat.add_assoc, Nat.add_assoc]
theorem shP_zero (a : List (Nat × Nat)) : shP 0 0 a = a := by
  unfold shP
  rw [show (fun p : Nat × Nat => (0 + p.1, 0 + p.2)) = id from funext fun p => by simp]
  exact List.map_id a
theorem PlsAt.two {M : Nat → List (List Int) → List (List Int) → List (List Int) → Prop} (h0 : ∀ k, M k [] [] []) (h1 : ∀ {k b o t bs os ts}, PlAt k b o → PlAt k b t → PlsAt (k + 1) bs os → PlsAt (k + 1) bs ts → M (k + 1) bs os ts → M k (b :: bs) (o :: os) (t :: ts))
    {k : Nat} {bs os ts : List (List Int)} (P : PlsAt k bs os) (P' : PlsAt k bs ts) : M k bs os ts := by
  induction P generalizing ts with
  | nil k => cases P'; exact h0 k
  | cons a r ih => cases P' with | cons a' r' => exact h1 a a' r r' (ih r')
theorem PlsAt.low {k : Nat} {ws ns : List (List Int)} (P : PlsAt k ws ns) : (∀ v ∈ rowFrom k ws, 10 * (k : Int) ≤ v) ∧ (∀ v ∈ rowFrom k ns, 10 * (k : Int) ≤ v) := by
  induction P with
  | nil => exact ⟨fun _ h => absurd h List.not_mem_nil, fun _ h => absurd h List.not_mem_nil⟩
  | @cons k was now ws ns a r ih =>
    constructor
    · intro v hv
      simp only [rowFrom, List.mem_append] at hv
      rcases hv with (hv | hv) | hv
      · split at hv
        · cases hv
        · have := List.mem_singleton.mp hv; lia
      · have := a.w v hv; lia
      · have := ih.1 v hv; lia
    · intro v hv
      simp only [rowFrom, List.mem_append] at hv
      rcases hv with (hv | hv) | hv
      · split at hv
        · cases hv
        · have := List.mem_singleton.mp hv; lia
      · have := a.n v hv; lia
      · have := ih.2 v hv; lia
theorem PlsAt.spec {k : Nat} {ws ns : List (List Int)} (P : PlsAt k ws ns) : PSpec (rowFrom k ws) (rowFrom k ns) (canP k ws ns) := by
  induction P with
  | nil => exact ⟨.nil, fun i j => by simp [Mt, rowFrom, canP]⟩
  | @cons k was now ws ns a r ih =>
    have lo := r.low
    have S := (a.pl.pairs).app ih (fun v hv hv' => by have := a.w v hv; have := lo.2 v hv'; lia) (fun v hv hv' => by have := a.n v hv'; have := lo.1 v hv; lia)
    by_cases hk : k = 0
    · simp only [rowFrom, canP, hk, if_true, List.nil_append, shP_zero]
      subst hk
      exact S
    · simp only [rowFrom, canP, if_neg hk, List.append_assoc]
      have M : PSpec [10 * (k : Int)] [10 * (k : Int)] [(0, 0)] := ⟨.cons (fun _ h => nomatch h) .nil, fun i j => by
        unfold Mt
        cases i with
        | zero => cases j <;> simp
        | succ i => simp⟩
      exact M.app S (fun v hv hv' => by
        have := List.mem_singleton.mp hv
        rcases List.mem_append.mp hv' with h | h
        · have := a.n v h; lia
        · have := lo.2 v h; lia) (fun v hv hv' => by
        have := List.mem_singleton.mp hv'
        rcases List.mem_append.mp hv with h | h
        · have := a.w v h; lia
        · have := lo.1 v h; lia)
theorem PlsAt.tell : ∀ {k : Nat} {ws ns : List (List Int)}, PlsAt (k + 1) ws ns → ∀ {was now : List Int}, Pl was now → ∀ (new : List Int) (i j : Nat), new.drop j = now ++ rowFrom (k + 1) ns →
    pairE new (i + was.length + (rowFrom (k + 1) ws).length) (j + now.length + (rowFrom (k + 1) ns).length) i j (shP i j (segP was now) ++ shP (i + was.length) (j + now.length) (canP (k + 1) ws ns)) =
      ed1 i was now ++ editsFrom ((i : Int) + was.length + 1) (ws.zip ns)
  | k, _, _, .nil _, was, now, p, new, i, j, hd => by
    have hw : (new.drop j).take now.length = now := by rw [hd]; simp
    have := (pairE_place p new i j hw).2
    simp only [canP, shP, List.map_nil, List.append_nil, rowFrom, List.length_nil, Nat.add_zero, List.zip_nil_left, editsFrom] at this ⊢
    exact this
  | k, _, _, .cons (was := was') (now := now') (ws := ws) (ns := ns) a r, was, now, p, new, i, j, hd => by
    have hw : (new.drop j).take now.length = now := by rw [hd]; simp
    have h1 := (pairE_place p new i j hw).1
    have hd' : new.drop (j + now.length + 1) = now' ++ rowFrom (k + 1 + 1) ns := by
      have e := congrArg (List.drop (now.length + 1)) hd
      rw [List.drop_drop, ← Nat.add_assoc] at e
      rw [e]
      simp [rowFrom]
    have ih := r.tell a.pl new (i + was.length + 1) (j + now.length + 1) hd'
    have hk : ¬ k + 1 = 0 := by lia
    have e : shP (i + was.length) (j + now.length) (canP (k + 1) (was' :: ws) (now' :: ns)) = (i + was.length, j + now.length) :: (shP (i + was.length + 1) (j + now.length + 1) (segP was' now') ++ shP (i + was.length + 1 + was'.length) (j + now.length + 1 + now'.length) (canP (k + 1 + 1) ws ns)) := by
      rw [canP, if_neg hk, if_neg hk, shP_app, shP_shP, shP_app, shP_shP]
      rfl
    rw [e, h1]
    have l1 : i + was.length + (rowFrom (k + 1) (was' :: ws)).length = i + was.length + 1 + was'.length + (rowFrom (k + 1 + 1) ws).length := by
      simp only [rowFrom, if_neg hk, List.length_append, List.length_cons, List.length_nil]; lia
    have l2 : j + now.length + (rowFrom (k + 1) (now' :: ns)).length = j + now.length + 1 + now'.length + (rowFrom (k + 1 + 1) ns).length := by
      simp only [rowFrom, if_neg hk, List.length_append, List.length_cons, List.length_nil]; lia
    rw [l1, l2, ih]
    simp only [List.zip_cons_cons, editsFrom]
    norm_cast
theorem PlsAt.told {ws ns : List (List Int)} (P : PlsAt 0 ws ns) {N : List Tri} (hn : ∀ f ∈ N, 0 < f.2.2) (S : PSpec (rowFrom 0 ws) (rowFrom 0 ns) (N.flatMap tp)) :
    toldOf (rowFrom 0 ns) (opsFrom 0 0 (N ++ [((rowFrom 0 ws).length, (rowFrom 0 ns).length, 0)])) = editsFrom 0 (ws.zip ns) := by
  rw [told_pairs _ _ _ _ _ _ hn, S.unique P.spec]
  cases P with
  | nil => simp only [rowFrom, canP, pairE, List.length_nil, gapE_none, List.zip_nil_left, editsFrom]
  | cons a r =>
    rename_i was now ws ns
    have := r.tell a.pl (rowFrom 0 (now :: ns)) 0 0 (by simp [rowFrom])
    simp only [canP, if_true, List.nil_append, shP_zero] at this ⊢
    simp only [rowFrom, if_true, List.nil_append, List.length_append, Nat.zero_add, shP_zero, List.zip_cons_cons, editsFrom] at this ⊢
    exact this
theorem Pl.nodup {was now : List Int} (h : Pl was now) : was.Nodup ∧ now.Nodup := by
  cases h with
  | same p hn hl => exact ⟨hn, hn⟩
  | new y => simp
  | gone x => simp
  | swap x y h => simp
  | behind x y h => simp [h]
  | ahead x y h => simp [Ne.symm h]
theorem PlsAt.nodup {k : Nat} {ws ns : List (List Int)} (P : PlsAt k ws ns) : (rowFrom k ws).Nodup ∧ (rowFrom k ns).Nodup := by
  induction P with
  | nil => exact ⟨.nil, .nil⟩
  | @cons k was now ws ns a r ih =>
    have lo := r.low
    have hp := a.pl.nodup
    constructor
    · simp only [rowFrom, List.append_assoc]
      refine List.nodup_append.mpr ⟨by split <;> simp, List.nodup_append.mpr ⟨hp.1, ih.1, fun v hv u hu e => ?_⟩, fun v hv u hu e => ?_⟩
      · have := a.w v hv; have := lo.1 u hu; lia
      · split at hv
        · cases hv
        · have := List.mem_singleton.mp hv
          rcases List.mem_append.mp hu with hu | hu
          · have := a.w u hu; lia
          · have := lo.1 u hu; lia
    · simp only [rowFrom, List.append_assoc]
      refine List.nodup_append.mpr ⟨by split <;> simp, List.nodup_append.mpr ⟨hp.2, ih.2, fun v hv u hu e => ?_⟩, fun v hv u hu e => ?_⟩
      · have := a.n v hv; have := lo.2 u hu; lia
      · split at hv
        · cases hv
        · have := List.mem_singleton.mp hv
          rcases List.mem_append.mp hu with hu | hu
          · have := a.n u hu; lia
          · have := lo.2 u hu; lia
theorem obj_mro : mroOf (.type "object") = pure [.type "object"] := by rw [mroOf_type]; kernel_rfl
theorem obj_lookup_new : typeLookup (.type "object") "__new__" = pure (some (.builtin "object.__new__")) := by rw [typeLookup_type, builtinLookup_eq_fast]; kernel_rfl
theorem obj_slot_init : Slot "object" "__init__" "object.__init__" :=
  .of (owner := "object") (n := "__init__") (by rw [typeLookup_type, builtinLookup_eq_fast]; kernel_rfl) (by decide +kernel) (by decide +kernel) (by decide +kernel)
    (by first | exact .inl (by decide +kernel) | exact .inr (by decide +kernel)) (by rw [isSubtype_type]; kernel_rfl)
theorem obj_called : TypeCalled "object" "object.__new__" "object.__init__" :=
  ⟨by decide +kernel, by decide +kernel, ⟨_, _, obj_mro⟩, madeBy_type obj_mro obj_lookup_new (by decide +kernel), by decide +kernel, by rw [isSubtype_type]; kernel_rfl, obj_slot_init⟩
theorem obj_typeCall : checkTypeCall "object" ⟨[], []⟩ = pure () := by kernel_rfl
theorem obj_newCall : checkBuiltinCall "object.__new__" ⟨[.type "object"], []⟩ = pure () := by kernel_rfl
theorem obj_plain : plainId "object.__new__" = true := by decide +kernel
theorem obj_entry : entryFor table "object.__new__" = some Builtin.«object.__new__» := entryFor_of_tree (by kernel_rfl)
theorem obj_init_args (a : Value) : argsOk "object.__init__" ⟨[a], []⟩ := by unfold argsOk; kernel_rfl
theorem obj_here : Bind.madeHere "object.__new__" (.type "object") = pure () := by kernel_rfl
noncomputable abbrev objO : Obj := { cls := .type "object", data := .plain }
theorem obj_new : Meets (Builtin.«object.__new__» ⟨[.type "object"], []⟩) (fun _ R s => R (.ok (.ret (.ref s.heap.objs.size))) { s with heap := s.heap.push objO }) :=
  .of_wp fun prog w A R s h => by
    obtain ⟨hp, g, d, tk, os⟩ := s
    have h1 := obj_here
    wp_walk
    exact ⟨_, rfl, h⟩
theorem sub_obj_tup : isSubtype (.type "object") (.type "tuple") = pure false := by rw [isSubtype_type]; kernel_rfl
theorem sub_tup_obj : isSubtype (.type "tuple") (.type "object") = pure true := by rw [isSubtype_type]; kernel_rfl
section
variable {w : World} {env : Env} {G₀ G : Store} {h₀ h : Heap} {own : List (Addr × Obj)} {l : Loc} {A : Around} {E : Value → Shared → Prop} {s : Shared} {t : Nat}
/-- object() -/
theorem objMake {Q : Value → Shared → Prop} (S : St w env G₀ h₀ own l G h) (k : ∀ h' G' n, St w env G₀ h₀ own l G' h' → G.Sub G' → G' n = some objO → Q (.ref n) (mkS s h' t)) :
    wpAny (model pw w) A (call (.type "object") []) Q E (mkS s h t) := by
  obtain ⟨S', g'⟩ := S.push objO rfl
  refine callType_codes (Q₁ := fun obj s₁ => obj = .ref h.objs.size ∧ s₁ = mkS s (h.push objO) t) obj_called obj_typeCall PySem.F.entry_object_init ?_ fun obj s₁ h₁ => ?_
  · refine codeAny_call_builtin obj_plain obj_entry (wpAny_of_eq obj_newCall ?_)
    have h1 := obj_here
    unfold Builtin.«object.__new__»
    wp_walk
    exact ⟨rfl, rfl⟩
  · obtain ⟨rfl, rfl⟩ := h₁
    refine ⟨⟨_, Heap.get?_push_size _ rfl, rfl⟩, obj_init_args _, ?_⟩
    exact wpAny_pure ⟨rfl, k _ _ _ S' g' Store.put_self⟩
/-- list(x) of a list -/
theorem copyS {v : Value} {ds : List PyData} {Q : Value → Shared → Prop} (S : St w env G₀ h₀ own l G h) (r : Rep G v (.list ds)) (hz : ds.length ≤ sizeLine)
    (k : ∀ h' a vs n, St w env G₀ h₀ ((a, lstO vs n) :: own) l G h' → RepAll G vs ds → Q (.ref a) (mkS s h' t)) :
    wpAny (model pw w) A (call (.type "list") [v]) Q E (mkS s h t) := by
  obtain ⟨a, vs, rfl, ⟨o, ho, hc, n, hd⟩, ra⟩ := r.isList S.gin
  refine call_list_seq (s := mkS s h t) (hsz := by have := ra.length; simp; lia) a (.inl rfl) ho hc hd fun h' c' hk hD => ?_
  exact k h' _ vs c' (S.gain hk (none_size h _ (Nat.le_refl _)) hD) ra
/-- len of an own list -/
theorem lenOwnS {a : Addr} {vs : List Value} {n : Nat} {Q : Value → Shared → Prop} (S : St w env G₀ h₀ own l G h) (ho : (a, lstO vs n) ∈ own) (hf : vs.length ≤ 10000)
    (k : ∀ u t', Q (.int (vs.length : Nat) u) (mkS s h t')) : wpAny (model pw w) A (call (.builtin "len") [.ref a]) Q E (mkS s h t) := by
  refine call_len_list (s := mkS s h t) (⟨_, (S.ow _ ho).1, rfl, n, rfl⟩ : h.IsList a vs.toArray) (by simp; lia) ?_
  rw [show (vs.toArray.size : Int) = ((vs.length : Nat) : Int) by simp]
  exact k _ _
/-- x[j], any value of an own list -/
theorem itemRaw {value slice : PySem.Expr} {a : Addr} {vs : List Value} {n : Nat} {k : Int} {j : Nat} {u : Tok} {x : Value} {Q : Value → Shared → Prop} (S : St w env G₀ h₀ own l G h) (ho : (a, lstO vs n) ∈ own) (hk : k = (j : Int)) (hf : j ≤ 10000) (hx : vs[j]? = some x)
    (kk : Q x (mkS s h t))
    (hs : ∀ a, subscripted slice false (.ref a) (.int k u) = operate [.ref a, .int k u] (getItem (.ref a) (.int k u)) := by intro _; with_unfolding_all rfl) (hg : ∀ a r, letTemporaryGo value (.ref a) r = pure () := by intro _ _; with_unfolding_all rfl) :
    wpAny (model pw w) A (subscriptTail value slice (.ref a) (.int k u)) Q E (mkS s h t) := by
  subst hk
  exact item_list (s := mkS s h t) (⟨_, (S.ow _ ho).1, rfl, n, rfl⟩ : h.IsList a vs.toArray) (by lia) (by lia) (by simpa using hx) kk (hs a) (hg a)
theorem mine_setItem {w : World} {A : Around} {E : Value → Shared → Prop} {s : Shared} {a : Addr} {vs : List Value} {n j : Nat} {kk : Int} {u : Tok} {v : Value} {Q : Unit → Shared → Prop} (ho : s.heap.get? a = some (lstO vs n)) (hj : j < vs.toArray.size) (h0 : 0 ≤ kk) (hf : kk < 2 ^ 63) (hk : kk = Int.ofNat j)
    (hQ : Q () { s with heap := s.heap.update a (Obj.mapSeq (·.setIfInBounds j v)) }) : wpAny (model pw w) A (setItem (.ref a) (.int kk u) v) Q E s := by
  have hl : s.heap.IsList a vs.toArray := ⟨_, ho, rfl, n, rfl⟩
  unfold setItem
  try with_reducible refine wpAny_holding ?_
  first | refine wpAny_bind (wpAny_pure ?_) | skip
  refine wpAny_bind (wpAny_sequenceKey hl.typeIs (by decide) ?_)
  refine wpAny_bind (wpAny_callSpecial?_slot (name := Str.ofString "__setitem__") hl.typeIs slot_list_setitem
    (wpAny_call_entry slot_list_setitem hl.typeIs entry_list_setitem ?_ (args_list_setitem _ _ _)))
  show wpAny _ _ (Builtin.List.listSubscript? (.int kk u) >>= _) _ _ s
  refine wpAny_bind (wpAny_listSubscript_int (fitsIndex_of h0 hf) ?_)
  clear hf
  subst hk
  have hx' : vs.toArray[j]? = some vs.toArray[j] := Array.getElem?_eq_getElem hj
  show wpAny _ _ ((seqItemAt a j >>= fun r => pure (r.map (j, ·))) >>= _) _ _ s
  refine wpAny_bind (wpAny_bind (wpAny_seqItemAt ho rfl (wpAny_pure ?_)))
  rw [hx']
  show wpAny _ _ (setSeqItemAt a j v >>= _) _ _ s
  refine wpAny_bind (wpAny_setSeqItemAt ho rfl ?_)
  first
    | exact wpAny_bind (wpAny_pure (wpAny_pure ⟨.none, rfl, wpAny_pure hQ⟩))
    | exact wpAny_pure ⟨.none, rfl, wpAny_pure hQ⟩
/-- own[j] = v -/
theorem setItemOwn {a : Addr} {vs : List Value} {n : Nat} {j : Nat} {u : Tok} {v : Value} {ow : Obj → List (Addr × Obj)} {Q : Unit → Shared → Prop} (S : St w env G₀ h₀ own l G h) (ho : ∀ o', OwnTo own a (lstO vs n) o' (ow o')) (hj : j < vs.length) (hz : vs.length ≤ 10000)
    (k : ∀ h' n', St w env G₀ h₀ (ow (lstO (vs.set j v) n')) l G h' → Q () (mkS s h' t)) : wpAny (model pw w) A (setItem (.ref a) (.int (j : Nat) u) v) Q E (mkS s h t) := by
  have e := (S.ow _ (ho (lstO [] 0)).mem).1
  have q : ∃ n', Obj.mapSeq (·.setIfInBounds j v) (lstO vs n) = lstO (vs.set j v) n' := ⟨_, by simp [Obj.mapSeq, lstO]; rfl⟩
  obtain ⟨n', q⟩ := q
  have S' := S.upd (ho (lstO (vs.set j v) n')) (Heap.SameBut.update h a (Obj.mapSeq (·.setIfInBounds j v))) (by rw [← q]; exact Heap.get?_update_self _ e (by rw [q]; rfl))
  exact mine_setItem (s := mkS s h t) e (by simpa using hj) (by lia) (by lia) rfl (k _ n' S')
/-- NULL == a tuple -/
theorem eqNT {n a : Addr} {ot : Obj} {xs : Array Value} {m : Nat} {Q : Value → Shared → Prop} (S : St w env G₀ h₀ own l G h) (en : G n = some objO) (ea : G a = some ot) (hc : ot.cls = .type "tuple") (hd : ot.data = .seq xs m) (hu : A.units + 10 < cLine)
    (k : Q (.bool false) (mkS s h t)) : wpAny (model pw w) A (compareOp .Eq (.ref n) (.ref a)) Q E (mkS s h t) := by
  have hne : n ≠ a := by rintro rfl; rw [en] at ea; cases ea; exact absurd hc (by decide)
  have hn := S.gin _ _ en
  have ha := S.gin _ _ ea
  have Tn : (mkS s h t).TypeIs (.ref n) "object" := ⟨_, hn, rfl⟩
  have Ta : (mkS s h t).TypeIs (.ref a) "tuple" := ⟨_, ha, hc⟩
  show wpAny _ _ (richCompare .Eq _ _) _ _ _
  simp only [richCompare, Tn.oneThing_none]
  refine wpAny_holding (wpAny_bind (wpAny_cRoomFor (by lia) ?_))
  refine wpAny_bind (wpAny_typeOf Tn (wpAny_bind (wpAny_typeOf Ta ?_)))
  simp only [show (Value.type "object" != Value.type "tuple") = true from by decide, if_true]
  refine wpAny_bind (wpAny_of_eq sub_tup_obj ?_)
  simp only [if_true]
  refine wpAny_bind (m := tryCompare (.ref a) _ (.ref n)) (wpAny_tryCompare_declines Ta PySem.F.slot_tuple_eq_refl (wpAny_call_entry PySem.F.slot_tuple_eq Ta PySem.F.entry_tuple_eq ?_ (PySem.F.args_tuple_eq_2 _ _)))
  show wpAny _ _ (isInstance (.ref n) (.type "tuple") >>= _) _ _ _
  refine wpAny_bind (wpAny_isInstance (T := "object") (b := false) Tn sub_obj_tup ?_)
  refine KFB.if_so (by rfl) (wpAny_bind (wpAny_pure (wpAny_pure ⟨_, rfl, rfl, ?_⟩)))
  refine wpAny_bind (m := tryCompare (.ref n) _ (.ref a)) (wpAny_tryCompare_declines Tn PySem.F.slot_object_eq (wpAny_call_entry PySem.F.slot_object_eq Tn PySem.F.entry_object_eq ?_ (PySem.F.args_object_eq_2 _ _)))
  show wpAny _ _ (isSame (.ref n) (.ref a) >>= _) _ _ _
  refine wpAny_bind (wpAny_isSame_ref_other (s := mkS s h t) hne hn ha (by decide) ?_)
  refine KFB.if_not (by rfl) (wpAny_pure ⟨_, rfl, rfl, ?_⟩)
  simp only [Bool.not_true, Bool.false_eq_true, if_false]
  refine wpAny_bind (wpAny_rule (wpAny_bind (wpAny_isSame_ref_other (s := mkS s h t) hne hn ha (by decide) (wpAny_pure k))))
/-- x is NULL -/
theorem isNT {n a : Addr} {ot : Obj} {Q : Value → Shared → Prop} (S : St w env G₀ h₀ own l G h) (en : G n = some objO) (ea : G a = some ot) (hc : ot.cls = .type "tuple")
    (k : Q (.bool false) (mkS s h t)) : wpAny (model pw w) A (compareOp .Is (.ref a) (.ref n)) Q E (mkS s h t) := by
  show wpAny _ A (do return .bool (← isSame (.ref a) (.ref n))) Q E _
  have hne : a ≠ n := by rintro rfl; rw [en] at ea; cases ea; exact absurd hc (by decide)
  exact wpAny_bind (PySem.SeqAt.wpAny_isSame_ref_other' (s := mkS s h t) hne (S.gin _ _ ea) (S.gin _ _ en) (by simp) (wpAny_pure k))
end
noncomputable abbrev fd159 : FuncData := fnOf (Str.ofString "_count_diff_all_purpose") (Str.ofString "_count_diff_all_purpose") F159.1 F159.2.1 F159.2.2.1 Value.none Value.none (Value.str (docOr F159.2.1) 429) (Value.str (Str.ofString "cpy313.unittest.util") 194) none (Value.ref 158) Value.none
theorem K159 (P : Params) : (K P).lookup 159 = some ⟨.type "function", none, .func fd159, #[]⟩ := by rfl
theorem C159 (P : Params) : codeIn (K P) fd159.code fd159.qualname = true := by rfl
/-! ## a list with marks -/
noncomputable def mk (nl : Value) (P : Nat → Bool) (vs : List Value) : List Value := vs.mapIdx fun j v => if P j then nl else v
theorem mk_len {nl : Value} {P : Nat → Bool} {vs : List Value} : (mk nl P vs).length = vs.length := by simp [mk]
theorem mk_get {nl : Value} {P : Nat → Bool} {vs : List Value} {j : Nat} : (mk nl P vs)[j]? = vs[j]?.map fun v => if P j then nl else v := by simp [mk, List.getElem?_mapIdx]
theorem mk_congr {nl : Value} {P P' : Nat → Bool} {vs : List Value} (h : ∀ j, j < vs.length → P j = P' j) : mk nl P vs = mk nl P' vs := by
  apply List.ext_getElem?
  intro j
  rw [mk_get, mk_get]
  by_cases hj : j < vs.length
  · rw [h j hj]
  · rw [List.getElem?_eq_none (by lia)]; rfl
theorem mk_set {nl : Value} {P : Nat → Bool} {vs : List Value} {j : Nat} : (mk nl P vs).set j nl = mk nl (fun x => P x || x == j) vs := by
  apply List.ext_getElem?
  intro i
  rw [List.getElem?_set, mk_get, mk_get, mk_len]
  by_cases h : j = i
  · subst h
    rw [if_pos rfl]
    by_cases hj : j < vs.length
    · rw [if_pos hj, List.getElem?_eq_getElem hj]; simp
    · rw [if_neg hj, List.getElem?_eq_none (by lia)]; rfl
  · rw [if_neg h]
    have : (i == j) = false := by simp; lia
    simp [this]
theorem mk_none {nl : Value} {vs : List Value} : mk nl (fun _ => false) vs = vs := by
  apply List.ext_getElem?
  intro i
  rw [mk_get]; cases vs[i]? <;> rfl
/-- a Mismatch of the store -/
noncomputable abbrev Mm := Nat × Nat × Ed
noncomputable def IsMm (G : Store) (v : Value) (b : Mm) : Prop := ∃ m dm ti tj ve, v = .ref m ∧ G m = some (tcO 149 dm [.int (b.1 : Nat) ti, .int (b.2.1 : Nat) tj, ve]) ∧ Rep G ve (dEd b.2.2)
theorem IsMm.mono {G G' : Store} (g : G.Sub G') {v : Value} {b : Mm} : IsMm G v b → IsMm G' v b := by
  rintro ⟨m, dm, ti, tj, ve, e, q, r⟩
  exact ⟨m, dm, ti, tj, ve, e, g _ _ q, r.mono g⟩
noncomputable abbrev LC (ac ex s t m n nl re i el cs ct j oe df : Option Value) : Loc := [(Str.ofString "actual", ac), (Str.ofString "expected", ex), (Str.ofString "s", s), (Str.ofString "t", t), (Str.ofString "m", m), (Str.ofString "n", n), (Str.ofString "NULL", nl), (Str.ofString "result", re), (Str.ofString "i", i), (Str.ofString "elem", el), (Str.ofString "cnt_s", cs), (Str.ofString "cnt_t", ct), (Str.ofString "j", j), (Str.ofString "other_elem", oe), (Str.ofString "diff", df)]
noncomputable def n159 : List Str := [Str.ofString "actual", Str.ofString "expected", Str.ofString "s", Str.ofString "t", Str.ofString "m", Str.ofString "n", Str.ofString "NULL", Str.ofString "result", Str.ofString "i", Str.ofString "elem", Str.ofString "cnt_s", Str.ofString "cnt_t", Str.ofString "j", Str.ofString "other_elem", Str.ofString "diff"]
noncomputable def cntOf (ds es : List Ed) : List Mm := (ds.filter fun e => decide (e ∉ es)).map (fun e => (1, 0, e)) ++ (es.filter fun e => decide (e ∉ ds)).map (fun e => (0, 1, e))
section
variable {w : World} {env : Env} {G₀ G : Store} {h₀ h : Heap} {own : List (Addr × Obj)} {l : Loc} {A : Around} {E : Value → Shared → Prop} {s : Shared} {t : Nat}
theorem OwnTo.app {a : Addr} {o o' : Obj} : ∀ (p : List (Addr × Obj)) {r r' : List (Addr × Obj)}, OwnTo r a o o' r' → OwnTo (p ++ r) a o o' (p ++ r')
  | [], _, _, h => h
  | _ :: p, _, _, h => .tail (OwnTo.app p h)
/-- the marks within one loop over places from k on, c behind -/
noncomputable def m1 (nl : Value) (PS : Nat → Bool) (vs : List Value) (k c : Nat) : List Value := mk nl (fun x => PS x || (decide (0 < c) && x == k)) vs
theorem m1_len {nl : Value} {PS : Nat → Bool} {vs : List Value} {k c : Nat} : (m1 nl PS vs k c).length = vs.length := mk_len
theorem m1_zero {nl : Value} {PS : Nat → Bool} {vs : List Value} {k : Nat} : m1 nl PS vs k 0 = mk nl PS vs := mk_congr fun j _ => by simp
theorem m1_keep {nl : Value} {PS : Nat → Bool} {vs : List Value} {k c : Nat} (h : 0 < c) : m1 nl PS vs k c = m1 nl PS vs k (c + 1) := mk_congr fun j _ => by simp [h]
theorem m1_end {nl : Value} {PS : Nat → Bool} {vs : List Value} {k c : Nat} (h : 0 < c) : m1 nl PS vs k c = mk nl (fun x => PS x || x == k) vs := mk_congr fun j _ => by simp [h]
theorem m1_set {nl : Value} {PS : Nat → Bool} {vs : List Value} {k : Nat} : (m1 nl PS vs k 0).set (k + 0) nl = m1 nl PS vs k (0 + 1) := by
  rw [m1, mk_set]; exact mk_congr fun j _ => by simp
theorem m1_get {nl : Value} {PS : Nat → Bool} {vs : List Value} {k c : Nat} (h : k + c < vs.length) : (m1 nl PS vs k c)[k + c]? = some (if PS (k + c) then nl else vs[k + c]) := by
  rw [m1, mk_get, List.getElem?_eq_getElem h]
  have : (decide (0 < c) && (k + c == k)) = false := by
    by_cases h0 : 0 < c
    · simp; lia
    · simp [h0]
  simp only [Option.map_some, this, Bool.or_false]
/-- the marks within one loop over all places, c behind -/
noncomputable def m2 (nl : Value) (PS : Nat → Bool) (ws : List Value) (es : List Ed) (e : Ed) (c : Nat) : List Value := mk nl (fun x => PS x || (decide (x < c) && decide (es[x]? = some e))) ws
theorem m2_len {nl : Value} {PS : Nat → Bool} {ws : List Value} {es : List Ed} {e : Ed} {c : Nat} : (m2 nl PS ws es e c).length = ws.length := mk_len
theorem m2_zero {nl : Value} {PS : Nat → Bool} {ws : List Value} {es : List Ed} {e : Ed} : m2 nl PS ws es e 0 = mk nl PS ws := mk_congr fun j _ => by simp
theorem m2_lt {y c : Nat} (q : ¬ y = c) : decide (y < c) = decide (y < c + 1) := by
  by_cases q2 : y < c
  · rw [decide_eq_true q2, decide_eq_true (by lia)]
  · rw [decide_eq_false q2, decide_eq_false (by lia)]
theorem m2_keep {nl : Value} {PS : Nat → Bool} {ws : List Value} {es : List Ed} {e : Ed} {c : Nat} (h : es[c]? ≠ some e) : m2 nl PS ws es e c = m2 nl PS ws es e (c + 1) := mk_congr fun y _ => by
  by_cases q : y = c
  · subst q; simp [h]
  · rw [m2_lt q]
theorem m2_set {nl : Value} {PS : Nat → Bool} {ws : List Value} {es : List Ed} {e : Ed} {c : Nat} (h : es[c]? = some e) : (m2 nl PS ws es e c).set c nl = m2 nl PS ws es e (c + 1) := by
  rw [m2, mk_set]
  refine mk_congr fun y _ => ?_
  by_cases q : y = c
  · subst q; simp [h]
  · have h2 : (y == c) = false := by simpa using q
    rw [m2_lt q, h2, Bool.or_false]
theorem m2_end {nl : Value} {PS : Nat → Bool} {ws : List Value} {es : List Ed} {e : Ed} (h : ws.length = es.length) : m2 nl PS ws es e ws.length = mk nl (fun x => PS x || decide (es[x]? = some e)) ws := mk_congr fun j hj => by
  rw [decide_eq_true hj, Bool.true_and]
theorem m2_get {nl : Value} {PS : Nat → Bool} {ws : List Value} {es : List Ed} {e : Ed} {c : Nat} (h : c < ws.length) : (m2 nl PS ws es e c)[c]? = some (if PS c then nl else ws[c]) := by
  rw [m2, mk_get, List.getElem?_eq_getElem h]
  simp
theorem count_step {es : List Ed} {e : Ed} {c : Nat} (h : c < es.length) : (es.take (c + 1)).count e = (es.take c).count e + (if es[c] = e then 1 else 0) := by
  rw [take_snoc (List.getElem?_eq_getElem h), List.count_append, List.count_singleton]
  congr 1
  by_cases q : es[c] = e <;> simp [q]
set_option maxHeartbeats 4000000 in
/-- for j in range(i, m): if x[j] == elem: count += 1; x[j] = NULL -/
theorem markRange {xL xC xM : Str} {pj p1 p2 p3 p4 p5 p6 p7 p8 p9 p10 p11 p12 p13 p14 p15 p16 p17 p18 p19 : Pos} {cc : Nat} {la nl : Addr} {k n sn : Nat} {ti tm tk : Tok} {ve : Value} {jv : Option Value} {vs : List Value} {ds : List Ed} {e : Ed} {PS : Nat → Bool} (lc : Nat → Tok → Option Value → Loc) {ow : Obj → List (Addr × Obj)} {Q : Flow → Shared → Prop}
    (hL : ∀ c tk jv, Has (lc c tk jv) xL (.ref la)) (hi : ∀ c tk jv, Has (lc c tk jv) (Str.ofString "i") (.int (k : Nat) ti)) (hm : ∀ c tk jv, Has (lc c tk jv) xM (.int (n : Nat) tm)) (he : ∀ c tk jv, Has (lc c tk jv) (Str.ofString "elem") ve) (hn : ∀ c tk jv, Has (lc c tk jv) (Str.ofString "NULL") (.ref nl))
    (hc : ∀ c tk jv, Has (lc c tk jv) xC (.int (c : Nat) tk)) (hj : ∀ c tk v, Has (lc c tk (some v)) (Str.ofString "j") v) (sj : ∀ c tk jv v, SetTo (lc c tk jv) (Str.ofString "j") v (lc c tk (some v))) (sc : ∀ c tk jv c' tk', SetTo (lc c tk jv) xC (.int (c' : Nat) tk') (lc c' tk' jv))
    (hrk : env.kindOf (Str.ofString "range") = some .globalImplicit) (dL : (xL == ("__debug__" : Str)) = false) (dM : (xM == ("__debug__" : Str)) = false)
    (ho : ∀ o o', OwnTo (ow o) la o o' (ow o')) (S : St w env G₀ h₀ (ow (lstO (mk (.ref nl) PS vs) sn)) (lc 0 tk jv) G h) (rv : RepAll G vs (ds.map dEd)) (re : Rep G ve (dEd e)) (hek : ds[k]? = some e) (hnd : ds.Nodup) (hw : ∀ e ∈ ds, PyData.strOk e.w = true) (hPk : PS k = false) (hnn : n = ds.length) (hz : ds.length ≤ 60)
    (en : G nl = some objO) (hh : A.handled = none) (hu : A.units + 100 < cLine)
    (kk : ∀ h' G' t' sn' tk' jv', St w env G₀ h₀ (ow (lstO (mk (.ref nl) (fun x => PS x || x == k) vs) sn')) (lc 1 tk' jv') G' h' → G.Sub G' → Q .next (mkS s h' t'))
    (hsw : swapsWith (.Name (Str.ofString "NULL") p16) (some (.Subscript (.Name xL p13) (.Name (Str.ofString "j") p14) p15)) p17.line env = pure false := by rfl) :
    wpAny (model pw w) A (exec (.For (.Name (Str.ofString "j") pj) (.Call (.Name (Str.ofString "range") p1) [.Name (Str.ofString "i") p2, .Name xM p3] [] p4) [.If (.Compare (.Subscript (.Name xL p5) (.Name (Str.ofString "j") p6) p7) [.Eq] [.Name (Str.ofString "elem") p8] p9) [.AugAssign (.Name xC p10) .Add (.Constant (.int 1) cc p11) p12, .Assign [.Subscript (.Name xL p13) (.Name (Str.ofString "j") p14) p15] (.Name (Str.ofString "NULL") p16) p17] [] p18] [] p19) env) Q E0 (mkS s h t) := by
  have hkn : k < ds.length := (List.getElem?_eq_some_iff.mp hek).1
  have lv := rv.length
  rw [List.length_map] at lv
  refine for_ (Call_ (biS S nz_range bb_range (PyProof.Rows.callWith_type1 (args_cons (ldS S (hi _ _ _) (args_cons (ldS S (hm _ _ _) (args_nil ?_) dM))))) hrk))
  refine range2S S (by lia) (by lia) fun h₆ it2 t₆ S₆ => ?_
  refine for_iter (G₁ := G) (Iter.range (a := (k : Int)) (n := n - k)) (by exact hh) (fun c G' l own => G.Sub G' ∧ ∃ sn' jv tk, own = ow (lstO (m1 (.ref nl) PS vs k c) sn') ∧ l = lc (if c = 0 then 0 else 1) tk jv) ?_ ?_ ?_ (n - k) 0 rfl (Nat.zero_le _) rfl ⟨Store.Sub.refl _, sn, jv, tk, by rw [m1_zero], rfl⟩ S₆ (Store.Sub.refl _)
  · rintro c hck p G' l own' hzz tzz v rfl hJ ⟨u, rfl⟩ S hG
    refine hideQ fun Q₃ hQ₃ => ?_
    obtain ⟨gs, sn', jv, tk, rfl, rfl⟩ := hJ
    have hci : (k : Int) + (c : Int) = ((k + c : Nat) : Int) := by lia
    rw [hci]
    have hlt : k + c < vs.length := by lia
    refine wpAny_assign_Name (stS S (sj _ _ _ _) fun h₇ u₇ S₇ => ?_)
    refine seqS (wpAny_If (wpAny_isTrue_Compare1 (Subscript_ (ldS S₇ (hL _ _ _) (ldS S₇ (hj _ _ _) ?_) dL))))
    have hOw := OwnTo.app [(it2, ritO ((k : Int) + ((c + 1 : Nat) : Int)) (((n - k : Nat) : Int) - ((c + 1 : Nat) : Int)))] (ho (lstO (m1 (.ref nl) PS vs k c) sn') (lstO [] 0))
    refine itemRaw S₇ (a := la) (vs := m1 (.ref nl) PS vs k c) (n := sn') hOw.mem rfl (by lia) (m1_get hlt) ?_
    refine ldS S₇ (he _ _ _) ?_
    have keep : 0 < c → ∀ h' t', St w env G₀ h₀ ([(it2, ritO ((k : Int) + ((c + 1 : Nat) : Int)) (((n - k : Nat) : Int) - ((c + 1 : Nat) : Int)))] ++ ow (lstO (m1 (.ref nl) PS vs k c) sn')) (lc (if c = 0 then 0 else 1) tk (some (.int ((k + c : Nat) : Int) u))) G' h' →
        Q₃ .next (mkS s h' t') := fun h0 h' t' S' => by
      rw [m1_keep h0, if_neg (by lia : ¬ c = 0)] at S'
      subst hQ₃
      exact ⟨_, _, _, _, _, rfl, S', gs, gs, sn', _, tk, rfl, by rw [if_neg (by lia)]⟩
    cases hP : PS (k + c) with
    | true =>
      have h0 : 0 < c := by
        rcases Nat.eq_zero_or_pos c with rfl | h
        · rw [Nat.add_zero, hPk] at hP; cases hP
        · exact h
      rw [if_pos rfl]
      obtain ⟨ae, oe, ne, xs, rfl, eae, cae, dae⟩ : ∃ a o n xs, ve = .ref a ∧ G a = some o ∧ o.cls = .type "tuple" ∧ o.data = .seq xs n := by
        cases re with
        | tuple e c d q => exact ⟨_, _, _, _, rfl, e, c, d⟩
      refine eqNT S₇ (gs _ _ en) (gs _ _ eae) cae dae (by lia) (wpAny_truthy_bool ?_)
      refine ifno rfl ?_
      exact wpAny_execs_nil (wpAny_execs_nil (keep h0 _ _ S₇))
    | false =>
      rw [if_neg (by decide)]
      obtain ⟨x, hx, rx⟩ := rv.get (k := k + c) (d := dEd (ds[k + c]'(by lia))) (by rw [List.getElem?_map, List.getElem?_eq_getElem (by lia)]; rfl)
      rw [List.getElem?_eq_getElem hlt] at hx
      cases hx
      obtain ⟨_, ek⟩ := List.getElem?_eq_some_iff.mp hek
      refine eqS (n := 2) S₇ (rx.mono gs) (re.mono gs) (nice_ed 0 _ (hw _ (List.getElem_mem _))) (nice_ed 0 _ (hw _ (ek ▸ List.getElem_mem _))) (by decide) (by lia) fun b hb => wpAny_truthy_bool ?_
      cases b with
      | true =>
        have hc0 : c = 0 := by
          have e1 := dEd_inj.mp (hb.mp rfl)
          rw [← ek] at e1
          have := (List.getElem_inj hnd).mp e1
          lia
        subst hc0
        refine ifso rfl ?_
        rw [if_pos rfl] at S₇
        refine seqS (wpAny_AugAssign_Name (ldn_ (s := mkS s h₇ _) S₇ (hc _ _ _) (conI fun tk7 tu7 => iaddI (c := ((1 : Nat) : Int)) (by lia) fun tk8 tu8 => stS S₇ (sc _ _ _ _ _) fun h₈ u₈ S₈ => ?_)))
        refine seqS (wpAny_Assign_Subscript (ldS S₈ (hn _ _ _) (ldS S₈ (hL _ _ _) (ldS S₈ (hj _ _ _) ?_) dL)) hsw)
        refine setItemOwn S₈ (vs := m1 (.ref nl) PS vs k 0) (fun o' => OwnTo.app _ (ho _ _)) (by rw [m1_len]; lia) (by rw [m1_len]; lia) fun h₉ n₉ S₉ => ?_
        rw [m1_set] at S₉
        subst hQ₃
        exact wpAny_execs_nil (wpAny_execs_nil ⟨_, _, _, _, _, rfl, S₉, gs, gs, _, _, _, rfl, rfl⟩)
      | false =>
        refine ifno rfl ?_
        have h0 : 0 < c := by
          rcases Nat.eq_zero_or_pos c with rfl | h
          · have := hb.mpr (dEd_inj.mpr (by simpa using ek)); cases this
          · exact h
        exact wpAny_execs_nil (wpAny_execs_nil (keep h0 _ _ S₇))
  · rintro c G' G'' l own' ⟨gs, sn', jv, tk, rfl, rfl⟩ g
    exact ⟨gs.trans g, sn', jv, tk, rfl, rfl⟩
  · rintro G' l own' hz tz ⟨gs, sn', jv, tk, rfl, rfl⟩ S hG
    have h0 : 0 < n - k := by lia
    rw [if_neg (by lia)] at S
    rw [m1_end h0] at S
    exact kk _ _ _ _ _ _ S gs
set_option maxHeartbeats 4000000 in
/-- for j, other in enumerate(x): if other == elem: count += 1; x[j] = NULL -/
theorem markEnum {xL xC xO : Str} {pj po pt p1 p2 p4 p6 p8 p9 p10 p11 p12 p13 p14 p15 p16 p17 p18 p19 : Pos} {cc xx : Nat} {la nl : Addr} {sn : Nat} {tk : Tok} {ve : Value} {jv ov : Option Value} {ws : List Value} {es : List Ed} {e : Ed} {PS : Nat → Bool} (lc : Nat → Tok → Option Value → Option Value → Loc) {ow : Obj → List (Addr × Obj)} {Q : Flow → Shared → Prop}
    (hL : ∀ c tk jv ov, Has (lc c tk jv ov) xL (.ref la)) (he : ∀ c tk jv ov, Has (lc c tk jv ov) (Str.ofString "elem") ve) (hn : ∀ c tk jv ov, Has (lc c tk jv ov) (Str.ofString "NULL") (.ref nl))
    (hc : ∀ c tk jv ov, Has (lc c tk jv ov) xC (.int (c : Nat) tk)) (hj : ∀ c tk v ov, Has (lc c tk (some v) ov) (Str.ofString "j") v) (hO : ∀ c tk jv v, Has (lc c tk jv (some v)) xO v) (sj : ∀ c tk jv ov v, SetTo (lc c tk jv ov) (Str.ofString "j") v (lc c tk (some v) ov)) (sO : ∀ c tk jv ov v, SetTo (lc c tk jv ov) xO v (lc c tk jv (some v))) (sc : ∀ c tk jv ov c' tk', SetTo (lc c tk jv ov) xC (.int (c' : Nat) tk') (lc c' tk' jv ov))
    (hrk : env.kindOf (Str.ofString "enumerate") = some .globalImplicit) (dL : (xL == ("__debug__" : Str)) = false) (dO : (xO == ("__debug__" : Str)) = false)
    (ho : ∀ o o', OwnTo (ow o) la o o' (ow o')) (S : St w env G₀ h₀ (ow (lstO (mk (.ref nl) PS ws) sn)) (lc 0 tk jv ov) G h) (rv : RepAll G ws (es.map dEd)) (re : Rep G ve (dEd e)) (hw : ∀ e ∈ es, PyData.strOk e.w = true) (hwe : PyData.strOk e.w = true) (hP : ∀ j, es[j]? = some e → PS j = false) (hz : es.length ≤ 60)
    (en : G nl = some objO) (hh : A.handled = none) (hu : A.units + 100 < cLine)
    (kk : ∀ h' G' t' sn' tk' jv' ov', St w env G₀ h₀ (ow (lstO (mk (.ref nl) (fun x => PS x || decide (es[x]? = some e)) ws) sn')) (lc (es.count e) tk' jv' ov') G' h' → G.Sub G' → Q .next (mkS s h' t'))
    (hsw : swapsWith (.Name (Str.ofString "NULL") p16) (some (.Subscript (.Name xL p13) (.Name (Str.ofString "j") p14) p15)) p17.line env = pure false := by rfl) :
    wpAny (model pw w) A (exec (.For (.Tuple [.Name (Str.ofString "j") pj, .Name xO po] xx pt) (.Call (.Name (Str.ofString "enumerate") p1) [.Name xL p2] [] p4) [.If (.Compare (.Name xO p6) [.Eq] [.Name (Str.ofString "elem") p8] p9) [.AugAssign (.Name xC p10) .Add (.Constant (.int 1) cc p11) p12, .Assign [.Subscript (.Name xL p13) (.Name (Str.ofString "j") p14) p15] (.Name (Str.ofString "NULL") p16) p17] [] p18] [] p19) env) Q E0 (mkS s h t) := by
  have lw := rv.length
  rw [List.length_map] at lw
  have hlist0 : h.IsList la (mk (.ref nl) PS ws).toArray := ⟨_, (S.ow _ (ho _ (lstO [] 0)).mem).1, rfl, sn, rfl⟩
  refine for_ (Call_ (biS S nz_enumerate bb_enumerate (PyProof.Rows.callWith_type1 (args_cons (ldS S (hL _ _ _ _) (args_nil ?_) dL))) hrk))
  refine enumMake S hlist0 fun h₂ ee it oi S₂ hi₂ => ?_
  refine for_enum (la := la) (n := ws.length) (by exact hh) (fun c G' l own vs' => G.Sub G' ∧ ∃ sn' jv ov tk, own = ow (lstO (m2 (.ref nl) PS ws es e c) sn') ∧ vs' = m2 (.ref nl) PS ws es e c ∧ l = lc ((es.take c).count e) tk jv ov) ?_ ?_ ?_ ?_ ws.length 0 rfl (Nat.zero_le _) hi₂ (vs := mk (.ref nl) PS ws) ⟨Store.Sub.refl _, sn, jv, ov, tk, by rw [m2_zero], by rw [m2_zero], rfl⟩ S₂
  · rintro c G' l own h' vs' ⟨gs, sn', jv, ov, tk, rfl, rfl, rfl⟩ S'
    exact ⟨⟨_, (S'.ow _ (ho _ (lstO [] 0)).mem).1, rfl, sn', rfl⟩, m2_len⟩
  · rintro c G' G'' l own vs' ⟨gs, sn', jv, ov, tk, rfl, rfl, rfl⟩ g
    exact ⟨gs.trans g, sn', jv, ov, tk, rfl, rfl, rfl⟩
  · rintro c hck p G' l own' hzz tzz a tka vs' x hJ hx ea S
    refine hideQ fun Q₄ hQ₄ => ?_
    obtain ⟨gs, sn', jv, ov, tk, rfl, rfl, rfl⟩ := hJ
    have hlt : c < es.length := by lia
    refine unpackRaw S ea rfl rfl (by exact hh) rfl rfl fun h₃ S₃ => ?_
    refine inOrder_cons (wpAny_assign_Name (stS S₃ (sj _ _ _ _ _) fun h₄ u₄ S₄ => inOrder_cons (wpAny_assign_Name (stS S₄ (sO _ _ _ _ _) fun h₅ u₅ S₅ => inOrder_nil ?_))))
    refine seqS (wpAny_If (wpAny_isTrue_Compare1 (ldS S₅ (hO _ _ _ _) (ldS S₅ (he _ _ _ _) ?_) dO)))
    rw [m2_get hck, Option.some.injEq] at hx
    have hcnt := count_step (e := e) hlt
    have keep : es[c] ≠ e → ∀ h' t', St w env G₀ h₀ (p ++ ow (lstO (m2 (.ref nl) PS ws es e c) sn')) (lc ((es.take c).count e) tk (some (.int (c : Nat) tka)) (some x)) G' h' →
        Q₄ .next (mkS s h' t') := fun hne h' t' S' => by
      rw [m2_keep (by rw [List.getElem?_eq_getElem hlt]; simpa using hne)] at S'
      subst hQ₄
      refine ⟨_, _, _, _, _, _, rfl, S', gs, sn', some (.int (c : Nat) tka), some x, tk, rfl, rfl, ?_⟩
      rw [hcnt, if_neg hne, Nat.add_zero]
    cases hPc : PS c with
    | true =>
      have hne : es[c] ≠ e := fun q => by
        have := hP c (by rw [List.getElem?_eq_getElem hlt, q])
        rw [hPc] at this; cases this
      rw [hPc, if_pos rfl] at hx
      subst hx
      obtain ⟨ae, oe, ne, xs, rfl, eae, cae, dae⟩ : ∃ a o n xs, ve = .ref a ∧ G a = some o ∧ o.cls = .type "tuple" ∧ o.data = .seq xs n := by
        cases re with
        | tuple e c d q => exact ⟨_, _, _, _, rfl, e, c, d⟩
      refine eqNT S₅ (gs _ _ en) (gs _ _ eae) cae dae (by lia) (wpAny_truthy_bool ?_)
      refine ifno rfl ?_
      exact wpAny_execs_nil (wpAny_execs_nil (keep hne _ _ S₅))
    | false =>
      rw [hPc, if_neg (by decide)] at hx
      obtain ⟨y, hy, ry⟩ := rv.get (k := c) (d := dEd es[c]) (by rw [List.getElem?_map, List.getElem?_eq_getElem hlt]; rfl)
      rw [List.getElem?_eq_getElem hck] at hy
      have hyx : y = x := by rw [← hx]; exact (Option.some.inj hy).symm
      subst hyx
      refine eqS (n := 2) S₅ (ry.mono gs) (re.mono gs) (nice_ed 0 _ (hw _ (List.getElem_mem _))) (nice_ed 0 _ hwe) (by decide) (by lia) fun b hb => wpAny_truthy_bool ?_
      cases b with
      | true =>
        have he1 : es[c] = e := dEd_inj.mp (hb.mp rfl)
        refine ifso rfl ?_
        refine seqS (wpAny_AugAssign_Name (ldn_ (s := mkS s h₅ _) S₅ (hc _ _ _ _) (conI fun tk7 tu7 => iaddI (c := (((es.take c).count e + 1 : Nat) : Int)) (by lia) fun tk8 tu8 => stS S₅ (sc _ _ _ _ _ _) fun h₈ u₈ S₈ => ?_)))
        refine seqS (wpAny_Assign_Subscript (ldS S₈ (hn _ _ _ _) (ldS S₈ (hL _ _ _ _) (ldS S₈ (hj _ _ _ _) ?_) dL)) hsw)
        refine setItemOwn S₈ (vs := m2 (.ref nl) PS ws es e c) (fun o' => OwnTo.app _ (ho _ _)) (by rw [m2_len]; lia) (by rw [m2_len]; lia) fun h₉ n₉ S₉ => ?_
        rw [m2_set (by rw [List.getElem?_eq_getElem hlt, he1])] at S₉
        subst hQ₄
        refine wpAny_execs_nil (wpAny_execs_nil ⟨_, _, _, _, _, _, rfl, S₉, gs, _, some (.int (c : Nat) tka), some y, tk8, rfl, rfl, ?_⟩)
        rw [hcnt, if_pos he1]
      | false =>
        refine ifno rfl ?_
        have hne : es[c] ≠ e := fun q => by have := hb.mpr (dEd_inj.mpr q); cases this
        exact wpAny_execs_nil (wpAny_execs_nil (keep hne _ _ S₅))
  · rintro G' l own hzz tzz vs' ⟨gs, sn', jv, ov, tk, rfl, rfl, rfl⟩ S'
    rw [m2_end lw, lw, List.take_length] at S'
    exact kk _ _ _ _ _ _ _ S' gs
noncomputable def m3 (nl : Value) (ds es : List Ed) (ws : List Value) (k : Nat) : List Value := mk nl (fun x => (es[x]?).any fun e => decide (e ∈ ds.take k)) ws
noncomputable def m4 (nl : Value) (vs : List Value) (k : Nat) : List Value := mk nl (fun x => decide (x < k)) vs
noncomputable def m5 (nl : Value) (ds es : List Ed) (ws : List Value) (k : Nat) : List Value := mk nl (fun x => ((es[x]?).any fun e => decide (e ∈ ds)) || decide (x < k)) ws
theorem lt_step (x k : Nat) : (decide (x < k) || x == k) = decide (x < k + 1) := by
  by_cases q : x = k
  · subst q; simp
  · have : (x == k) = false := by simpa using q
    rw [this, Bool.or_false, m2_lt q]
theorem m4_len {nl : Value} {vs : List Value} {k : Nat} : (m4 nl vs k).length = vs.length := mk_len
theorem m4_zero {nl : Value} {vs : List Value} : m4 nl vs 0 = vs := (mk_congr fun j _ => by simp).trans mk_none
theorem m4_get {nl : Value} {vs : List Value} {k : Nat} (h : k < vs.length) : (m4 nl vs k)[k]? = some vs[k] := by
  rw [m4, mk_get, List.getElem?_eq_getElem h]; simp
theorem m4_step {nl : Value} {vs : List Value} {k : Nat} : mk nl (fun x => decide (x < k) || x == k) vs = m4 nl vs (k + 1) := mk_congr fun j _ => lt_step j k
theorem m3_zero {nl : Value} {ds es : List Ed} {ws : List Value} : m3 nl ds es ws 0 = ws := (mk_congr fun j _ => by cases es[j]? <;> simp).trans mk_none
theorem m3_step {nl : Value} {ds es : List Ed} {ws : List Value} {k : Nat} {d : Ed} (h : ds[k]? = some d) : mk nl (fun x => ((es[x]?).any fun e => decide (e ∈ ds.take k)) || decide (es[x]? = some d)) ws = m3 nl ds es ws (k + 1) := mk_congr fun x _ => by
  rw [take_snoc h]
  cases es[x]? with
  | none => simp
  | some e => simp only [Option.any_some, List.mem_append, List.mem_singleton, Option.some.injEq, Bool.decide_or]
theorem m35 {nl : Value} {ds es : List Ed} {ws : List Value} {k : Nat} (h : ds.take k = ds) : m3 nl ds es ws k = m5 nl ds es ws 0 := mk_congr fun x _ => by rw [h]; simp
theorem m5_len {nl : Value} {ds es : List Ed} {ws : List Value} {k : Nat} : (m5 nl ds es ws k).length = ws.length := mk_len
theorem m5_get {nl : Value} {ds es : List Ed} {ws : List Value} {k : Nat} {e : Ed} (h : k < ws.length) (he : es[k]? = some e) : (m5 nl ds es ws k)[k]? = some (if decide (e ∈ ds) then nl else ws[k]) := by
  rw [m5, mk_get, List.getElem?_eq_getElem h, he]; simp
theorem m5_keep {nl : Value} {ds es : List Ed} {ws : List Value} {k : Nat} {e : Ed} (he : es[k]? = some e) (h : e ∈ ds) : m5 nl ds es ws k = m5 nl ds es ws (k + 1) := mk_congr fun x _ => by
  by_cases q : x = k
  · subst q; simp [he, h]
  · rw [m2_lt q]
theorem m5_step {nl : Value} {ds es : List Ed} {ws : List Value} {k : Nat} : mk nl (fun x => (((es[x]?).any fun e => decide (e ∈ ds)) || decide (x < k)) || x == k) ws = m5 nl ds es ws (k + 1) := mk_congr fun x _ => by rw [Bool.or_assoc, lt_step]
inductive JC1 (G₁₀ : Store) (ra ta sa nl : Addr) (vs ws : List Value) (ds es : List Ed) (v v' : Value) (u₇ u₈ : Tok) (k : Nat) (G' : Store) (l : Loc) (own : List (Addr × Obj)) (sv : List Value) : Prop
  | mk (e1 : G₁₀.Sub G') (sn : Nat) (tn : Nat) (rv : List Value) (rn : Nat) (iv : Option Value) (ev : Option Value) (c1 : Option Value) (c2 : Option Value) (jv : Option Value) (ov : Option Value) (dv : Option Value) (e2 : own = [(ra, lstO rv rn), (ta, lstO (m3 (.ref nl) ds es ws k) tn), (sa, lstO sv sn)]) (e3 : sv = m4 (.ref nl) vs k) (e4 : Fa (IsMm G') rv (((ds.take k).filter fun e => decide (e ∉ es)).map fun e => ((1, 0, e) : Mm))) (e5 : l = LC (some v) (some v') (some (.ref sa)) (some (.ref ta)) (some (.int (vs.length : Nat) u₇)) (some (.int (ws.length : Nat) u₈)) (some (.ref nl)) (some (.ref ra)) iv ev c1 c2 jv ov dv)
inductive JC2 (G' : Store) (ra ta sa nl : Addr) (vs ws : List Value) (ds es : List Ed) (v v' : Value) (u₇ u₈ : Tok) (c1 : Option Value) (k : Nat) (G'' : Store) (l : Loc) (own : List (Addr × Obj)) (tv : List Value) : Prop
  | mk (e1 : G'.Sub G'') (sn : Nat) (tn : Nat) (rv : List Value) (rn : Nat) (iv : Option Value) (ev : Option Value) (c2 : Option Value) (jv : Option Value) (ov : Option Value) (dv : Option Value) (e2 : own = [(ra, lstO rv rn), (ta, lstO tv tn), (sa, lstO (m4 (.ref nl) vs vs.length) sn)]) (e3 : tv = m5 (.ref nl) ds es ws k) (e4 : Fa (IsMm G'') rv (((ds.filter fun e => decide (e ∉ es)).map fun e => ((1, 0, e) : Mm)) ++ (((es.take k).filter fun e => decide (e ∉ ds)).map fun e => ((0, 1, e) : Mm)))) (e5 : l = LC (some v) (some v') (some (.ref sa)) (some (.ref ta)) (some (.int (vs.length : Nat) u₇)) (some (.int (ws.length : Nat) u₈)) (some (.ref nl)) (some (.ref ra)) iv ev c1 c2 jv ov dv)
set_option maxHeartbeats 4000000 in
theorem count_spec {v v' : Value} {ds es : List Ed} {Q : Value → Shared → Prop} (S0 : St w env G₀ h₀ own l G h) (rd : Rep G v (dEds ds)) (re : Rep G v' (dEds es)) (hds : ds.Nodup) (hes : es.Nodup) (hw : ∀ e ∈ ds, PyData.strOk e.w = true) (hw' : ∀ e ∈ es, PyData.strOk e.w = true)
    (hzd : ds.length ≤ 60) (hze : es.length ≤ 60) (hh : A.handled = none) (hroom : A.depth + 8 < recursionLimit) (hu : A.units + 400 < cLine)
    (k : ∀ h' G' t' rl rv c, St w env G₀ h₀ own l G' h' → G.Sub G' → G' rl = some (lstO rv c) → Fa (IsMm G') rv (cntOf ds es) → Q (.ref rl) (mkS s h' t')) :
    wpAny (model pw w) A (call (.ref 159) [v, v']) Q E (mkS s h t) := by
  refine callS (names := n159) (l₁ := LC (some v) (some v') none none none none none none none none none none none none none) S0 K159 C159 rfl (by rfl) (.cons .head (.cons (.tail .head) .nil)) (by decide +kernel) (by lia) fun h₁ t₁ S₁ => ?_
  refine seqS (wpAny_Expr (Calls.Constant_str ?_))
  refine seqS (Assign_Tuple_swapped (names := [Str.ofString "s", Str.ofString "t"]) (Tuple_ (args_cons (Call_ (biS S₁ nz_list bb_list (PyProof.Rows.callWith_type1 (args_cons (ldS S₁ (by walk_at "mem") (args_nil ?_)))))))))
  refine copyS S₁ rd (by rw [List.length_map, sizeLine_eq]; lia) fun h₂ sa vs sn S₂ rvs => ?_
  refine args_cons (Call_ (biS S₂ nz_list bb_list (PyProof.Rows.callWith_type1 (args_cons (ldS S₂ (by walk_at "mem") (args_nil ?_))))))
  refine copyS S₂ re (by rw [List.length_map, sizeLine_eq]; lia) fun h₃ ta ws tn S₃ rws => args_nil ?_
  refine tupUnpack S₃ (by exact hh) rfl fun h₄ S₄ => ?_
  refine inOrder_cons (bindS S₄ (by walk_at "set") fun h₅ u₅ S₅ => inOrder_cons (bindS S₅ (by walk_at "set") fun h₆ u₆ S₆ => inOrder_nil ?_))
  have lv := rvs.length
  have lw := rws.length
  rw [List.length_map] at lv lw
  refine seqS (Assign_Tuple_swapped (names := [Str.ofString "m", Str.ofString "n"]) (Tuple_ (args_cons (Call_ (biS S₆ nz_len bb_len (PyProof.Rows.callWith_builtin1 (args_cons (ldS S₆ (by walk_at "mem") (args_nil ?_)))))))))
  refine lenOwnS S₆ (a := sa) (vs := vs) (n := sn) (by simp) (by lia) fun u₇ t₇ => ?_
  refine args_cons (Call_ (biS S₆ nz_len bb_len (PyProof.Rows.callWith_builtin1 (args_cons (ldS S₆ (by walk_at "mem") (args_nil ?_))))))
  refine lenOwnS S₆ (a := ta) (vs := ws) (n := tn) (by simp) (by lia) fun u₈ t₈ => args_nil ?_
  refine tupUnpack S₆ (by exact hh) rfl fun h₇ S₇ => ?_
  refine inOrder_cons (bindS S₇ (by walk_at "set") fun h₈ u₈x S₈ => inOrder_cons (bindS S₈ (by walk_at "set") fun h₉ u₉x S₉ => inOrder_nil ?_))
  refine seqS (setS (Call_ (biS S₉ nz_object bb_object (PyProof.Rows.callWith_type0 (objMake S₉ fun h₁₀ G₁₀ nl S₁₀ g₁₀ en => stS S₁₀ (by walk_at "set") fun h₁₁ t₁₁ S₁₁ => ?_)))))
  refine seqS (setS (List_ (args_nil (listOwn S₁₁ fun h₁₂ ra S₁₂ => stS S₁₂ (by walk_at "set") fun h₁₃ t₁₃ S₁₃ => ?_))))
  have hlist0 : h₁₃.IsList sa vs.toArray := ⟨_, (S₁₃.ow (sa, lstO vs sn) (by simp)).1, rfl, sn, rfl⟩
  have rvs := rvs.mono g₁₀
  have rws := rws.mono g₁₀
  refine seqS (for_ (Call_ (biS S₁₃ nz_enumerate bb_enumerate (PyProof.Rows.callWith_type1 (args_cons (ldS S₁₃ (by walk_at "mem") (args_nil ?_)))))))
  refine enumMake S₁₃ hlist0 fun h₁₄ ee it oi S₁₄ hi₁₄ => ?_
  refine for_enum (la := sa) (n := vs.length) (by exact hh) (JC1 G₁₀ ra ta sa nl vs ws ds es v v' u₇ u₈) ?_ ?_ ?_ ?_ vs.length 0 rfl (Nat.zero_le _) hi₁₄ (vs := vs)
    ⟨Store.Sub.refl _, sn, tn, [], 0, none, none, none, none, none, none, none, ?_, m4_zero.symm, .nil, rfl⟩ S₁₄
  · rintro c G' l own h' sv ⟨gs, sn, tn, rv, rn, iv, ev, c1, c2, jv, ov, dv, rfl, rfl, hf, rfl⟩ S'
    exact ⟨⟨_, (S'.ow (sa, lstO _ sn) (.tail _ (.tail _ (.head _)))).1, rfl, sn, rfl⟩, m4_len⟩
  · rintro c G' G'' l own sv ⟨gs, sn, tn, rv, rn, iv, ev, c1, c2, jv, ov, dv, rfl, rfl, hf, rfl⟩ g
    exact ⟨gs.trans g, sn, tn, rv, rn, iv, ev, c1, c2, jv, ov, dv, rfl, rfl, hf.mono fun _ _ => IsMm.mono g, rfl⟩
  · rintro k hk p G' l own hzz tzz a tka sv x hJ hx ea S
    refine hideQ fun Q' hQ' => ?_
    obtain ⟨gs, sn, tn, rv, rn, iv, ev, c1, c2, jv, ov, dv, rfl, rfl, hf, rfl⟩ := hJ
    have hlt : k < ds.length := by lia
    rw [m4_get hk, Option.some.injEq] at hx
    obtain ⟨y, hy, ry⟩ := rvs.get (k := k) (d := dEd ds[k]) (by rw [List.getElem?_map, List.getElem?_eq_getElem hlt]; rfl)
    rw [List.getElem?_eq_getElem hk] at hy
    have hyx : y = x := by rw [← hx]; exact (Option.some.inj hy).symm
    subst hyx
    refine unpackRaw S ea rfl rfl (by exact hh) rfl rfl fun h₃ S₃ => ?_
    refine inOrder_cons (wpAny_assign_Name (stS S₃ (by walk_at "set") fun h₄ u₄ S₄ => inOrder_cons (wpAny_assign_Name (stS S₄ (by walk_at "set") fun h₅ u₅ S₅ => inOrder_nil ?_))))
    obtain ⟨ay, oy, ny, xs, rfl, eay, cay, day⟩ : ∃ a o n xs, y = .ref a ∧ G₁₀ a = some o ∧ o.cls = .type "tuple" ∧ o.data = .seq xs n := by
      cases ry with
      | tuple e c d q => exact ⟨_, _, _, _, rfl, e, c, d⟩
    refine seqS (wpAny_If (wpAny_isTrue_Compare1 (ldS S₅ (by walk_at "mem") (ldS S₅ (by walk_at "mem") (isNT S₅ (gs _ _ en) (gs _ _ eay) cay (wpAny_truthy_bool ?_))))))
    refine ifno rfl ?_
    refine wpAny_execs_nil ?_
    refine seqS (wpAny_Assign_two (conI fun tk1 tu1 => wpAny_assign_Name (stS S₅ (by walk_at "set") fun h₆ u₆ S₆ => wpAny_assign_Name (stS S₆ (by walk_at "set") fun h₇ u₇' S₇ => ?_))))
    have hr0 := ry.mono gs
    refine seqS (markRange (la := sa) (nl := nl) (k := k) (n := vs.length) (e := ds[k]) (ds := ds) (vs := vs) (PS := fun x => decide (x < k)) (fun c tk jv => LC (some v) (some v') (some (.ref sa)) (some (.ref ta)) (some (.int (vs.length : Nat) u₇)) (some (.int (ws.length : Nat) u₈)) (some (.ref nl)) (some (.ref ra)) (some (.int (k : Nat) tka)) (some (.ref ay)) (some (.int (c : Nat) tk)) (some (.int ((0 : Nat) : Int) tk1)) jv ov dv) (ow := fun o => p ++ [(ra, lstO rv rn), (ta, lstO (m3 (.ref nl) ds es ws k) tn), (sa, o)])
      (fun _ _ _ => by walk_at "mem") (fun _ _ _ => by walk_at "mem") (fun _ _ _ => by walk_at "mem") (fun _ _ _ => by walk_at "mem") (fun _ _ _ => by walk_at "mem") (fun _ _ _ => by walk_at "mem") (fun _ _ _ => by walk_at "mem") (fun _ _ _ _ => by walk_at "set") (fun _ _ _ _ _ => by walk_at "set") (by rfl) (by decide +kernel) (by decide +kernel)
      (fun o o' => OwnTo.app p (.tail (.tail .head))) S₇ (rvs.mono gs) hr0 (List.getElem?_eq_getElem hlt) hds hw (by simp) (by lia) hzd (gs _ _ en) (by exact hh) (by show A.units + 3 + 100 < _; lia) fun h₈ G₈ t₈ sn₈ tk₈ jv₈ S₈ g₈ => ?_)
    have g8 := gs.trans g₈
    refine seqS (markEnum (la := ta) (nl := nl) (e := ds[k]) (es := es) (ws := ws) (PS := fun x => (es[x]?).any fun e => decide (e ∈ ds.take k)) (fun c tk jv ov => LC (some v) (some v') (some (.ref sa)) (some (.ref ta)) (some (.int (vs.length : Nat) u₇)) (some (.int (ws.length : Nat) u₈)) (some (.ref nl)) (some (.ref ra)) (some (.int (k : Nat) tka)) (some (.ref ay)) (some (.int ((1 : Nat) : Int) tk₈)) (some (.int (c : Nat) tk)) jv ov dv) (ow := fun o => p ++ [(ra, lstO rv rn), (ta, o), (sa, lstO (mk (.ref nl) (fun x => decide (x < k) || x == k) vs) sn₈)])
      (fun _ _ _ _ => by walk_at "mem") (fun _ _ _ _ => by walk_at "mem") (fun _ _ _ _ => by walk_at "mem") (fun _ _ _ _ => by walk_at "mem") (fun _ _ _ _ => by walk_at "mem") (fun _ _ _ _ => by walk_at "mem") (fun _ _ _ _ _ => by walk_at "set") (fun _ _ _ _ _ => by walk_at "set") (fun _ _ _ _ _ _ => by walk_at "set") (by rfl) (by decide +kernel) (by decide +kernel)
      (fun o o' => OwnTo.app p (.tail .head)) S₈ (rws.mono g8) (ry.mono g8) hw' (hw _ (List.getElem_mem hlt)) (fun j hj => ?_) hze (g8 _ _ en) (by exact hh) (by show A.units + 3 + 100 < _; lia) fun h₉ G₉ t₉ tn₉ tk₉ jv₉ ov₉ S₉ g₉ => ?_)
    · rw [hj]
      simp only [Option.any_some, decide_eq_false_iff_not]
      intro hm
      obtain ⟨i, hi, e⟩ := List.getElem_of_mem hm
      rw [List.getElem_take] at e
      have := (List.getElem_inj hds).mp e
      rw [List.length_take] at hi
      lia
    have g9 := g8.trans g₉
    have htk : ds.take (k + 1) = ds.take k ++ [ds[k]] := take_snoc (List.getElem?_eq_getElem hlt)
    rw [m4_step, m3_step (List.getElem?_eq_getElem hlt)] at S₉
    have hfil : ((ds.take (k + 1)).filter fun e => decide (e ∉ es)).map (fun e => ((1, 0, e) : Mm)) = (((ds.take k).filter fun e => decide (e ∉ es)).map fun e => ((1, 0, e) : Mm)) ++ (if ds[k] ∉ es then [(1, 0, ds[k])] else []) := by
      rw [htk, List.filter_append, List.map_append]
      congr 1
      by_cases q : ds[k] ∈ es <;> simp [q]
    refine seqS (wpAny_If (wpAny_isTrue_Compare1 (ldS S₉ (by walk_at "mem") (ldS S₉ (by walk_at "mem") (PyProof.Rows.ne_int (wpAny_truthy_bool ?_))))))
    by_cases hin : ds[k] ∈ es
    · have hc1 : es.count ds[k] = 1 := by
        have h1 := List.nodup_iff_count.mp hes ds[k]
        have h2 := List.count_pos_iff.mpr hin
        lia
      refine ifno (by rw [hc1] <;> rfl) ?_
      refine wpAny_execs_nil (wpAny_execs_nil ?_)
      subst hQ'
      refine ⟨_, _, _, _, _, _, rfl, S₉, g9, sn₈, tn₉, rv, rn, _, _, _, _, _, _, _, rfl, rfl, ?_, rfl⟩
      rw [hfil, if_neg (by simpa using hin), List.append_nil]
      exact hf.mono fun _ _ => IsMm.mono (g₈.trans g₉)
    · have hc0 : es.count ds[k] = 0 := List.count_eq_zero.mpr hin
      refine ifso (by rw [hc0] <;> rfl) ?_
      rw [hc0] at S₉
      refine seqS (setS (Call_ (glS S₉ gl_Mismatch (callWithK tc_mismatch.keep S₉ (args_cons (ldS S₉ (by walk_at "mem") (args_cons (ldS S₉ (by walk_at "mem") (args_cons (ldS S₉ (by walk_at "mem") (args_nil ⟨S₉.bsNow.X, ?_⟩)))))))))))
      refine mismatch_spec S₉ (by show A.depth + 1 + 4 < _; lia) fun h₁₀ G₁₀' t₁₀ mm dm S₁₀ g₁₀' e₁₀ => stS S₁₀ (by walk_at "set") fun h₁₁ t₁₁ S₁₁ => ?_
      refine seqS (appendRaw (a := ra) (vs := rv) (n := rn) (ow := fun v => p ++ [(ra, lstO (rv ++ [v]) (rn + 1)), (ta, lstO (m3 (.ref nl) ds es ws (k + 1)) tn₉), (sa, lstO (m4 (.ref nl) vs (k + 1)) sn₈)]) S₁₁ (by walk_at "mem") (fun v => OwnTo.app p .head) ?_ (ldS S₁₁ (by walk_at "mem") ⟨_, _, _, rfl, S₁₁, fun h₁₂ t₁₂ S₁₂ => wpAny_execs_nil (wpAny_execs_nil ?_)⟩))
      · have := hf.length
        have h2 := List.length_filter_le (fun e => decide (e ∉ es)) (ds.take k)
        rw [List.length_map] at this
        rw [List.length_take] at h2
        rw [sizeLine_eq]; lia
      · subst hQ'
        refine ⟨_, _, _, _, _, _, rfl, S₁₂, g9.trans g₁₀', sn₈, tn₉, _, _, _, _, _, _, _, _, _, rfl, rfl, ?_, rfl⟩
        rw [hfil, if_pos hin]
        exact (hf.mono fun _ _ => IsMm.mono ((g₈.trans g₉).trans g₁₀')).app (.cons ⟨mm, dm, _, _, _, rfl, e₁₀, ry.mono (g9.trans g₁₀')⟩ .nil)
  · rintro G' l own hzz tzz sv ⟨gs, sn, tn, rv, rn, iv, ev, c1, c2, jv, ov, dv, rfl, rfl, hf, rfl⟩ S
    have hfull : ds.take vs.length = ds := by rw [lv, List.take_length]
    rw [hfull] at hf
    rw [m35 hfull] at S
    have hlist1 : hzz.IsList ta (m5 (.ref nl) ds es ws 0).toArray := ⟨_, (S.ow (ta, lstO _ tn) (.tail _ (.head _))).1, rfl, tn, rfl⟩
    have rvs' := rvs.mono gs
    have rws' := rws.mono gs
    refine seqS (for_ (Call_ (biS S nz_enumerate bb_enumerate (PyProof.Rows.callWith_type1 (args_cons (ldS S (by walk_at "mem") (args_nil ?_)))))))
    refine enumMake S hlist1 fun h₁₅ ee it oi S₁₅ hi₁₅ => ?_
    refine for_enum (la := ta) (n := ws.length) (by exact hh) (JC2 G' ra ta sa nl vs ws ds es v v' u₇ u₈ c1) ?_ ?_ ?_ ?_ ws.length 0 rfl (Nat.zero_le _) hi₁₅ (vs := m5 (.ref nl) ds es ws 0)
      ⟨Store.Sub.refl _, sn, tn, rv, rn, _, _, _, _, _, _, rfl, by simp, by simpa using hf, rfl⟩ S₁₅
    · rintro c G' l own h' sv ⟨gs, sn, tn, rv, rn, iv, ev, c2, jv, ov, dv, rfl, rfl, hf, rfl⟩ S'
      exact ⟨⟨_, (S'.ow (ta, lstO _ tn) (.tail _ (.head _))).1, rfl, tn, rfl⟩, m5_len⟩
    · rintro c G' G'' l own sv ⟨gs, sn, tn, rv, rn, iv, ev, c2, jv, ov, dv, rfl, rfl, hf, rfl⟩ g
      exact ⟨gs.trans g, sn, tn, rv, rn, iv, ev, c2, jv, ov, dv, rfl, rfl, hf.mono fun _ _ => IsMm.mono g, rfl⟩
    · rintro k hk p G'' l own hzz tzz a tka sv x hJ hx ea S
      refine hideQ fun Q₂ hQ₂ => ?_
      obtain ⟨gs', sn, tn, rv, rn, iv, ev, c2, jv, ov, dv, rfl, rfl, hf, rfl⟩ := hJ
      have hlt : k < es.length := by lia
      have htk : es.take (k + 1) = es.take k ++ [es[k]] := take_snoc (List.getElem?_eq_getElem hlt)
      have hfil : ((es.take (k + 1)).filter fun e => decide (e ∉ ds)).map (fun e => ((0, 1, e) : Mm)) = (((es.take k).filter fun e => decide (e ∉ ds)).map fun e => ((0, 1, e) : Mm)) ++ (if es[k] ∉ ds then [(0, 1, es[k])] else []) := by
        rw [htk, List.filter_append, List.map_append]
        congr 1
        by_cases q : es[k] ∈ ds <;> simp [q]
      rw [m5_get hk (List.getElem?_eq_getElem hlt), Option.some.injEq] at hx
      refine unpackRaw S ea rfl rfl (by exact hh) rfl rfl fun h₃ S₃ => ?_
      refine inOrder_cons (wpAny_assign_Name (stS S₃ (by walk_at "set") fun h₄ u₄ S₄ => inOrder_cons (wpAny_assign_Name (stS S₄ (by walk_at "set") fun h₅ u₅ S₅ => inOrder_nil ?_))))
      by_cases hin : es[k] ∈ ds
      · rw [if_pos (by simpa using hin)] at hx
        subst hx
        refine seqS (wpAny_If (wpAny_isTrue_Compare1 (ldS S₅ (by walk_at "mem") (ldS S₅ (by walk_at "mem") (wpAny_is_ref_self (wpAny_truthy_bool ?_))))))
        refine ifso rfl ?_
        refine seqS (wpAny_Continue ?_)
        rw [m5_keep (List.getElem?_eq_getElem hlt) hin] at S₅
        subst hQ₂
        refine ⟨_, _, _, _, _, _, rfl, S₅, gs', sn, tn, rv, rn, _, _, _, _, _, _, rfl, rfl, ?_, rfl⟩
        rw [hfil, if_neg (by simpa using hin), List.append_nil]
        exact hf
      · rw [if_neg (by simpa using hin)] at hx
        obtain ⟨y, hy, ry⟩ := rws'.get (k := k) (d := dEd es[k]) (by rw [List.getElem?_map, List.getElem?_eq_getElem hlt]; rfl)
        rw [List.getElem?_eq_getElem hk] at hy
        have hyx : y = x := by rw [← hx]; exact (Option.some.inj hy).symm
        subst hyx
        obtain ⟨ay, oy, ny, xs, rfl, eay, cay, day⟩ : ∃ a o n xs, y = .ref a ∧ G' a = some o ∧ o.cls = .type "tuple" ∧ o.data = .seq xs n := by
          cases ry with
          | tuple e c d q => exact ⟨_, _, _, _, rfl, e, c, d⟩
        refine seqS (wpAny_If (wpAny_isTrue_Compare1 (ldS S₅ (by walk_at "mem") (ldS S₅ (by walk_at "mem") (isNT S₅ ((gs.trans gs') _ _ en) (gs' _ _ eay) cay (wpAny_truthy_bool ?_))))))
        refine ifno rfl ?_
        refine wpAny_execs_nil ?_
        refine seqS (setS (conI fun tk1 tu1 => stS S₅ (by walk_at "set") fun h₆ u₆ S₆ => ?_))
        refine seqS (markRange (la := ta) (nl := nl) (k := k) (n := ws.length) (e := es[k]) (ds := es) (vs := ws) (PS := fun x => ((es[x]?).any fun e => decide (e ∈ ds)) || decide (x < k)) (fun c tk jv => LC (some v) (some v') (some (.ref sa)) (some (.ref ta)) (some (.int (vs.length : Nat) u₇)) (some (.int (ws.length : Nat) u₈)) (some (.ref nl)) (some (.ref ra)) (some (.int (k : Nat) tka)) (some (.ref ay)) c1 (some (.int (c : Nat) tk)) jv ov dv) (ow := fun o => p ++ [(ra, lstO rv rn), (ta, o), (sa, lstO (m4 (.ref nl) vs vs.length) sn)])
          (fun _ _ _ => by walk_at "mem") (fun _ _ _ => by walk_at "mem") (fun _ _ _ => by walk_at "mem") (fun _ _ _ => by walk_at "mem") (fun _ _ _ => by walk_at "mem") (fun _ _ _ => by walk_at "mem") (fun _ _ _ => by walk_at "mem") (fun _ _ _ _ => by walk_at "set") (fun _ _ _ _ _ => by walk_at "set") (by rfl) (by decide +kernel) (by decide +kernel)
          (fun o o' => OwnTo.app p (.tail .head)) S₆ (rws'.mono gs') (ry.mono gs') (List.getElem?_eq_getElem hlt) hes hw' (by simp [List.getElem?_eq_getElem hlt, hin]) (by lia) hze ((gs.trans gs') _ _ en) (by exact hh) (by show A.units + 3 + 100 < _; lia) fun h₈ G₈ t₈ tn₈ tk₈ jv₈ S₈ g₈ => ?_)
        rw [m5_step] at S₈
        have g8 := gs'.trans g₈
        refine seqS (setS (Call_ (glS S₈ gl_Mismatch (callWithK tc_mismatch.keep S₈ (args_cons (conI fun tk9 tu9 => args_cons (ldS S₈ (by walk_at "mem") (args_cons (ldS S₈ (by walk_at "mem") (args_nil ⟨S₈.bsNow.X, ?_⟩))))))))))
        refine mismatch_spec S₈ (by show A.depth + 1 + 4 < _; lia) fun h₁₀ G₁₀' t₁₀ mm dm S₁₀ g₁₀' e₁₀ => stS S₁₀ (by walk_at "set") fun h₁₁ t₁₁ S₁₁ => ?_
        refine seqS (appendRaw (a := ra) (vs := rv) (n := rn) (ow := fun v => p ++ [(ra, lstO (rv ++ [v]) (rn + 1)), (ta, lstO (m5 (.ref nl) ds es ws (k + 1)) tn₈), (sa, lstO (m4 (.ref nl) vs vs.length) sn)]) S₁₁ (by walk_at "mem") (fun v => OwnTo.app p .head) ?_ (ldS S₁₁ (by walk_at "mem") ⟨_, _, _, rfl, S₁₁, fun h₁₂ t₁₂ S₁₂ => wpAny_execs_nil ?_⟩))
        · have := hf.length
          have h1 := List.length_filter_le (fun e => decide (e ∉ es)) ds
          have h2 := List.length_filter_le (fun e => decide (e ∉ ds)) (es.take k)
          rw [List.length_append, List.length_map, List.length_map] at this
          rw [List.length_take] at h2
          rw [sizeLine_eq]; lia
        · subst hQ₂
          refine ⟨_, _, _, _, _, _, rfl, S₁₂, g8.trans g₁₀', sn, tn₈, _, _, _, _, _, _, _, _, rfl, rfl, ?_, rfl⟩
          rw [hfil, if_pos hin, ← List.append_assoc]
          exact (hf.mono fun _ _ => IsMm.mono (g₈.trans g₁₀')).app (.cons ⟨mm, dm, _, _, _, rfl, e₁₀, ry.mono (g8.trans g₁₀')⟩ .nil)
    · rintro G'' l own hzz tzz sv ⟨gs', sn, tn, rv, rn, iv, ev, c2, jv, ov, dv, rfl, rfl, hf, rfl⟩ S
      rw [lw, List.take_length] at hf
      obtain ⟨S', g'⟩ := S.freeze (a := ra) .head
      refine seqS (wpAny_Return_some (ldS S' (by walk_at "mem") ?_))
      refine k _ _ _ ra rv rn (S0.back (S'.dropAll (part := [_, _]) (own := []) fun _ _ _ x => x)) (g₁₀.trans (gs.trans (gs'.trans g'))) Store.put_self (hf.mono fun _ _ => IsMm.mono g')
  · rw [m3_zero]
end
section
variable {w : World} {env env' : Env} {G₀ G G' : Store} {h₀ h h' : Heap} {own new new' : List (Addr × Obj)} {l l' : Loc} {A : Around} {E : Value → Shared → Prop} {s : Shared} {t : Nat} {oL : Obj}
theorem St.offL (S : St w env G₀ h₀ (new ++ own) l G h) : Bs w (offH h (new ++ [(env.locals, oL)])) ∧ (∀ b o, (offH h (new ++ [(env.locals, oL)])).get? b = some o → h.get? b = some o) ∧ (offH h (new ++ [(env.locals, oL)])).objs.size = h.objs.size ∧ (∀ p ∈ new ++ [(env.locals, oL)], (offH h (new ++ [(env.locals, oL)])).get? p.1 = none) ∧
    (∀ b o, h₀.get? b = some o → (offH h (new ++ [(env.locals, oL)])).get? b = some o) ∧ G.In (offH h (new ++ [(env.locals, oL)])) ∧ (∀ p ∈ own, (offH h (new ++ [(env.locals, oL)])).get? p.1 = some p.2) := by
  have hL0 : h₀.get? env.locals = none := Heap.get?_none_of_le S.fr.above
  have nm : ∀ b, (∃ o, h₀.get? b = some o) ∨ (∃ o, G b = some o) ∨ (∃ p ∈ own, p.1 = b) → b ∉ (new ++ [(env.locals, oL)]).map (·.1) := fun b hb q => by
    rw [List.map_append] at q
    rcases List.mem_append.mp q with q | q
    · obtain ⟨p, hp, rfl⟩ := List.mem_map.mp q
      have D := S.ow p (List.mem_append_left _ hp)
      rcases hb with ⟨o, e⟩ | ⟨o, e⟩ | ⟨p', hp', e⟩
      · rw [D.2.2.1] at e; cases e
      · rw [D.2.2.2] at e; cases e
      · have hn := S.ond
        rw [List.map_append, List.nodup_append] at hn
        exact hn.2.2 _ q _ (List.mem_map_of_mem (f := (·.1)) hp') e.symm
    · have q : b = env.locals := by simpa using q
      subst q
      rcases hb with ⟨o, e⟩ | ⟨o, e⟩ | ⟨p', hp', e⟩
      · rw [hL0] at e; cases e
      · rw [S.gL] at e; cases e
      · exact (S.ow p' (List.mem_append_right _ hp')).2.1 e
  have old : ∀ b o, h₀.get? b = some o → (offH h (new ++ [(env.locals, oL)])).get? b = some o := fun b o e => hideAll_get _ (S.fr.keep b o e) (nm b (.inl ⟨o, e⟩))
  exact ⟨S.bs.keeps old, fun b o e => of_hideAll _ e, hideAll_size _ _, fun p hp => hideAll_none _ (List.mem_map_of_mem (f := (·.1)) hp), old, fun b o e => hideAll_get _ (S.gin b o e) (nm b (.inr (.inl ⟨o, e⟩))), fun p hp => hideAll_get _ (S.ow p (List.mem_append_right _ hp)).1 (nm _ (.inr (.inr ⟨p, hp, rfl⟩)))⟩
theorem St.leaveL {sl : Array (Option Value)} (S : St w env G₀ h₀ (new ++ own) l G h) (eL : h.get? env.locals = some oL) (S' : St w env' G (offH h (new ++ [(env.locals, oL)])) (new' ++ [(env.locals, { oL with slots := sl })]) l' G' h') : St w env G₀ h₀ (new' ++ own) l G' h' := by
  obtain ⟨-, hkeep, -, hnone, hold, -, hown⟩ := S.offL (oL := oL)
  have Kp := S'.fr.keep
  obtain ⟨oL', es, ep, eL', dL, r⟩ := S.fr.ns
  obtain rfl : oL' = oL := by rw [eL] at eL'; exact (Option.some.inj eL').symm
  have hn := S.ond
  rw [List.map_append, List.nodup_append] at hn
  have hn' := S'.ond
  rw [List.map_append, List.nodup_append] at hn'
  have DL := S'.ow (env.locals, { oL' with slots := sl }) (List.mem_append_right _ (List.mem_singleton.mpr rfl))
  refine { bs := S.bs, kind := S.kind, glo := S.glo, blt := S.blt, fr := ⟨⟨_, es, ep, DL.1, dL, r⟩, fun b o q => Kp _ _ (hold b o q), S.fr.above⟩, nd := S.nd, lc := S.lc, gin := S'.gin, gsub := S.gsub.trans S'.gsub, gnew := fun a o e => ?_, gL := DL.2.2.2, ow := fun p hp => ?_, ond := ?_ }
  · rcases S'.gnew a o e with q | q
    · exact S.gnew a o q
    · right
      cases q' : h₀.get? a with
      | none => rfl
      | some o' => rw [hold _ _ q'] at q; cases q
  · rcases List.mem_append.mp hp with q | q
    · have D := S'.ow p (List.mem_append_left _ q)
      refine ⟨D.1, fun e => ?_, ?_, D.2.2.2⟩
      · exact hn'.2.2 _ (List.mem_map_of_mem (f := (·.1)) q) env.locals (by simp) e
      · cases q' : h₀.get? p.1 with
        | none => rfl
        | some o' => have := D.2.2.1; rw [hold _ _ q'] at this; cases this
    · have D := S.ow p (List.mem_append_right _ q)
      have e := hown p q
      refine ⟨Kp _ _ e, D.2.1, D.2.2.1, ?_⟩
      cases q' : G' p.1 with
      | none => rfl
      | some o =>
        rcases S'.gnew _ _ q' with z | z
        · rw [D.2.2.2] at z; cases z
        · rw [e] at z; cases z
  · rw [List.map_append, List.nodup_append]
    refine ⟨hn'.1, hn.2.1, fun a ha b hb q => ?_⟩
    subst q
    obtain ⟨p, hp, rfl⟩ := List.mem_map.mp ha
    obtain ⟨p', hp', e⟩ := List.mem_map.mp hb
    have D := (S'.ow p (List.mem_append_left _ hp)).2.2.1
    have := hown p' hp'
    rw [e, D] at this; cases this
/-- a call of a def that may be noted on: own objects and the caller's own locals are handed -/
theorem callOffL {f : Addr} {fd : FuncData} {body : List Stmt} {args : List Value} {binds : List (Str × Value)} {names : List Str} {l₁ : Loc} {Q : Value → Shared → Prop}
    (S : St w env G₀ h₀ (new ++ own) l G h) (hK : ∀ P, (K P).lookup f = some ⟨.type "function", none, .func fd, #[]⟩) (hcd : ∀ P, codeIn (K P) fd.code fd.qualname = true)
    (hbody : fd.body = .stmts body) (hbind : bindArgs fd ⟨args, []⟩ = pure binds) (hB : BindTo (names.map fun n => (n, none)) binds l₁)
    (hok : ((names.all fun n => decide (fd.scope.names.lookup n = some .local)) && decide names.Nodup && (fd.scope.names.all fun x => decide (x.2 ≠ .cell)) && decide (fd.scope.kind = .function) && decide (fd.globals = mainGlobals) && decide (fd.builtins = builtinsNs) && (!fd.scope.isCoroutine) && (!fd.scope.isGenerator)) = true)
    (hroom : A.depth < recursionLimit)
    (k : ∀ oL h₁ t₁, h.get? env.locals = some oL → (∃ es ep, oL.data = .dict es ep) → St w (callEnv fd h.objs.size f) G (offH h (new ++ [(env.locals, oL)])) (new ++ [(env.locals, { oL with slots := oL.slots })]) l₁ G h₁ →
      wpAny (model pw w) (A.deeper (callEnv fd h.objs.size f)) (execs body (callEnv fd h.objs.size f)) (fun fl s' => Q (retV fl) s') E0 (mkS s h₁ t₁)) :
    wpAny (model pw w) A (call (.ref f) args) Q E (mkS s h t) := by
  simp only [Bool.and_eq_true, decide_eq_true_eq, List.all_eq_true, Bool.not_eq_true'] at hok
  obtain ⟨⟨⟨⟨⟨⟨⟨hl, hnd⟩, hce⟩, hki⟩, hgl⟩, hbl⟩, hco⟩, hge⟩ := hok
  obtain ⟨oL, es, ep, eL, dL, r⟩ := S.fr.ns
  obtain ⟨Obs, Okeep, Osize, Onone, Oold, Ogin, Oown⟩ := S.offL (oL := oL)
  refine wpAny_call (codeAny_call_def (s := mkS s h t) (fd := fd) (body := body) (binds := binds) hroom (S.bsNow.X _ _ (hK _)) rfl S.bsNow.lim (codeRec_of S.bsNow.X (hcd _)) hbody (.of_eq hbind) (fun x hx => hce x hx) (bind_loc hB hl) (fun h₁ hns hk₁ => ?_) hco hge hki)
  have hnames : (names.map fun n => ((n, none) : Str × Option Value)).map (·.1) = names := by rw [List.map_map]; exact List.map_id' names
  have hlook := hB.look (by rw [hnames]; exact hnd)
  rw [look_none] at hlook
  simp only [Option.or_none] at hlook
  have hn := S.ond
  rw [List.map_append, List.nodup_append] at hn
  refine wpAny_mono (k oL h₁ _ eL ⟨es, ep, dL⟩ { bs := Obs, kind := hki, glo := hgl, blt := hbl, fr := ⟨?_, fun b o e => hk₁ _ _ (Okeep b o e), Nat.le_of_eq Osize⟩, nd := by rw [hB.names, hnames]; exact hnd, lc := fun x hx => by rw [hB.names, hnames] at hx; exact hl x hx, gin := fun a o e => hk₁ _ _ (S.gin a o e), gsub := fun _ _ e => e, gnew := fun a o e => .inl e, gL := ?_, ow := fun p hp => ?_, ond := ?_ }) (fun fl s' hq => by cases fl <;> exact hq) (fun _ _ x => x.elim)
  · rw [← hlook]; exact hns
  · cases q : G h.objs.size with
    | none => exact q
    | some o => exact absurd (Heap.lt_size (S.gin _ _ q)) (Nat.lt_irrefl _)
  · have no := Onone p hp
    rcases List.mem_append.mp hp with hp | hp
    · have D := S.ow p (List.mem_append_left _ hp)
      exact ⟨hk₁ _ _ D.1, Nat.ne_of_lt (Heap.lt_size D.1), no, D.2.2.2⟩
    · obtain rfl := List.mem_singleton.mp hp
      exact ⟨hk₁ _ _ eL, Nat.ne_of_lt (Heap.lt_size eL), no, S.gL⟩
  · rw [List.map_append, List.nodup_append]
    refine ⟨hn.1, by simp, fun a ha b hb q => ?_⟩
    have hb : b = env.locals := by simpa using hb
    subst hb; subst q
    obtain ⟨p, hp, e⟩ := List.mem_map.mp ha
    exact (S.ow p (List.mem_append_left _ hp)).2.1 e
end
theorem Rep.funcs {G : Store} : (∀ {v d}, Rep G v d → ∀ d', Rep G v d' → d = d') ∧ ∀ {vs ds}, RepAll G vs ds → ∀ ds', RepAll G vs ds' → ds = ds' := by
  refine Rep.both (P := fun v d => ∀ d', Rep G v d' → d = d') (Q := fun vs ds => ∀ ds', RepAll G vs ds' → ds = ds') (fun _ h => by cases h; rfl) (fun _ _ h => by cases h; rfl) (fun _ _ _ h => by cases h; rfl) (fun _ _ _ h => by cases h; rfl) ?_ ?_ (fun _ h => by cases h; rfl) ?_
  · intro a o vs n xs e c d ih d' h
    cases h with
    | list e' c' d' q' => rw [e] at e'; cases e'; rw [d] at d'; cases d'; rw [ih _ q']
    | tuple e' c' d' q' => rw [e] at e'; cases e'; rw [c] at c'; exact absurd c' (by decide)
  · intro a o vs n xs e c d ih d' h
    cases h with
    | list e' c' d' q' => rw [e] at e'; cases e'; rw [c] at c'; exact absurd c' (by decide)
    | tuple e' c' d' q' => rw [e] at e'; cases e'; rw [d] at d'; cases d'; rw [ih _ q']
  · intro v vs d ds h1 h2 ds' h
    cases h with
    | cons a b => rw [h1 _ a, h2 _ b]
theorem Rep.func {G : Store} {v : Value} {d d' : PyData} (h : Rep G v d) (h' : Rep G v d') : d = d' := Rep.funcs.1 h _ h'
theorem RepAll.func {G : Store} {vs : List Value} {ds ds' : List PyData} (h : RepAll G vs ds) (h' : RepAll G vs ds') : ds = ds' := Rep.funcs.2 h _ h'
section
variable {w : World} {env : Env} {G₀ G : Store} {h₀ h : Heap} {own : List (Addr × Obj)} {l : Loc} {A : Around} {E : Value → Shared → Prop} {s : Shared} {t : Nat}
/-- eqBool of two edits -/
theorem eqBoolS {v v' : Value} {e e' : Ed} {Q : Bool → Shared → Prop} (S : St w env G₀ h₀ own l G h) (r : Rep G v (dEd e)) (r' : Rep G v' (dEd e')) (hw : PyData.strOk e.w = true) (hw' : PyData.strOk e'.w = true) (hu : A.units + 64 < cLine)
    (k : Q (decide (e = e')) (mkS s h t)) : wpAny (model pw w) A (eqBool v v') Q E (mkS s h t) := by
  have hv : ∃ a, v = .ref a := by cases r with | tuple => exact ⟨_, rfl⟩
  have hv' : ∃ a, v' = .ref a := by cases r' with | tuple => exact ⟨_, rfl⟩
  obtain ⟨a, rfl⟩ := hv
  obtain ⟨a', rfl⟩ := hv'
  unfold eqBool
  refine wpAny_holding ?_
  by_cases q : a = a'
  · subst q
    have := dEd_inj.mp (r.func r')
    subst this
    rw [if_pos (by simp)]
    exact wpAny_bind (wpAny_rule (wpAny_pure (by simpa using k)))
  · rw [if_neg (by simpa using q)]
    dsimp only
    refine wpAny_bind (m := richCompare .Eq (.ref a) (.ref a')) (eqS (n := 2) S r r' (nice_ed 0 _ hw) (nice_ed 0 _ hw') (by decide) hu fun b hb => ?_)
    have : b = decide (e = e') := by
      cases b with
      | true => rw [decide_eq_true (dEd_inj.mp (hb.mp rfl))]
      | false => rw [decide_eq_false fun q => by have := hb.mpr (dEd_inj.mpr q); cases this]
    subst this
    exact wpAny_truthy_bool k
/-- own.remove(x) -/
theorem removeOwn {aa : Addr} {ws : List Value} {es : List Ed} {n : Nat} {ve : Value} {e : Ed} {ow : Obj → List (Addr × Obj)} {Q : Value → Shared → Prop} (S : St w env G₀ h₀ own l G h) (ho : ∀ o', OwnTo own aa (lstO ws n) o' (ow o')) (rws : RepAll G ws (es.map dEd)) (re : Rep G ve (dEd e)) (hw : ∀ e ∈ es, PyData.strOk e.w = true) (hwe : PyData.strOk e.w = true) (hz : es.length ≤ 60) (hh : Handles A own) (hu : A.units + 100 < cLine)
    (hit : ∀ j h' n', es[j]? = some e → (∀ m, m < j → es[m]? ≠ some e) → St w env G₀ h₀ (ow (lstO (ws.eraseIdx j) n')) l G h' → Q .none (mkS s h' t))
    (miss : e ∉ es → ∀ h' t' x ctx ox, St w env G₀ h₀ ((x, ox) :: own) l G h' → IsExc "ValueError" .none ctx ox → E (.ref x) (mkS s h' t')) :
    wpAny (model pw w) A (call (.builtin "list.remove") [.ref aa, ve]) Q E (mkS s h t) := by
  have lw := rws.length
  rw [List.length_map] at lw
  have e0 := (S.ow _ (ho (lstO [] 0)).mem).1
  have hT : (mkS s h t).TypeIs (.ref aa) "list" := ⟨_, e0, rfl⟩
  refine wpAny_call (codeAny_call_builtin PySem.F.slot_list_remove.plain PySem.F.entry_list_remove (PySem.F.slot_list_remove.check _ _ _ _ _ _ _ _ hT (PySem.F.args_list_remove_2 _ _) ?_))
  show wpAny _ _ (pure (Fin.again (.builtin "list.remove.loop" ⟨[.ref aa, ve, rawInt ((0 : Nat) : Int)], []⟩))) _ _ _
  refine wpAny_pure ⟨plainId_quiet MeetsSeq.plain_remove_loop _, codeAny_builtin MeetsSeq.entry_remove_loop ?_⟩
  rw [Around.under_plainId MeetsSeq.plain_remove_loop _]
  have hat : ∀ i (hi : i < ws.toArray.size), ∃ hi' : i < es.length, Rep G ws.toArray[i] (dEd es[i]) := fun i hi => by
    have hi' : i < es.length := by simp at hi; lia
    obtain ⟨x, hx, rx⟩ := rws.get (k := i) (d := dEd es[i]) (by rw [List.getElem?_map, List.getElem?_eq_getElem hi']; rfl)
    rw [List.getElem?_eq_getElem (by lia)] at hx
    cases hx
    exact ⟨hi', by simpa using rx⟩
  refine MineP.mine_removeLoop aa ws.toArray (lstO ws n) ve n rfl (mkS s h t) e0 (fun i => decide (es[i]? = some e)) (wants Q E) (by simp; rw [sizeLine_eq]; lia) A (fun i hi E Q hq => ?_) (fun j hj he hno => ?_) (fun Q hno => ?_) _ 0 rfl (fun m hm => by lia)
  · obtain ⟨hi', rx⟩ := hat i hi
    refine eqBoolS S rx re (hw _ (List.getElem_mem hi')) hwe (by show A.units + 1 + 64 < _; lia) ?_
    rw [List.getElem?_eq_getElem hi'] at hq
    simpa using hq
  · have hj' : es[j]? = some e := by simpa using he
    have q : ∃ n', Obj.mapSeq (fun xs => xs.eraseIdxIfInBounds j) (lstO ws n) = lstO (ws.eraseIdx j) n' := by
      have e1 : ws.toArray.eraseIdxIfInBounds j = (ws.eraseIdx j).toArray := by simp
      have e2 : ∃ n', Obj.mapSeq (fun xs => xs.eraseIdxIfInBounds j) (lstO ws n) = { cls := .type "list", data := .seq (ws.toArray.eraseIdxIfInBounds j) n' } := ⟨_, rfl⟩
      obtain ⟨n', e2⟩ := e2
      exact ⟨n', by rw [e2, e1]⟩
    obtain ⟨n', q⟩ := q
    exact hit j _ n' hj' (fun m hm => by have := hno m hm; simpa using this) (S.upd (ho _) (Heap.SameBut.update ..) (by rw [← q]; exact Heap.get?_update_self _ e0 (by rw [q]; rfl)))
  · refine raiseWordsS S plainExc_ValueError (by exact hh) fun h' t' x ctx ox S' hx => miss ?_ h' t' x ctx ox S' hx
    intro hm
    obtain ⟨i, hi, ei⟩ := List.getElem_of_mem hm
    have := hno i (by simp; lia)
    rw [List.getElem?_eq_getElem hi, ei] at this
    simp at this
end
noncomputable abbrev fd78 : FuncData := fnOf (Str.ofString "unorderable_list_difference") (Str.ofString "unorderable_list_difference") F78.1 F78.2.1 F78.2.2.1 Value.none Value.none (Value.str (docOr F78.2.1) 278) (Value.str (Str.ofString "cpy313.unittest.util") 194) none (Value.ref 77) Value.none
theorem K78 (P : Params) : (K P).lookup 78 = some ⟨.type "function", none, .func fd78, #[]⟩ := by rfl
theorem C78 (P : Params) : codeIn (K P) fd78.code fd78.qualname = true := by rfl
noncomputable def n78 : List Str := [Str.ofString "expected", Str.ofString "actual", Str.ofString "missing", Str.ofString "item"]
noncomputable abbrev LU (ex ac mi it : Option Value) : Loc := [(Str.ofString "expected", ex), (Str.ofString "actual", ac), (Str.ofString "missing", mi), (Str.ofString "item", it)]
theorem RepAll.erase {G : Store} {vs : List Value} {ds : List PyData} (r : RepAll G vs ds) (j : Nat) : RepAll G (vs.eraseIdx j) (ds.eraseIdx j) := by
  rw [List.eraseIdx_eq_take_drop_succ, List.eraseIdx_eq_take_drop_succ]
  exact (r.take j).app (r.drop (j + 1))
noncomputable def restU (ds es : List Ed) (k : Nat) : List Ed := es.filter fun e => decide (e ∉ ds.drop k)
noncomputable def missU (ds es : List Ed) (k : Nat) : List Ed := (ds.drop k).reverse.filter fun e => decide (e ∉ es)
theorem drop_cons_of {α : Type} {l : List α} {k : Nat} {x : α} (h : l[k]? = some x) : l.drop k = x :: l.drop (k + 1) := by
  obtain ⟨hk, e⟩ := List.getElem?_eq_some_iff.mp h
  rw [List.drop_eq_getElem_cons hk, e]
theorem missU_step {ds es : List Ed} {k : Nat} {e : Ed} (h : ds[k]? = some e) : missU ds es k = missU ds es (k + 1) ++ (if e ∉ es then [e] else []) := by
  unfold missU
  rw [drop_cons_of h, List.reverse_cons, List.filter_append]
  congr 1
  by_cases q : e ∈ es <;> simp [q]
theorem restU_out {ds es : List Ed} {k : Nat} {e : Ed} (h : ds[k]? = some e) (he : e ∉ es) : restU ds es k = restU ds es (k + 1) := by
  unfold restU
  rw [drop_cons_of h]
  apply List.filter_congr
  intro x hx
  have : x ≠ e := fun q => he (q ▸ hx)
  simp [this]
theorem filter_erase {e : Ed} : ∀ (r : List Ed) (j : Nat), r.Nodup → r[j]? = some e → r.filter (fun x => decide (x ≠ e)) = r.eraseIdx j
  | [], _, _, h => by simp at h
  | x :: r, 0, hn, h => by
    simp at h; subst h
    obtain ⟨h1, h2⟩ := List.nodup_cons.mp hn
    rw [List.filter_cons, if_neg (by simp), List.eraseIdx_cons_zero]
    exact List.filter_eq_self.mpr fun y hy => by
      have : y ≠ x := fun q => h1 (q ▸ hy)
      simpa using this
  | x :: r, j + 1, hn, h => by
    obtain ⟨h1, h2⟩ := List.nodup_cons.mp hn
    simp at h
    have hx : x ≠ e := fun q => h1 (q ▸ List.mem_of_getElem? h)
    rw [List.filter_cons, if_pos (by simpa using hx), List.eraseIdx_cons_succ, filter_erase r j h2 h]
theorem restU_in {ds es : List Ed} {k j : Nat} {e : Ed} (hes : es.Nodup) (h : ds[k]? = some e) (hj : (restU ds es (k + 1))[j]? = some e) : restU ds es k = (restU ds es (k + 1)).eraseIdx j := by
  have hn : (restU ds es (k + 1)).Nodup := hes.filter _
  have e1 : restU ds es k = (restU ds es (k + 1)).filter fun x => decide (x ≠ e) := by
    unfold restU
    rw [List.filter_filter, drop_cons_of h]
    apply List.filter_congr
    intro x _
    by_cases q : x = e <;> simp [q]
  rw [e1]
  exact filter_erase _ _ hn hj
section
variable {w : World} {env : Env} {G₀ G : Store} {h₀ h : Heap} {own : List (Addr × Obj)} {l : Loc} {A : Around} {E : Value → Shared → Prop} {s : Shared} {t : Nat}
inductive JU1 (s : Shared) (w : World) (h : Heap) (G : Store) (ea aa ma : Addr) (env : Env) (oL : Obj) (vs ws : List Value) (n₀ m₀ : Nat) (ds es : List Ed) (k : Nat) (s' : Shared) : Prop
  | mk (h' : Heap) (t' : Nat) (mv : List Value) (mn : Nat) (sl : Array (Option Value)) (wv : List Value) (n : Nat) (m : Nat) (it : Option Value) (e1 : s' = mkS s h' t') (e2 : k ≤ ds.length) (e3 : St w (callEnv fd78 h.objs.size 78) G (offH h ([(ea, lstO vs n₀), (aa, lstO ws m₀)] ++ [(env.locals, oL)])) ([(ea, lstO (vs.take k) n), (aa, lstO wv m), (ma, lstO mv mn)] ++ [(env.locals, { oL with slots := sl })]) (LU (some (.ref ea)) (some (.ref aa)) (some (.ref ma)) it) G h') (e4 : RepAll G mv ((missU ds es k).map dEd)) (e5 : RepAll G wv ((restU ds es k).map dEd))
set_option maxHeartbeats 4000000 in
theorem unord_spec {ea aa : Addr} {vs ws : List Value} {n m : Nat} {ds es : List Ed} {Q : Value → Shared → Prop} (S : St w env G₀ h₀ ((ea, lstO vs n) :: (aa, lstO ws m) :: own) l G h) (rvs : RepAll G vs (ds.map dEd)) (rws : RepAll G ws (es.map dEd)) (hds : ds.Nodup) (hes : es.Nodup) (hw : ∀ e ∈ ds, PyData.strOk e.w = true) (hw' : ∀ e ∈ es, PyData.strOk e.w = true)
    (hzd : ds.length ≤ 60) (hze : es.length ≤ 60) (hh : A.handled = none) (hfr : A.frames = some [env]) (hfe : env.frame = some env.locals) (hroom : A.depth + 2 < recursionLimit) (hu : A.units + 400 < cLine)
    (k : ∀ h' G' t' x, St w env G₀ h₀ own l G' h' → G.Sub G' → Rep G' x (.tuple [dEds (missU ds es 0), dEds (restU ds es 0)]) → Q x (mkS s h' t')) :
    wpAny (model pw w) A (call (.ref 78) [.ref ea, .ref aa]) Q E (mkS s h t) := by
  have lv := rvs.length
  have lw := rws.length
  rw [List.length_map] at lv lw
  refine callOffL (new := [(ea, lstO vs n), (aa, lstO ws m)]) (names := n78) (l₁ := LU (some (.ref ea)) (some (.ref aa)) none none) S K78 C78 rfl (by rfl) (.cons .head (.cons (.tail .head) .nil)) (by decide +kernel) (by lia) fun oL h₁ t₁ eL doL S₁ => ?_
  have hoc : ∀ vs, oL.data ≠ .fields vs := fun vs q => by obtain ⟨es, ep, d⟩ := doL; rw [d] at q; cases q
  have hfr' : (A.deeper (callEnv fd78 h.objs.size 78)).frames = some [callEnv fd78 h.objs.size 78, env] := by
    show Option.map _ A.frames = _; rw [hfr]; rfl
  refine seqS (wpAny_Expr (Calls.Constant_str ?_))
  refine seqS (setS (List_ (args_nil (listOwn S₁ fun h₂ ma S₂ => stS S₂ (by walk_at "set") fun h₃ t₃ S₃ => ?_))))
  have S₄ := S₃.idx0 (own' := [(ea, lstO vs n), (aa, lstO ws m), (ma, lstO [] 0)] ++ [(env.locals, { oL with slots := oL.slots })]) [1, 2, 0, 3] (by decide) rfl
  refine seqS (while_ (while_inv (JU1 s w h G ea aa ma env oL vs ws n m ds es) ?_ ds.length _ ⟨_, _, [], 0, oL.slots, ws, n, m, none, rfl, Nat.le_refl _, ?_, ?_, ?_⟩))
  · intro kk s' hJ
    refine hideI fun Q' R' hQ hR => ?_
    obtain ⟨h', t', mv, mn, sl, wv, n₁, m₁, it, rfl, hk, S₅, rm, rr⟩ := hJ
    refine isTrue_plain (ldS S₅ (by walk_at "mem") (truthOwn S₅ (a := ea) (vs := vs.take kk) (n := n₁) (.head _) (by rw [List.length_take]; lia) fun t₆ => ?_))
    cases kk with
    | zero =>
      refine ifno (by rw [List.take_zero] <;> rfl) ?_
      subst hR
      obtain ⟨S₆, g₆⟩ := S₅.freeze (a := ma) (.tail (.tail .head))
      obtain ⟨S₇, g₇⟩ := S₆.freeze (a := aa) (.tail .head)
      refine seqS (wpAny_Return_some (Tuple_ (args_cons (ldS S₇ (by walk_at "mem") (args_cons (ldS S₇ (by walk_at "mem") (args_nil ?_)))))))
      refine tupS S₇ (ds := [dEds (missU ds es 0), dEds (restU ds es 0)]) (.cons (.list (g₇ _ _ Store.put_self) rfl rfl (by simpa using rm.mono (g₆.trans g₇))) (.cons (.list Store.put_self rfl rfl (by simpa using rr.mono (g₆.trans g₇))) .nil)) fun h₈ G₈ x S₈ g₈ rx => ?_
      have S₉ := S₈.pick (own' := [] ++ [(env.locals, { oL with slots := sl })]) (by simp) (by simp)
      exact k _ _ _ x (St.leaveL (new := [(ea, _), (aa, _)]) (new' := []) S eL S₉) (g₆.trans (g₇.trans g₈)) rx
    | succ kk =>
      have hlt : kk < ds.length := by lia
      obtain ⟨x, hx, rx⟩ := rvs.get (k := kk) (d := dEd ds[kk]) (by rw [List.getElem?_map, List.getElem?_eq_getElem hlt]; rfl)
      have hek : ds[kk]? = some ds[kk] := List.getElem?_eq_getElem hlt
      refine ifso (by rw [take_snoc hx]; simp) ?_
      rw [take_snoc hx] at S₅
      refine seqS (setS (popE S₅ (by walk_at "mem") (fun o' => .head) (by rw [List.length_take]; lia) fun h₆ t₇ n₅ S₆ => stS S₆ (by walk_at "set") fun h₇ t₈ S₇ => ?_))
      have hmid : ∀ (o o' : Obj), OwnTo ([(ea, lstO (vs.take kk) n₅), (aa, o), (ma, lstO mv mn)] ++ [(env.locals, { oL with slots := sl })]) aa o o' ([(ea, lstO (vs.take kk) n₅), (aa, o'), (ma, lstO mv mn)] ++ [(env.locals, { oL with slots := sl })]) := fun o o' => .tail .head
      refine seqS (tryS (envc := env) (Lc := env.locals) (oc := oL) (cls := "ValueError") (s := s) (G₀ := G) (h₀ := offH h ([(ea, lstO vs n), (aa, lstO ws m)] ++ [(env.locals, oL)])) (P := fun l G' mid => G' = G ∧ l = LU (some (.ref ea)) (some (.ref aa)) (some (.ref ma)) (some x) ∧ mid = [(ea, lstO (vs.take kk) n₅), (aa, lstO wv m₁), (ma, lstO mv mn)] ∧ ds[kk] ∉ es) hfr' rfl hfe (by rw [S.kind]; decide) hoc nz_ValueError bb_ValueError (by rw [isSubtype_type]; kernel_rfl) (by rw [isSubtype_type]; kernel_rfl) (by rw [isSubtype_type]; kernel_rfl) ?_ ?_)
      · refine seqS (wpAny_Expr (MethodCall_ (ldS S₇ (by walk_at "mem") (getMethod_list_of (s := mkS s h₇ _) PySem.F.slot_list_remove (by kernel_rfl) ⟨_, (S₇.ow (aa, lstO wv m₁) (.tail _ (.head _))).1, rfl, m₁, rfl⟩ ⟨_, (S₇.ow (aa, lstO wv m₁) (.tail _ (.head _))).1, rfl⟩ (callWith_method1 (args_cons (ldS S₇ (by walk_at "mem") (args_nil ?_))))))))
        have hwr : ∀ e ∈ restU ds es (kk + 1), PyData.strOk e.w = true := fun e he => hw' e (List.mem_filter.mp he).1
        have hzr : (restU ds es (kk + 1)).length ≤ 60 := Nat.le_trans (List.length_filter_le _ _) hze
        refine removeOwn S₇ (fun o' => .tail .head) rr rx hwr (hw _ (List.getElem_mem hlt)) hzr (.inl (by exact hh)) (by show A.units + 3 + 100 < _; lia) (fun j h' n' hj hno S' => ?_) fun hout h' t' xe ctx ox S' hx' => ?_
        · have hin : ds[kk] ∈ es := (List.mem_filter.mp (List.mem_of_getElem? hj)).1
          subst hQ
          refine wpAny_execs_nil (wpAny_execs_nil ⟨kk, Nat.lt_succ_self _, h', _, mv, mn, sl, wv.eraseIdx j, n₅, n', some x, rfl, by lia, S', ?_, ?_⟩)
          · rw [missU_step hek, if_neg (by simpa using hin), List.append_nil]; exact rm
          · rw [restU_in hes hek hj]
            have := rr.erase j
            rw [List.eraseIdx_eq_take_drop_succ (l := List.map dEd _), ← List.map_take, ← List.map_drop, ← List.map_append, ← List.eraseIdx_eq_take_drop_succ] at this
            exact this
        · have hne : ds[kk] ∉ es := fun hin => hout (by
            unfold restU
            refine List.mem_filter.mpr ⟨hin, ?_⟩
            simp only [decide_eq_true_eq]
            intro hm
            obtain ⟨i, hi, e⟩ := List.getElem_of_mem hm
            rw [List.getElem_drop] at e
            have := (List.getElem_inj hds).mp e
            lia)
          exact .raw (mid := [(ea, lstO (vs.take kk) n₅), (aa, lstO wv m₁), (ma, lstO mv mn)]) S' hx' ⟨rfl, rfl, rfl, hne⟩
      · rintro e oe ctx T oT mid sl' l' G'' h' t' S' hx' ⟨rfl, rfl, rfl, hne⟩
        have S₈ := S'.dropAll (part := [(T, oT), (e, oe)]) (own := [(ea, lstO (vs.take kk) n₅), (aa, lstO wv m₁), (ma, lstO mv mn)] ++ [(env.locals, { oL with slots := sl' })]) fun _ _ _ x => x
        have hml := rm.length
        have h3 : (missU ds es (kk + 1)).length ≤ 60 := Nat.le_trans (List.length_filter_le _ _) (by rw [List.length_reverse, List.length_drop]; lia)
        rw [List.length_map] at hml
        have hOw : ∀ v, OwnTo ([(ea, lstO (vs.take kk) n₅), (aa, lstO wv m₁), (ma, lstO mv mn)] ++ [(env.locals, { oL with slots := sl' })]) ma (lstO mv mn) (lstO (mv ++ [v]) (mn + 1)) ([(ea, lstO (vs.take kk) n₅), (aa, lstO wv m₁), (ma, lstO (mv ++ [v]) (mn + 1))] ++ [(env.locals, { oL with slots := sl' })]) := fun v => .tail (.tail .head)
        refine seqS (appendRaw S₈ (by walk_at "mem") hOw (by rw [sizeLine_eq]; lia) (ldS S₈ (by walk_at "mem") ⟨_, _, _, rfl, S₈, fun h₉ t₉ S₉ => ?_⟩))
        subst hQ
        refine wpAny_execs_nil (wpAny_execs_nil ⟨kk, Nat.lt_succ_self _, h₉, _, mv ++ [x], mn + 1, sl', wv, n₅, m₁, some x, rfl, by lia, S₉, ?_, ?_⟩)
        · rw [missU_step hek, if_pos hne, List.map_append]
          exact rm.app (.cons rx .nil)
        · rw [restU_out hek hne]; exact rr
  · rw [show vs.take ds.length = vs by rw [← lv, List.take_length]]; exact S₄
  · rw [show missU ds es ds.length = [] by simp [missU]]; exact .nil
  · rw [show restU ds es ds.length = es by simp [restU]]; exact rws
end
/-! ## the order of edits -/
noncomputable def ltEd (a b : Ed) : Bool := if a.i ≠ b.i then decide (a.i < b.i) else if a.j ≠ b.j then decide (a.j < b.j) else if a.w ≠ b.w then decide (a.w.cps.toList < b.w.cps.toList) else ltInts a.c b.c
--BEGIN
theorem llt_entry : entryFor table "list.__eq__.loop" = some Builtin.«list.__eq__.loop» := entryFor_of_tree (by kernel_rfl)
theorem llt_plain : plainId "list.__eq__.loop" = true := by decide +kernel
theorem int_vals_at : ∀ {vs : List Value} {as : List Int} {i : Nat} {x : Int}, IntVals vs as → as[i]? = some x → ∃ t, vs[i]? = some (.int x t)
  | _, _, _, _, .nil, h => by simp at h
  | _, _, 0, _, .cons _, h => by simp at h; subst h; exact ⟨_, rfl⟩
  | _, _, i + 1, _, .cons r, h => by simp at h; simpa using int_vals_at r h
theorem listLtLoop {w : World} {a b : Addr} {oa ob : Obj} {vs ws : List Value} {as bs : List Int} {n m : Nat} {s : Shared} {R : Result → Shared → Prop} {A : Around} (ea : s.heap.get? a = some oa) (da : oa.data = .seq vs.toArray n) (eb : s.heap.get? b = some ob) (db : ob.data = .seq ws.toArray m) (hv : IntVals vs as) (hw : IntVals ws bs) :
    ∀ (k i : Nat), as.length - i = k → i ≤ as.length → R (.ok (.ret (.bool (ltInts (as.drop i) (bs.drop i))))) s → wpAny (model pw w) A.in1 (Builtin.«list.__eq__.loop» ⟨[.ref a, .ref b, rawInt (i : Nat), rawInt ((0 : Nat) : Int)], []⟩) (fun fin s' => match fin with | .done f => R (.ok f) s' | .again c' => c'.quiet = true ∧ codeAny (model pw w) A c' R s') (fun e s' => R (.error e) s') s := by
  obtain ⟨oc, od, dt, sl⟩ := oa
  obtain ⟨oc', od', dt', sl'⟩ := ob
  simp only at da db
  subst da db
  have lv := hv.length
  have lw := hw.length
  intro k
  induction k with
  | zero =>
    intro i hk ht hR
    obtain ⟨hp, g, d, tk, os⟩ := s
    have h1 : vs.toArray[((i : Nat) : Int).toNat]? = none := by simp; lia
    wp_walk using wpAny_loadPart' ea, wpAny_loadPart' eb
    rw [h1]
    wp_walk using wpAny_loadPart' ea, wpAny_loadPart' eb
    have hi : i = as.length := by lia
    subst hi
    rw [List.drop_length] at hR
    have e : ltInts [] (bs.drop as.length) = decide (vs.toArray.size < ws.toArray.size) := by
      cases q : bs.drop as.length with
      | nil =>
        have := List.drop_eq_nil_iff.mp q
        rw [ltInts, decide_eq_false]; simp; lia
      | cons c r =>
        have : ¬ bs.length ≤ as.length := fun h => by rw [List.drop_eq_nil_iff.mpr h] at q; cases q
        rw [ltInts, decide_eq_true]; simp; lia
    rw [e] at hR
    exact hR
  | succ k ih =>
    intro i hk ht hR
    obtain ⟨hp, g, d, tk, os⟩ := s
    obtain ⟨x, hx⟩ : ∃ x, as[i]? = some x := ⟨_, List.getElem?_eq_getElem (by lia)⟩
    obtain ⟨tx, hvx⟩ := int_vals_at hv hx
    have h1 : vs.toArray[((i : Nat) : Int).toNat]? = some (.int x tx) := by simpa using hvx
    cases hy : bs[i]? with
    | none =>
      have h2 : ws.toArray[((i : Nat) : Int).toNat]? = none := by simp; have := List.getElem?_eq_none_iff.mp hy; lia
      wp_walk using wpAny_loadPart' ea, wpAny_loadPart' eb
      rw [h1, h2]
      wp_walk using wpAny_loadPart' ea, wpAny_loadPart' eb
      have hb := List.getElem?_eq_none_iff.mp hy
      rw [drop_cons_of hx, List.drop_eq_nil_iff.mpr hb, ltInts] at hR
      have e : decide (vs.toArray.size < ws.toArray.size) = false := by rw [decide_eq_false]; simp; lia
      show R (.ok (.ret (.bool (decide (vs.toArray.size < ws.toArray.size))))) _
      rw [e]
      exact hR
    | some y =>
      obtain ⟨ty, hwy⟩ := int_vals_at hw hy
      have h2 : ws.toArray[((i : Nat) : Int).toNat]? = some (.int y ty) := by simpa using hwy
      wp_walk using wpAny_loadPart' ea, wpAny_loadPart' eb
      rw [h1, h2]
      dsimp only
      refine wpAny_bind (wpAny_eqBool_int ?_)
      rw [drop_cons_of hx, drop_cons_of hy, ltInts] at hR
      by_cases q : x = y
      · subst q
        rw [if_pos (by simp)]
        rw [if_pos rfl] at hR
        have hc : ((i : Int) + 1) = ((i + 1 : Nat) : Int) := by push_cast; rfl
        rw [hc]
        exact wpAny_pure ⟨plainId_quiet llt_plain _, codeAny_builtin llt_entry (by
          rw [Around.under_plainId llt_plain _]
          exact ih (i + 1) (by lia) (by lia) hR)⟩
      · rw [if_neg (by simpa using q)]
        rw [if_neg q] at hR
        wp_walk using wpAny_loadPart' ea, wpAny_loadPart' eb
        rw [h1, h2]
        dsimp only
        refine wpAny_bind (wpAny_lt_int (s := ⟨hp, g, d, tk, os⟩) (wpAny_pure ?_))
        exact hR

theorem sub_tt : isSubtype (.type "tuple") (.type "tuple") = pure true := by rw [isSubtype_type]; kernel_rfl
theorem RepAll.intVals {G : Store} {vs : List Value} {ns : List Int} (r : RepAll G vs (ns.map .int)) : IntVals vs ns := r.intI .nil fun _ _ e => .cons e
section
variable {w : World} {env : Env} {G₀ G : Store} {h₀ h : Heap} {own : List (Addr × Obj)} {l : Loc} {A : Around} {E : Value → Shared → Prop} {s : Shared} {t : Nat}
theorem listLtS {v v' : Value} {cs ds : List Int} {Q : Value → Shared → Prop} (S : St w env G₀ h₀ own l G h) (r : Rep G v (dInts cs)) (r' : Rep G v' (dInts ds)) (hu : A.units + 10 < cLine)
    (k : Q (.bool (ltInts cs ds)) (mkS s h t)) : wpAny (model pw w) A (richCompare .Lt v v') Q E (mkS s h t) := by
  cases r with
  | list e c d q =>
  cases r' with
  | list e' c' d' q' =>
  rename_i a o vs n a' o' vs' n'
  have ea := S.gin _ _ e
  have eb := S.gin _ _ e'
  have Ta : (mkS s h t).TypeIs (.ref a) "list" := ⟨_, ea, c⟩
  have Tb : (mkS s h t).TypeIs (.ref a') "list" := ⟨_, eb, c'⟩
  refine wpAny_richCompare_same_room (op := .Lt) Ta Tb PySem.F.slot_list_lt (wpAny_call (codeAny_call_builtin PySem.F.slot_list_lt.plain PySem.F.entry_list_lt (PySem.F.slot_list_lt.check _ _ _ _ _ _ _ _ Ta (PySem.F.args_list_lt_2 _ _) ?_))) (by lia)
  show wpAny _ _ (isInstance (.ref a') (.type "list") >>= _) _ _ _
  refine wpAny_bind (wpAny_isInstance (T := "list") (b := true) Tb sub_list_self ?_)
  refine KFB.if_not (by rfl) ?_
  refine KFB.if_not (by rfl) ?_
  refine wpAny_pure ⟨plainId_quiet llt_plain _, codeAny_builtin llt_entry ?_⟩
  rw [Around.under_plainId llt_plain _]
  exact listLtLoop (s := mkS s h t) (R := wants (fun v s' => v ≠ .notImplemented ∧ Q v s') E) ea (by rw [d, Array.toArray_toList]) eb (by rw [d', Array.toArray_toList]) q.intVals q'.intVals _ 0 rfl (Nat.zero_le _) ⟨by simp, k⟩
theorem eqBoolL {v v' : Value} {c d : List Int} {Q : Bool → Shared → Prop} (S : St w env G₀ h₀ own l G h) (r : Rep G v (dInts c)) (r' : Rep G v' (dInts d)) (hu : A.units + 64 < cLine)
    (k : Q (decide (c = d)) (mkS s h t)) : wpAny (model pw w) A (eqBool v v') Q E (mkS s h t) := by
  have hv : ∃ a, v = .ref a := by cases r with | list => exact ⟨_, rfl⟩
  have hv' : ∃ a, v' = .ref a := by cases r' with | list => exact ⟨_, rfl⟩
  obtain ⟨a, rfl⟩ := hv
  obtain ⟨a', rfl⟩ := hv'
  unfold eqBool
  refine wpAny_holding ?_
  by_cases q : a = a'
  · subst q
    have := dInts_inj.mp (r.func r')
    subst this
    rw [if_pos (by simp)]
    exact wpAny_bind (wpAny_rule (wpAny_pure (by simpa using k)))
  · rw [if_neg (by simpa using q)]
    dsimp only
    refine wpAny_bind (m := richCompare .Eq (.ref a) (.ref a')) (eqS (n := 1) S r r' (nice_ints 0 _) (nice_ints 0 _) (by decide) hu fun b hb => ?_)
    have : b = decide (c = d) := by
      cases b with
      | true => rw [decide_eq_true (dInts_inj.mp (hb.mp rfl))]
      | false => rw [decide_eq_false fun q => by have := hb.mpr (dInts_inj.mpr q); cases this]
    subst this
    exact wpAny_truthy_bool k
theorem ltInts_self : ∀ c : List Int, ltInts c c = false
  | [] => rfl
  | x :: c => by rw [ltInts, if_pos rfl]; exact ltInts_self c
/-- an edit before another -/
theorem ltEdS {v v' : Value} {e e' : Ed} {Q : Value → Shared → Prop} (S : St w env G₀ h₀ own l G h) (r : Rep G v (dEd e)) (r' : Rep G v' (dEd e')) (hu : A.units + 100 < cLine)
    (k : Q (.bool (ltEd e e')) (mkS s h t)) : wpAny (model pw w) A (compareOp .Lt v v') Q E (mkS s h t) := by
  cases r with
  | tuple ea ca da q =>
  cases r' with
  | tuple eb cb db q' =>
  rename_i a o vs n a' o' vs' n'
  have Ta : (mkS s h t).TypeIs (.ref a) "tuple" := ⟨_, S.gin _ _ ea, ca⟩
  have Tb : (mkS s h t).TypeIs (.ref a') "tuple" := ⟨_, S.gin _ _ eb, cb⟩
  have Lb : Looks (model pw w) (mkS s h t).heap (isInstance (.ref a') (.type "tuple")) true := fun A Q E s' hk hq => wpAny_isInstance (T := "tuple") (b := true) ⟨_, hk _ _ (S.gin _ _ eb), cb⟩ sub_tt hq
  show wpAny _ _ (richCompare .Lt _ _) _ _ _
  generalize hvs : vs.toList = xs at q
  generalize hvs' : vs'.toList = ys at q'
  refine wpAny_richCompare_same_room (op := .Lt) Ta Tb PySem.F.slot_tuple_lt (wpAny_call (codeAny_call_builtin PySem.F.slot_tuple_lt.plain PySem.F.entry_tuple_lt (PySem.F.slot_tuple_lt.check _ _ _ _ _ _ _ _ Ta (PySem.F.args_tuple_lt_2 _ _) ?_))) (by lia)
  refine tlt_run (xs := xs) (ys := ys) Lb ⟨o, n, S.gin _ _ ea, by rw [da, ← hvs, Array.toArray_toList]⟩ ⟨o', n', S.gin _ _ eb, by rw [db, ← hvs', Array.toArray_toList]⟩ ?_
  obtain ⟨_, _, _, _, rfl, a1, a2, a3, a4⟩ := q.four
  obtain ⟨_, _, _, _, rfl, b1, b2, b3, b4⟩ := q'.four
  obtain ⟨t1, rfl⟩ := a1.intv
  obtain ⟨t2, rfl⟩ := a2.intv
  obtain ⟨t3, rfl⟩ := a3.strv
  obtain ⟨u1, rfl⟩ := b1.intv
  obtain ⟨u2, rfl⟩ := b2.intv
  obtain ⟨u3, rfl⟩ := b3.strv
  refine wpAny_eqBool_int ?_
  unfold ltEd at k
  by_cases h1 : e.i = e'.i
  · rw [if_pos (by simp [h1])]
    rw [if_neg (by simpa using h1)] at k
    refine wpAny_eqBool_int ?_
    by_cases h2 : e.j = e'.j
    · rw [if_pos (by simp [h2])]
      rw [if_neg (by simpa using h2)] at k
      refine wpAny_eqBool_str ?_
      by_cases h3 : e.w = e'.w
      · rw [if_pos (by simp [h3])]
        rw [if_neg (by simpa using h3)] at k
        refine eqBoolL S a4 b4 (by show A.units + 1 + 64 < _; lia) ?_
        by_cases h4 : e.c = e'.c
        · rw [if_pos (by simp [h4])]
          rw [h4, ltInts_self] at k
          exact ⟨by simp, k⟩
        · rw [if_neg (by simpa using h4)]
          exact listLtS S a4 b4 (by show A.units + 1 + 10 < _; lia) ⟨by simp, k⟩
      · rw [if_neg (by simpa using h3)]
        rw [if_pos h3] at k
        exact PyProof.Rows.lt_str ⟨by simp, k⟩
    · rw [if_neg (by simpa using h2)]
      rw [if_pos h2] at k
      exact wpAny_lt_int ⟨by simp, k⟩
  · rw [if_neg (by simpa using h1)]
    rw [if_pos h1] at k
    exact wpAny_lt_int ⟨by simp, k⟩
end
end Mine
end
section
open PySem PySem.W PyProof.Rows PySem.Calls Builtin Builtin.Tuple
namespace Mine
set_option maxRecDepth 100000
theorem tgt_eq (a b : Value) : Builtin.«tuple.__gt__» ⟨[a, b], []⟩ = (do
  if !(← isInstance b (.type "tuple")) then return ← ret .notImplemented
  let xs ← tupleItemsOf a
  let ys ← tupleItemsOf b
  for (x, y) in xs.toList.zip ys.toList do
    if !(← eqBool x y) then
      rule "tuple.compare.by-the-first-pair-that-differs"; return ← ret (← richCompare .Gt x y)
  ret (tupleCompareSizes .Gt xs.size ys.size)) := rfl
section
variable {w : World} {A : Around} {E : Value → Shared → Prop} {s : Shared}
/-- the pairs of two tuples, one after the other -/
noncomputable def TGt (w : World) (A : Around) (P : Fin → Shared → Prop) (E : Value → Shared → Prop) (fin : Shared → Prop) : List (Value × Value) → Shared → Prop
  | [], s => fin s
  | (x, y) :: r, s => wpAny (model pw w) A (eqBool x y) (fun b s' => if b then TGt w A P E fin r s' else wpAny (model pw w) A (richCompare .Gt x y) (fun v s'' => P (.done (.ret v)) s'') E s') E s
theorem tgt_run {a b : Addr} {xs ys : List Value} {P : Fin → Shared → Prop} (L : Looks (model pw w) s.heap (isInstance (.ref b) (.type "tuple")) true) (ha : SeqD s.heap a xs) (hb : SeqD s.heap b ys)
    (h : TGt w A P E (fun s' => P (.done (.ret (.bool (decide (ys.length < xs.length))))) s') (xs.zip ys) s) : wpAny (model pw w) A (Builtin.«tuple.__gt__» ⟨[.ref a, .ref b], []⟩) P E s := by
  obtain ⟨oa, na, ea, da⟩ := ha
  obtain ⟨ob, nb, eb, db⟩ := hb
  rw [tgt_eq]
  refine wpAny_bind (L.here ?_)
  refine KFB.if_not (by rfl) ?_
  refine wpAny_bind (wpAny_bind (wpAny_seqItems ea da (wpAny_pure ?_)))
  refine wpAny_bind (wpAny_bind (wpAny_seqItems eb db (wpAny_pure ?_)))
  dsimp only
  have hfin : ∀ s', (P (.done (.ret (.bool (decide (ys.length < xs.length))))) s') → wpAny (model pw w) A (ret (tupleCompareSizes .Gt xs.toArray.size ys.toArray.size)) P E s' := fun s' q => by
    refine wpAny_pure ?_
    simpa [tupleCompareSizes] using q
  have key : ∀ (ps : List (Value × Value)) (s : Shared), TGt w A P E (fun s' => P (.done (.ret (.bool (decide (ys.length < xs.length))))) s') ps s →
      wpAny (model pw w) A (forIn ps (none, PUnit.unit) (fun (p : Value × Value) (r : Option Fin × PUnit) => match p with | (x, y) => do
        if !(← eqBool x y) then
          rule "tuple.compare.by-the-first-pair-that-differs"
          let v ← ret (← richCompare .Gt x y)
          pure (ForInStep.done (some v, PUnit.unit))
        else pure (ForInStep.yield (none, PUnit.unit)))) (fun r s' => match r.1 with | none => wpAny (model pw w) A (ret (tupleCompareSizes .Gt xs.toArray.size ys.toArray.size)) P E s' | some v => P v s') E s := by
    intro ps
    induction ps with
    | nil => intro s q; rw [List.forIn_nil]; exact wpAny_pure (hfin _ q)
    | cons p r ih =>
      obtain ⟨x, y⟩ := p
      intro s q
      rw [List.forIn_cons]
      refine wpAny_bind (wpAny_bind (wpAny_mono q (fun b s' hb => ?_) fun _ _ x => x))
      cases b with
      | true =>
        refine KFB.if_not (by rfl) (wpAny_pure ?_)
        exact ih _ hb
      | false =>
        refine KFB.if_so (by rfl) ?_
        refine wpAny_bind (wpAny_rule ?_)
        refine wpAny_bind (wpAny_mono hb (fun v s'' hv => ?_) fun _ _ x => x)
        refine wpAny_bind (wpAny_pure (wpAny_pure (wpAny_pure ?_)))
        exact hv
  refine wpAny_bind (wpAny_mono (key (xs.zip ys) s h) (fun r s' q => ?_) fun _ _ x => x)
  obtain ⟨r1, r2⟩ := r
  cases r1 with
  | none => exact q
  | some v => exact wpAny_pure q
end
theorem listGtLoop {w : World} {a b : Addr} {oa ob : Obj} {vs ws : List Value} {as bs : List Int} {n m : Nat} {s : Shared} {R : Result → Shared → Prop} {A : Around} (ea : s.heap.get? a = some oa) (da : oa.data = .seq vs.toArray n) (eb : s.heap.get? b = some ob) (db : ob.data = .seq ws.toArray m) (hv : IntVals vs as) (hw : IntVals ws bs) :
    ∀ (k i : Nat), as.length - i = k → i ≤ as.length → i ≤ bs.length → R (.ok (.ret (.bool (ltInts (bs.drop i) (as.drop i))))) s → wpAny (model pw w) A.in1 (Builtin.«list.__eq__.loop» ⟨[.ref a, .ref b, rawInt (i : Nat), rawInt ((4 : Nat) : Int)], []⟩) (fun fin s' => match fin with | .done f => R (.ok f) s' | .again c' => c'.quiet = true ∧ codeAny (model pw w) A c' R s') (fun e s' => R (.error e) s') s := by
  obtain ⟨oc, od, dt, sl⟩ := oa
  obtain ⟨oc', od', dt', sl'⟩ := ob
  simp only at da db
  subst da db
  have lv := hv.length
  have lw := hw.length
  intro k
  induction k with
  | zero =>
    intro i hk ht hj hR
    obtain ⟨hp, g, d, tk, os⟩ := s
    have h1 : vs.toArray[((i : Nat) : Int).toNat]? = none := by simp; lia
    wp_walk using wpAny_loadPart' ea, wpAny_loadPart' eb
    rw [h1]
    wp_walk using wpAny_loadPart' ea, wpAny_loadPart' eb
    have hi : i = as.length := by lia
    subst hi
    rw [List.drop_length] at hR
    have e : ltInts (bs.drop as.length) [] = decide (ws.toArray.size < vs.toArray.size) := by
      cases q : bs.drop as.length with
      | nil =>
        have := List.drop_eq_nil_iff.mp q
        rw [ltInts, decide_eq_false]; simp; lia
      | cons c r =>
        rw [ltInts, decide_eq_false]; simp; lia
    rw [e] at hR
    exact hR
  | succ k ih =>
    intro i hk ht hj hR
    obtain ⟨hp, g, d, tk, os⟩ := s
    obtain ⟨x, hx⟩ : ∃ x, as[i]? = some x := ⟨_, List.getElem?_eq_getElem (by lia)⟩
    obtain ⟨tx, hvx⟩ := int_vals_at hv hx
    have h1 : vs.toArray[((i : Nat) : Int).toNat]? = some (.int x tx) := by simpa using hvx
    cases hy : bs[i]? with
    | none =>
      have h2 : ws.toArray[((i : Nat) : Int).toNat]? = none := by simp; have := List.getElem?_eq_none_iff.mp hy; lia
      wp_walk using wpAny_loadPart' ea, wpAny_loadPart' eb
      rw [h1, h2]
      wp_walk using wpAny_loadPart' ea, wpAny_loadPart' eb
      have hb := List.getElem?_eq_none_iff.mp hy
      rw [drop_cons_of hx, List.drop_eq_nil_iff.mpr hb, ltInts] at hR
      have e : decide (ws.toArray.size < vs.toArray.size) = true := by rw [decide_eq_true]; simp; lia
      show R (.ok (.ret (.bool (decide (ws.toArray.size < vs.toArray.size))))) _
      rw [e]
      exact hR
    | some y =>
      obtain ⟨ty, hwy⟩ := int_vals_at hw hy
      have h2 : ws.toArray[((i : Nat) : Int).toNat]? = some (.int y ty) := by simpa using hwy
      wp_walk using wpAny_loadPart' ea, wpAny_loadPart' eb
      rw [h1, h2]
      dsimp only
      refine wpAny_bind (wpAny_eqBool_int ?_)
      rw [drop_cons_of hx, drop_cons_of hy, ltInts] at hR
      by_cases q : y = x
      · subst q
        rw [if_pos (by simp)]
        rw [if_pos rfl] at hR
        have hc : ((i : Int) + 1) = ((i + 1 : Nat) : Int) := by push_cast; rfl
        rw [hc]
        exact wpAny_pure ⟨plainId_quiet llt_plain _, codeAny_builtin llt_entry (by
          rw [Around.under_plainId llt_plain _]
          exact ih (i + 1) (by lia) (by lia) (by have := (List.getElem?_eq_some_iff.mp hy).1; lia) hR)⟩
      · rw [if_neg (by simp; lia)]
        rw [if_neg q] at hR
        wp_walk using wpAny_loadPart' ea, wpAny_loadPart' eb
        rw [h1, h2]
        dsimp only
        refine wpAny_bind (PyProof.Rows.gt_int (s := ⟨hp, g, d, tk, os⟩) (wpAny_pure ?_))
        exact hR

section
variable {w : World} {env : Env} {G₀ G : Store} {h₀ h : Heap} {own : List (Addr × Obj)} {l : Loc} {A : Around} {E : Value → Shared → Prop} {s : Shared} {t : Nat}
theorem listGtS {v v' : Value} {cs ds : List Int} {Q : Value → Shared → Prop} (S : St w env G₀ h₀ own l G h) (r : Rep G v (dInts cs)) (r' : Rep G v' (dInts ds)) (hu : A.units + 10 < cLine)
    (k : Q (.bool (ltInts ds cs)) (mkS s h t)) : wpAny (model pw w) A (richCompare .Gt v v') Q E (mkS s h t) := by
  cases r with
  | list e c d q =>
  cases r' with
  | list e' c' d' q' =>
  rename_i a o vs n a' o' vs' n'
  have ea := S.gin _ _ e
  have eb := S.gin _ _ e'
  have Ta : (mkS s h t).TypeIs (.ref a) "list" := ⟨_, ea, c⟩
  have Tb : (mkS s h t).TypeIs (.ref a') "list" := ⟨_, eb, c'⟩
  refine wpAny_richCompare_same_room (op := .Gt) Ta Tb PySem.F.slot_list_gt (wpAny_call (codeAny_call_builtin PySem.F.slot_list_gt.plain PySem.F.entry_list_gt (PySem.F.slot_list_gt.check _ _ _ _ _ _ _ _ Ta (PySem.F.args_list_gt_2 _ _) ?_))) (by lia)
  show wpAny _ _ (isInstance (.ref a') (.type "list") >>= _) _ _ _
  refine wpAny_bind (wpAny_isInstance (T := "list") (b := true) Tb sub_list_self ?_)
  refine KFB.if_not (by rfl) ?_
  refine KFB.if_not (by rfl) ?_
  refine wpAny_pure ⟨plainId_quiet llt_plain _, codeAny_builtin llt_entry ?_⟩
  rw [Around.under_plainId llt_plain _]
  exact listGtLoop (s := mkS s h t) (R := wants (fun v s' => v ≠ .notImplemented ∧ Q v s') E) ea (by rw [d, Array.toArray_toList]) eb (by rw [d', Array.toArray_toList]) q.intVals q'.intVals _ 0 rfl (Nat.zero_le _) (Nat.zero_le _) ⟨by simp, k⟩
/-- an edit before another -/
theorem gtEdS {v v' : Value} {e e' : Ed} {Q : Value → Shared → Prop} (S : St w env G₀ h₀ own l G h) (r : Rep G v (dEd e)) (r' : Rep G v' (dEd e')) (hu : A.units + 100 < cLine)
    (k : Q (.bool (ltEd e' e)) (mkS s h t)) : wpAny (model pw w) A (compareOp .Gt v v') Q E (mkS s h t) := by
  cases r with
  | tuple ea ca da q =>
  cases r' with
  | tuple eb cb db q' =>
  rename_i a o vs n a' o' vs' n'
  have Ta : (mkS s h t).TypeIs (.ref a) "tuple" := ⟨_, S.gin _ _ ea, ca⟩
  have Tb : (mkS s h t).TypeIs (.ref a') "tuple" := ⟨_, S.gin _ _ eb, cb⟩
  have Lb : Looks (model pw w) (mkS s h t).heap (isInstance (.ref a') (.type "tuple")) true := fun A Q E s' hk hq => wpAny_isInstance (T := "tuple") (b := true) ⟨_, hk _ _ (S.gin _ _ eb), cb⟩ sub_tt hq
  show wpAny _ _ (richCompare .Gt _ _) _ _ _
  generalize hvs : vs.toList = xs at q
  generalize hvs' : vs'.toList = ys at q'
  refine wpAny_richCompare_same_room (op := .Gt) Ta Tb PySem.F.slot_tuple_gt (wpAny_call (codeAny_call_builtin PySem.F.slot_tuple_gt.plain PySem.F.entry_tuple_gt (PySem.F.slot_tuple_gt.check _ _ _ _ _ _ _ _ Ta (PySem.F.args_tuple_gt_2 _ _) ?_))) (by lia)
  refine tgt_run (xs := xs) (ys := ys) Lb ⟨o, n, S.gin _ _ ea, by rw [da, ← hvs, Array.toArray_toList]⟩ ⟨o', n', S.gin _ _ eb, by rw [db, ← hvs', Array.toArray_toList]⟩ ?_
  obtain ⟨_, _, _, _, rfl, a1, a2, a3, a4⟩ := q.four
  obtain ⟨_, _, _, _, rfl, b1, b2, b3, b4⟩ := q'.four
  obtain ⟨t1, rfl⟩ := a1.intv
  obtain ⟨t2, rfl⟩ := a2.intv
  obtain ⟨t3, rfl⟩ := a3.strv
  obtain ⟨u1, rfl⟩ := b1.intv
  obtain ⟨u2, rfl⟩ := b2.intv
  obtain ⟨u3, rfl⟩ := b3.strv
  refine wpAny_eqBool_int ?_
  unfold ltEd at k
  by_cases h1 : e.i = e'.i
  · rw [if_pos (by simp [h1])]
    rw [if_neg (by simp [h1])] at k
    refine wpAny_eqBool_int ?_
    by_cases h2 : e.j = e'.j
    · rw [if_pos (by simp [h2])]
      rw [if_neg (by simp [h2])] at k
      refine wpAny_eqBool_str ?_
      by_cases h3 : e.w = e'.w
      · rw [if_pos (by simp [h3])]
        rw [if_neg (by simp [h3])] at k
        refine eqBoolL S a4 b4 (by show A.units + 1 + 64 < _; lia) ?_
        by_cases h4 : e.c = e'.c
        · rw [if_pos (by simp [h4])]
          rw [h4, ltInts_self] at k
          exact ⟨by simp, k⟩
        · rw [if_neg (by simpa using h4)]
          exact listGtS S a4 b4 (by show A.units + 1 + 10 < _; lia) ⟨by simp, k⟩
      · rw [if_neg (by simpa using h3)]
        rw [if_pos (fun q => h3 q.symm)] at k
        exact P.gt_str ⟨by simp, k⟩
    · rw [if_neg (by simpa using h2)]
      rw [if_pos (fun q => h2 q.symm)] at k
      exact PyProof.Rows.gt_int ⟨by simp, k⟩
  · rw [if_neg (by simpa using h1)]
    rw [if_pos (fun q => h1 q.symm)] at k
    exact PyProof.Rows.gt_int ⟨by simp, k⟩
end
end Mine
end
section
open PySem PySem.W PyProof.Rows PySem.Calls
namespace Mine
set_option maxRecDepth 100000
section
variable {w : World} {env : Env} {G₀ G : Store} {h₀ h : Heap} {own mid : List (Addr × Obj)} {l : Loc} {A : Around} {E : Value → Shared → Prop} {s : Shared} {t : Nat} {Lc : Addr} {oc : Obj} {sl : Array (Option Value)}
/-- x[i], in the list or past its end -/
theorem itemOr {value slice : PySem.Expr} {v : Value} {ds : List PyData} {i : Nat} {u : Tok} {Q : Value → Shared → Prop} (S : St w env G₀ h₀ own l G h) (r : Rep G v (.list ds)) (hz : ds.length ≤ 1000) (hi : i ≤ 2000) (hh : Handles A own)
    (kin : ∀ x d, ds[i]? = some d → Rep G x d → Q x (mkS s h t))
    (kout : ds.length ≤ i → ∀ h' t' e ctx oe, St w env G₀ h₀ ((e, oe) :: own) l G h' → IsExc "IndexError" .none ctx oe → E (.ref e) (mkS s h' t'))
    (hs : ∀ a, subscripted slice false (.ref a) (.int ((i : Nat) : Int) u) = operate [.ref a, .int ((i : Nat) : Int) u] (getItem (.ref a) (.int ((i : Nat) : Int) u)) := by intro _; with_unfolding_all rfl) (hg : ∀ a r, letTemporaryGo value (.ref a) r = pure () := by intro _ _; with_unfolding_all rfl) :
    wpAny (model pw w) A (subscriptTail value slice v (.int ((i : Nat) : Int) u)) Q E (mkS s h t) := by
  by_cases hlt : i < ds.length
  · obtain ⟨a, vs, rfl, la, ra⟩ := r.isList S.gin
    obtain ⟨x, hx, rx⟩ := ra.get (List.getElem?_eq_getElem hlt)
    exact item_list (s := mkS s h t) la (by lia) (by lia) (by simpa using hx) (kin x _ (List.getElem?_eq_getElem hlt) rx) (hs _) (hg _)
  · obtain ⟨a, vs, rfl, la, ra⟩ := id (r.isList S.gin)
    refine subscriptTail_ops (s := mkS s h t) (Heap.IsList.typeIs (s := mkS s h t) la) list_getitem_lookup ?_ (hs _) (hg _)
    exact getOutS S r (by lia) (by lia) hh fun h' t' e ctx oe S' hx => kout (by lia) h' t' e ctx oe S' hx
/-- own.extend(list) -/
theorem extendOwn {a : Addr} {vs : List Value} {n : Nat} {v : Value} {ds : List PyData} {ow : Obj → List (Addr × Obj)} {Q : Value → Shared → Prop} (S : St w env G₀ h₀ own l G h) (ho : ∀ o', OwnTo own a (lstO vs n) o' (ow o')) (r : Rep G v (.list ds)) (hz : vs.length + ds.length ≤ 1000)
    (k : ∀ h' ws n', St w env G₀ h₀ (ow (lstO (vs ++ ws) n')) l G h' → RepAll G ws ds → Q .none (mkS s h' t)) : wpAny (model pw w) A (call (.builtin "list.extend") [.ref a, v]) Q E (mkS s h t) := by
  have e0 := (S.ow _ (ho (lstO [] 0)).mem).1
  obtain ⟨b, ws, rfl, ⟨ob, hob, hcb, nb, hdb⟩, ra⟩ := r.isList S.gin
  have lw := ra.length
  refine wpAny_call_entry PySem.F.slot_list_extend ⟨_, e0, rfl⟩ PySem.F.entry_list_extend ?_ (PySem.F.args_list_extend_2 _ _)
  show wpAny _ _ (Builtin.List.listExtendWith (.ref a) (.ref b) .none) _ _ _
  unfold Builtin.List.listExtendWith
  refine wpAny_bind (wpAny_typeOf (T := "list") ⟨_, hob, hcb⟩ ?_)
  refine KFB.if_so (by simp) ?_
  refine wpAny_bind (listItems_at hob hdb ?_)
  refine wpAny_bind (listItems_at e0 rfl ?_)
  have hlong : (!(vs.toArray.isEmpty) && Builtin.List.listTooLong (vs.toArray.size + ws.toArray.size)) = false := by
    have : Builtin.List.listTooLong (vs.toArray.size + ws.toArray.size) = false := by
      unfold Builtin.List.listTooLong
      simp only [decide_eq_false_iff_not, List.size_toArray]
      have := sizeLine_eq
      lia
    rw [this, Bool.and_false]
  refine KFB.if_not hlong ?_
  have q : ∃ n', Obj.mapSeq (· ++ ws.toArray) (lstO vs n) = lstO (vs ++ ws) n' := by
    have e1 : vs.toArray ++ ws.toArray = (vs ++ ws).toArray := by simp
    have e2 : ∃ n', Obj.mapSeq (· ++ ws.toArray) (lstO vs n) = { cls := .type "list", data := .seq (vs.toArray ++ ws.toArray) n' } := ⟨_, rfl⟩
    obtain ⟨n', e2⟩ := e2
    exact ⟨n', by rw [e2, e1]⟩
  obtain ⟨n', q⟩ := q
  refine wpAny_bind (listUpdate_at e0 rfl (wpAny_pure ⟨_, rfl, ?_⟩) (by simp; rw [sizeLine_eq]; lia) (by simp; rw [sizeLine_eq]; lia))
  exact k _ ws n' (S.upd (ho _) (Heap.SameBut.update ..) (by rw [← q]; exact Heap.get?_update_self _ e0 (by rw [q]; rfl))) ra
/-- while x[i] == e: i += 1 -- where the next differs, or there is none -/
theorem innerS {envc : Env} {xL xI xE : Str} {p1 p2 p3 p4 p5 pos : Pos} {body : List Stmt} {v ve : Value} {ds : List Ed} {e : Ed} {i : Nat} {ti : Tok} {P : Loc → Store → List (Addr × Obj) → Prop} {Q : Flow → Shared → Prop}
    (hL : Has l xL v) (hI : Has l xI (.int (i : Nat) ti)) (hE : Has l xE ve) (dL : (xL == ("__debug__" : Str)) = false) (dI : (xI == ("__debug__" : Str)) = false) (dE : (xE == ("__debug__" : Str)) = false)
    (S : St w env G₀ h₀ (mid ++ [(Lc, { oc with slots := sl })]) l G h) (rv : Rep G v (dEds ds)) (re : Rep G ve (dEd e)) (hw : ∀ e ∈ ds, PyData.strOk e.w = true) (hwe : PyData.strOk e.w = true) (hz : ds.length ≤ 60) (hiz : i ≤ 100)
    (hne : ds[i]? ≠ some e) (hh : Handles A (mid ++ [(Lc, { oc with slots := sl })])) (hu : A.units + 100 < cLine)
    (hfr : A.frames = some [env, envc]) (hf : env.frame = some env.locals) (hfc : envc.frame = some Lc) (hkc : envc.scope.kind ≠ .module) (hoc : ∀ vs, oc.data ≠ .fields vs)
    (kn : i < ds.length → ∀ t', Q .next (mkS s h t')) (hp : ds.length ≤ i → P l G mid) :
    wpAny (model pw w) A (exec (.While (.Compare (.Subscript (.Name xL p1) (.Name xI p2) p3) [.Eq] [.Name xE p4] p5) body [] pos) env) Q (Thrown w env G₀ h₀ s Lc oc "IndexError" P) (mkS s h t) := by
  refine while_E (while_turnE ?_)
  refine wpAny_isTrue_Compare1 (Subscript_ (ldS S hL (ldS S hI ?_ dI) dL))
  refine itemOr S rv (by rw [List.length_map]; lia) (by lia) hh (fun x d hd rx => ?_) fun hout h' t' ex ctx oe S' hx => ?_
  · have hlt : i < ds.length := by have := (List.getElem?_eq_some_iff.mp hd).1; simpa using this
    rw [List.getElem?_map, List.getElem?_eq_getElem hlt] at hd
    obtain rfl := (Option.some.inj hd).symm
    refine ldS S hE ?_ dE
    refine eqS (n := 2) S rx re (nice_ed 0 _ (hw _ (List.getElem_mem hlt))) (nice_ed 0 _ hwe) (by decide) (by lia) fun b hb => wpAny_truthy_bool ?_
    cases b with
    | true => exact absurd (by rw [List.getElem?_eq_getElem hlt, dEd_inj.mp (hb.mp rfl)]) hne
    | false =>
      refine ifno rfl ?_
      exact kn hlt _
  · have X : Thrown w env G₀ h₀ s Lc oc "IndexError" P (.ref ex) (mkS s h' t') := .raw (mid := mid) S' hx (hp (by simpa using hout))
    exact X.note hfr hf hfc hkc hoc fun {e2 oe2 ctx2 T oT mid2 sl2 l2 G2 h2 t2} ev S2 i2 j2 p2 => by
      rw [ev]
      refine camebackS (own' := fun o' => (T, o') :: (e2, oe2) :: (mid2 ++ [(Lc, { oc with slots := sl2 })])) S2 (.tail _ (.head _)) (fun _ => .head) i2 j2 hf fun h3 oT3 S3 j3 => ?_
      exact .noted S3 i2 j3 p2
theorem raiseWords0 {α : Type} {cls msg : String} {Q : α → Shared → Prop} (S : St w env G₀ h₀ own l G h) (hp : PlainExc cls) (hh : A.handled = none)
    (k : ∀ h' t' e oe, St w env G₀ h₀ ((e, oe) :: own) l G h' → IsExc cls .none .none oe → E (.ref e) (mkS s h' t')) : wpAny (model pw w) A (raiseErrorWords cls msg : Sem α) Q E (mkS s h t) := by
  unfold raiseErrorWords
  refine wpAny_bind (wpAny_mkText (wpAny_bind ?_))
  refine wpAny_newExc_plain (s := mkS s h (t + 1)) hp fun h' e hm => ?_
  obtain ⟨x, hx, _, _⟩ := hm.there
  have S' := S.gain hm.keeps hm.new hx
  exact wpAny_raiseNew_none hh (k _ _ _ _ S' ⟨_, rfl, rfl⟩)
theorem itemOr0 {value slice : PySem.Expr} {v : Value} {ds : List PyData} {i : Nat} {u : Tok} {Q : Value → Shared → Prop} (S : St w env G₀ h₀ own l G h) (r : Rep G v (.list ds)) (hi : i ≤ 2000) (hh : A.handled = none)
    (kin : ∀ x d, ds[i]? = some d → Rep G x d → Q x (mkS s h t))
    (kout : ds.length ≤ i → ∀ h' t' e oe, St w env G₀ h₀ ((e, oe) :: own) l G h' → IsExc "IndexError" .none .none oe → E (.ref e) (mkS s h' t'))
    (hs : ∀ a, subscripted slice false (.ref a) (.int ((i : Nat) : Int) u) = operate [.ref a, .int ((i : Nat) : Int) u] (getItem (.ref a) (.int ((i : Nat) : Int) u)) := by intro _; with_unfolding_all rfl) (hg : ∀ a r, letTemporaryGo value (.ref a) r = pure () := by intro _ _; with_unfolding_all rfl) :
    wpAny (model pw w) A (subscriptTail value slice v (.int ((i : Nat) : Int) u)) Q E (mkS s h t) := by
  obtain ⟨a, vs, rfl, la, ra⟩ := id (r.isList S.gin)
  by_cases hlt : i < ds.length
  · obtain ⟨x, hx, rx⟩ := ra.get (List.getElem?_eq_getElem hlt)
    exact item_list (s := mkS s h t) la (by lia) (by lia) (by simpa using hx) (kin x _ (List.getElem?_eq_getElem hlt) rx) (hs _) (hg _)
  · refine subscriptTail_ops (s := mkS s h t) (Heap.IsList.typeIs (s := mkS s h t) la) list_getitem_lookup ?_ (hs _) (hg _)
    exact MineP.mine_getOut (s := mkS s h t) la (by have := ra.length; simp; lia) rfl (by lia) (raiseWords0 S plainExc_IndexError (by exact hh) fun h' t' e oe S' hx => kout (by lia) h' t' e oe S' hx)
theorem innerX {envc : Env} {xL xI xE : Str} {p1 p2 p3 p4 p5 pos : Pos} {body : List Stmt} {v ve : Value} {ds : List Ed} {e : Ed} {i : Nat} {ti : Tok} {Q : Flow → Shared → Prop}
    (hL : Has l xL v) (hI : Has l xI (.int (i : Nat) ti)) (hE : Has l xE ve) (dL : (xL == ("__debug__" : Str)) = false) (dI : (xI == ("__debug__" : Str)) = false) (dE : (xE == ("__debug__" : Str)) = false)
    (S : St w env G₀ h₀ (mid ++ [(Lc, { oc with slots := sl })]) l G h) (rv : Rep G v (dEds ds)) (re : Rep G ve (dEd e)) (hw : ∀ e ∈ ds, PyData.strOk e.w = true) (hwe : PyData.strOk e.w = true) (hiz : i ≤ 100)
    (hne : ds[i]? ≠ some e) (hh : A.handled = none) (hu : A.units + 100 < cLine)
    (hfr : A.frames = some [env, envc]) (hf : env.frame = some env.locals) (hfc : envc.frame = some Lc) (hkc : envc.scope.kind ≠ .module) (hoc : ∀ vs, oc.data ≠ .fields vs)
    (kn : i < ds.length → ∀ t', Q .next (mkS s h t'))
    (kx : ds.length ≤ i → ∀ h' t' ex oe T oT sl', St w env G₀ h₀ ((T, oT) :: (ex, oe) :: (mid ++ [(Lc, { oc with slots := sl' })])) l G h' → IsExc "IndexError" (.ref T) .none oe → IsTb (rawInt env.locals) oT → E (.ref ex) (mkS s h' t')) :
    wpAny (model pw w) A (exec (.While (.Compare (.Subscript (.Name xL p1) (.Name xI p2) p3) [.Eq] [.Name xE p4] p5) body [] pos) env) Q E (mkS s h t) := by
  refine while_E (while_turnE ?_)
  refine wpAny_isTrue_Compare1 (Subscript_ (ldS S hL (ldS S hI ?_ dI) dL))
  refine itemOr0 S rv (by lia) hh (fun x d hd rx => ?_) fun hout h' t' ex oe S' hx => ?_
  · have hlt : i < ds.length := by have := (List.getElem?_eq_some_iff.mp hd).1; simpa using this
    rw [List.getElem?_map, List.getElem?_eq_getElem hlt] at hd
    obtain rfl := (Option.some.inj hd).symm
    refine ldS S hE ?_ dE
    refine eqS (n := 2) S rx re (nice_ed 0 _ (hw _ (List.getElem_mem hlt))) (nice_ed 0 _ hwe) (by decide) (by lia) fun b hb => wpAny_truthy_bool ?_
    cases b with
    | true => exact absurd (by rw [List.getElem?_eq_getElem hlt, dEd_inj.mp (hb.mp rfl)]) hne
    | false =>
      refine ifno rfl ?_
      exact kn hlt _
  · refine noteFirst S' hx hfr hf hfc hkc hoc fun h2 T oe' oT sl2 S2 i2 j2 => ?_
    refine camebackS (own' := fun o' => (T, o') :: (ex, oe') :: (mid ++ [(Lc, { oc with slots := sl2 })])) S2 (.tail _ (.head _)) (fun _ => .head) i2 j2 hf fun h3 oT3 S3 j3 => ?_
    exact kx (by simpa using hout) h3 _ ex oe' T oT3 sl2 S3 i2 j3
end
theorem ltInts_trans : ∀ {a b c : List Int}, ltInts a b = true → ltInts b c = true → ltInts a c = true
  | [], [], _, h, _ => by simp [ltInts] at h
  | [], _ :: _, [], _, h => by simp [ltInts] at h
  | [], _ :: _, _ :: _, _, _ => rfl
  | _ :: _, [], _, h, _ => by simp [ltInts] at h
  | _ :: _, _ :: _, [], _, h => by simp [ltInts] at h
  | x :: a, y :: b, z :: c, h, g => by
    simp only [ltInts] at h g ⊢
    by_cases h1 : x = y
    · subst h1
      rw [if_pos rfl] at h
      by_cases h2 : x = z
      · rw [if_pos h2] at g ⊢; exact ltInts_trans h g
      · rw [if_neg h2] at g ⊢; exact g
    · rw [if_neg h1] at h
      have h := of_decide_eq_true h
      by_cases h2 : y = z
      · subst h2
        rw [if_neg h1]; exact decide_eq_true h
      · rw [if_neg h2] at g
        have g := of_decide_eq_true g
        rw [if_neg (by lia)]; exact decide_eq_true (by lia)
theorem ltInts_tri : ∀ {a b : List Int}, a ≠ b → ltInts a b = false → ltInts b a = true
  | [], [], h, _ => absurd rfl h
  | [], _ :: _, _, h => by simp [ltInts] at h
  | _ :: _, [], _, _ => rfl
  | x :: a, y :: b, h, g => by
    simp only [ltInts] at g ⊢
    by_cases h1 : x = y
    · subst h1
      rw [if_pos rfl] at g ⊢
      exact ltInts_tri (fun q => h (by rw [q])) g
    · rw [if_neg h1] at g
      have g := of_decide_eq_false g
      rw [if_neg (by lia)]; exact decide_eq_true (by lia)
theorem str_ext {a b : Str} (h : a.cps.toList = b.cps.toList) : a = b := by
  cases a; cases b
  simp only at h
  congr 1
  exact Array.toList_inj.mp h
theorem ltEd_irrefl (e : Ed) : ltEd e e = false := by
  unfold ltEd
  simp [ltInts_self]
theorem ltEd_trans {a b c : Ed} (h : ltEd a b = true) (g : ltEd b c = true) : ltEd a c = true := by
  unfold ltEd at *
  by_cases a1 : a.i = b.i
  · rw [if_neg (by simpa using a1)] at h
    by_cases b1 : b.i = c.i
    · rw [if_neg (by simpa using b1)] at g
      rw [if_neg (by simp [a1, b1])]
      by_cases a2 : a.j = b.j
      · rw [if_neg (by simpa using a2)] at h
        by_cases b2 : b.j = c.j
        · rw [if_neg (by simpa using b2)] at g
          rw [if_neg (by simp [a2, b2])]
          by_cases a3 : a.w = b.w
          · rw [if_neg (by simpa using a3)] at h
            by_cases b3 : b.w = c.w
            · rw [if_neg (by simpa using b3)] at g
              rw [if_neg (by simp [a3, b3])]
              exact ltInts_trans h g
            · rw [if_pos b3] at g
              rw [a3, if_pos b3]; exact g
          · rw [if_pos a3] at h
            by_cases b3 : b.w = c.w
            · rw [← b3, if_pos a3]; exact h
            · rw [if_pos b3] at g
              have h := of_decide_eq_true h
              have g := of_decide_eq_true g
              have hac := List.lt_trans h g
              rw [if_pos (fun q => by rw [q] at hac; exact List.lt_irrefl _ hac)]
              exact decide_eq_true hac
        · rw [if_pos b2] at g
          rw [a2, if_pos b2]; exact g
      · rw [if_pos a2] at h
        have h := of_decide_eq_true h
        by_cases b2 : b.j = c.j
        · rw [← b2, if_pos a2]; exact decide_eq_true h
        · rw [if_pos b2] at g
          have g := of_decide_eq_true g
          rw [if_pos (by lia)]; exact decide_eq_true (by lia)
    · rw [if_pos b1] at g
      rw [a1, if_pos b1]; exact g
  · rw [if_pos a1] at h
    have h := of_decide_eq_true h
    by_cases b1 : b.i = c.i
    · rw [← b1, if_pos a1]; exact decide_eq_true h
    · rw [if_pos b1] at g
      have g := of_decide_eq_true g
      rw [if_pos (by lia)]; exact decide_eq_true (by lia)
theorem ltEd_tri {a b : Ed} (h : ltEd a b = false) (g : ltEd b a = false) : a = b := by
  unfold ltEd at *
  by_cases a1 : a.i = b.i
  · rw [if_neg (by simpa using a1)] at h
    rw [if_neg (by simp [a1])] at g
    by_cases a2 : a.j = b.j
    · rw [if_neg (by simpa using a2)] at h
      rw [if_neg (by simp [a2])] at g
      by_cases a3 : a.w = b.w
      · rw [if_neg (by simpa using a3)] at h
        rw [if_neg (by simp [a3])] at g
        by_cases a4 : a.c = b.c
        · cases a; cases b; simp only at a1 a2 a3 a4; subst a1 a2 a3 a4; rfl
        · have := ltInts_tri a4 h; rw [this] at g; cases g
      · rw [if_pos a3] at h
        rw [if_pos (fun q => a3 q.symm)] at g
        have h := of_decide_eq_false h
        have g := of_decide_eq_false g
        exact absurd (str_ext (List.le_antisymm (List.not_lt.mp g) (List.not_lt.mp h))) a3
    · rw [if_pos a2] at h
      rw [if_pos (fun q => a2 q.symm)] at g
      have h := of_decide_eq_false h
      have g := of_decide_eq_false g
      lia
  · rw [if_pos a1] at h
    rw [if_pos (fun q => a1 q.symm)] at g
    have h := of_decide_eq_false h
    have g := of_decide_eq_false g
    lia
noncomputable def SortedE (ds : List Ed) : Prop := ds.Pairwise fun x y => ltEd x y = true
theorem SortedE.nodup {ds : List Ed} (h : SortedE ds) : ds.Nodup := h.imp fun {a b} q r => by subst r; rw [ltEd_irrefl] at q; cases q
structure SI (ds es : List Ed) (i j : Nat) (ms us : List Ed) : Prop where
  hi : i ≤ ds.length
  hj : j ≤ es.length
  m : ms = (ds.take i).filter fun e => decide (e ∉ es)
  u : us = (es.take j).filter fun e => decide (e ∉ ds)
  o1 : ∀ x ∈ ds.take i, ∀ y ∈ es.drop j, ltEd x y = true
  o2 : ∀ y ∈ es.take j, ∀ x ∈ ds.drop i, ltEd y x = true
theorem SI.start (ds es : List Ed) : SI ds es 0 0 [] [] := ⟨Nat.zero_le _, Nat.zero_le _, rfl, rfl, fun _ h => by simp at h, fun _ h => by simp at h⟩
theorem SI.swap {ds es : List Ed} {i j : Nat} {ms us : List Ed} (I : SI ds es i j ms us) : SI es ds j i us ms := ⟨I.hj, I.hi, I.u, I.m, I.o2, I.o1⟩
theorem SortedE.drop_lt {es : List Ed} (h : SortedE es) {j : Nat} {a y : Ed} (ha : es[j]? = some a) (hy : y ∈ es.drop j) : y = a ∨ ltEd a y = true := by
  rw [drop_cons_of ha] at hy
  rcases List.mem_cons.mp hy with q | q
  · exact .inl q
  · right
    have : SortedE (es.drop j) := h.sublist (List.drop_sublist _ _)
    rw [drop_cons_of ha] at this
    exact (List.pairwise_cons.mp this).1 y q
theorem mem_take_or_drop {α : Type} {l : List α} {x : α} (j : Nat) (h : x ∈ l) : x ∈ l.take j ∨ x ∈ l.drop j := by
  rw [← List.take_append_drop j l] at h
  exact List.mem_append.mp h
theorem SI.less {ds es : List Ed} {i j : Nat} {ms us : List Ed} {e a : Ed} (hd : SortedE ds) (he : SortedE es) (I : SI ds es i j ms us) (h1 : ds[i]? = some e) (h2 : es[j]? = some a) (hlt : ltEd e a = true) : SI ds es (i + 1) j (ms ++ [e]) us := by
  have hi : i < ds.length := (List.getElem?_eq_some_iff.mp h1).1
  have hmem : e ∈ ds.drop i := by rw [drop_cons_of h1]; exact .head _
  have gt : ∀ y ∈ es.drop j, ltEd e y = true := fun y hy => by
    rcases he.drop_lt h2 hy with rfl | q
    · exact hlt
    · exact ltEd_trans hlt q
  have hn : e ∉ es := fun q => by
    rcases mem_take_or_drop j q with q | q
    · have := I.o2 e q e hmem; rw [ltEd_irrefl] at this; cases this
    · have := gt e q; rw [ltEd_irrefl] at this; cases this
  refine ⟨hi, I.hj, ?_, I.u, fun x hx y hy => ?_, fun y hy x hx => I.o2 y hy x (by rw [drop_cons_of h1]; exact .tail _ hx)⟩
  · rw [take_snoc h1, List.filter_append, ← I.m]
    congr 1
    simp [hn]
  · rw [take_snoc h1] at hx
    rcases List.mem_append.mp hx with hx | hx
    · exact I.o1 x hx y hy
    · rw [List.mem_singleton] at hx; subst hx; exact gt y hy
theorem SI.same {ds es : List Ed} {i j : Nat} {ms us : List Ed} {e : Ed} (hd : SortedE ds) (he : SortedE es) (I : SI ds es i j ms us) (h1 : ds[i]? = some e) (h2 : es[j]? = some e) : SI ds es (i + 1) (j + 1) ms us := by
  have hi : i < ds.length := (List.getElem?_eq_some_iff.mp h1).1
  have hj : j < es.length := (List.getElem?_eq_some_iff.mp h2).1
  have md : e ∈ ds := List.mem_of_getElem? h1
  have me : e ∈ es := List.mem_of_getElem? h2
  refine ⟨hi, hj, ?_, ?_, fun x hx y hy => ?_, fun y hy x hx => ?_⟩
  · rw [take_snoc h1, List.filter_append, ← I.m]; simp [me]
  · rw [take_snoc h2, List.filter_append, ← I.u]; simp [md]
  · rw [take_snoc h1] at hx
    have hy' : y ∈ es.drop j := by rw [drop_cons_of h2]; exact .tail _ hy
    rcases List.mem_append.mp hx with hx | hx
    · exact I.o1 x hx y hy'
    · rw [List.mem_singleton] at hx; subst hx
      have : SortedE (es.drop j) := he.sublist (List.drop_sublist _ _)
      rw [drop_cons_of h2] at this
      exact (List.pairwise_cons.mp this).1 y hy
  · rw [take_snoc h2] at hy
    have hx' : x ∈ ds.drop i := by rw [drop_cons_of h1]; exact .tail _ hx
    rcases List.mem_append.mp hy with hy | hy
    · exact I.o2 y hy x hx'
    · rw [List.mem_singleton] at hy; subst hy
      have : SortedE (ds.drop i) := hd.sublist (List.drop_sublist _ _)
      rw [drop_cons_of h1] at this
      exact (List.pairwise_cons.mp this).1 x hx
theorem SI.fin {ds es : List Ed} {i j : Nat} {ms us : List Ed} (I : SI ds es i j ms us) (h : ds.length ≤ i ∨ es.length ≤ j) : ms ++ ds.drop i = ds.filter (fun e => decide (e ∉ es)) ∧ us ++ es.drop j = es.filter (fun e => decide (e ∉ ds)) := by
  have key : ∀ {ds es : List Ed} {i j : Nat} {ms us : List Ed}, SI ds es i j ms us → es.length ≤ j → ms ++ ds.drop i = ds.filter (fun e => decide (e ∉ es)) ∧ us ++ es.drop j = es.filter (fun e => decide (e ∉ ds)) := by
    intro ds es i j ms us I h
    have ht : es.take j = es := List.take_of_length_le h
    have hd : es.drop j = [] := List.drop_eq_nil_iff.mpr h
    constructor
    · conv => rhs; rw [← List.take_append_drop i ds, List.filter_append]
      rw [I.m]
      congr 1
      · refine (List.filter_eq_self.mpr fun x hx => ?_).symm
        simp only [decide_eq_true_eq]
        intro hm
        have := I.o2 x (ht.symm ▸ hm) x hx
        rw [ltEd_irrefl] at this; cases this
    · rw [hd, List.append_nil, I.u, ht]
  rcases h with h | h
  · have := key I.swap h; exact ⟨this.2, this.1⟩
  · exact key I h
local macro_rules | `(tactic| walk_at "set") => `(tactic| first | with_reducible exact SetTo.nth 0 rfl | with_reducible exact SetTo.nth 1 rfl | with_reducible exact SetTo.nth 2 rfl | with_reducible exact SetTo.nth 3 rfl | with_reducible exact SetTo.nth 4 rfl | with_reducible exact SetTo.nth 5 rfl | with_reducible exact SetTo.nth 6 rfl | with_reducible exact SetTo.nth 7 rfl | with_reducible exact SetTo.nth 8 rfl | with_reducible exact SetTo.nth 9 rfl | with_reducible exact SetTo.nth 10 rfl | with_reducible exact SetTo.nth 11 rfl | with_reducible exact SetTo.nth 12 rfl | with_reducible exact SetTo.nth 13 rfl | with_reducible exact SetTo.nth 14 rfl | with_reducible exact SetTo.nth 15 rfl | with_reducible exact SetTo.nth 16 rfl | with_reducible exact SetTo.nth 17 rfl | with_reducible exact SetTo.nth 18 rfl | with_reducible exact SetTo.nth 19 rfl | with_reducible exact SetTo.nth 20 rfl | with_reducible exact SetTo.nth 21 rfl)
local macro_rules | `(tactic| walk_at "mem") => `(tactic| first | with_reducible exact Has.nth 0 rfl | with_reducible exact Has.nth 1 rfl | with_reducible exact Has.nth 2 rfl | with_reducible exact Has.nth 3 rfl | with_reducible exact Has.nth 4 rfl | with_reducible exact Has.nth 5 rfl | with_reducible exact Has.nth 6 rfl | with_reducible exact Has.nth 7 rfl | with_reducible exact Has.nth 8 rfl | with_reducible exact Has.nth 9 rfl | with_reducible exact Has.nth 10 rfl | with_reducible exact Has.nth 11 rfl | with_reducible exact Has.nth 12 rfl | with_reducible exact Has.nth 13 rfl | with_reducible exact Has.nth 14 rfl | with_reducible exact Has.nth 15 rfl | with_reducible exact Has.nth 16 rfl | with_reducible exact Has.nth 17 rfl | with_reducible exact Has.nth 18 rfl | with_reducible exact Has.nth 19 rfl | with_reducible exact Has.nth 20 rfl | with_reducible exact Has.nth 21 rfl)
noncomputable abbrev fd71 : FuncData := fnOf (Str.ofString "sorted_list_difference") (Str.ofString "sorted_list_difference") F71.1 F71.2.1 F71.2.2.1 Value.none Value.none (Value.str (docOr F71.2.1) 267) (Value.str (Str.ofString "cpy313.unittest.util") 194) none (Value.ref 70) Value.none
theorem K71 (P : Params) : (K P).lookup 71 = some ⟨.type "function", none, .func fd71, #[]⟩ := by rfl
theorem C71 (P : Params) : codeIn (K P) fd71.code fd71.qualname = true := by rfl
noncomputable def n71 : List Str := [Str.ofString "expected", Str.ofString "actual", Str.ofString "i", Str.ofString "j", Str.ofString "missing", Str.ofString "unexpected", Str.ofString "e", Str.ofString "a"]
noncomputable abbrev LS (ex ac i j mi un e a : Option Value) : Loc := [(Str.ofString "expected", ex), (Str.ofString "actual", ac), (Str.ofString "i", i), (Str.ofString "j", j), (Str.ofString "missing", mi), (Str.ofString "unexpected", un), (Str.ofString "e", e), (Str.ofString "a", a)]
section
variable {w : World} {env : Env} {G₀ G : Store} {h₀ h : Heap} {own : List (Addr × Obj)} {l : Loc} {A : Around} {E : Value → Shared → Prop} {s : Shared} {t : Nat}
theorem Thrown.back {envc : Env} {B : Around} {cls : String} {Lc : Addr} {oc : Obj} {P : Loc → Store → List (Addr × Obj) → Prop} {v : Value} {s' : Shared} (X : Thrown w env G₀ h₀ s Lc oc cls P v s') (hfr : B.frames = some [env, envc]) (hf : env.frame = some env.locals) (hfc : envc.frame = some Lc) (hkc : envc.scope.kind ≠ .module) (hoc : ∀ vs, oc.data ≠ .fields vs) :
    notedBy (model pw w) B env (cameBackBy (model pw w) A env (Thrown w env G₀ h₀ s Lc oc cls P)) v s' :=
  X.note hfr hf hfc hkc hoc fun {e2 oe2 ctx2 T oT mid2 sl2 l2 G2 h2 t2} ev S2 i2 j2 p2 => by
    rw [ev]
    refine camebackS (own' := fun o' => (T, o') :: (e2, oe2) :: (mid2 ++ [(Lc, { oc with slots := sl2 })])) S2 (.tail _ (.head _)) (fun _ => .head) i2 j2 hf fun h3 oT3 S3 j3 => ?_
    exact .noted S3 i2 j3 p2
/-- the state at a throw -/
inductive PS (v v' : Value) (ma ua : Addr) (ds es : List Ed) (G : Store) (l : Loc) (G' : Store) (mid : List (Addr × Obj)) : Prop
  | mk (i j : Nat) (ti tj : Tok) (ms us : List Ed) (mv uv : List Value) (mn un : Nat) (ev av : Option Value) (extra : List (Addr × Obj)) (e1 : G' = G) (e2 : l = LS (some v) (some v') (some (.int (i : Nat) ti)) (some (.int (j : Nat) tj)) (some (.ref ma)) (some (.ref ua)) ev av) (e3 : mid = extra ++ [(ma, lstO mv mn), (ua, lstO uv un)]) (e4 : RepAll G mv (ms.map dEd)) (e5 : RepAll G uv (us.map dEd)) (e6 : SI ds es i j ms us) (e7 : (ds.length ≤ i ∨ es.length ≤ j))
inductive JS1 (s : Shared) (w : World) (G : Store) (h : Heap) (ma ua : Addr) (env : Env) (oL : Obj) (v v' : Value) (ds es : List Ed) (m : Nat) (s' : Shared) : Prop
  | mk (h' : Heap) (t' : Nat) (i : Nat) (j : Nat) (ti : Tok) (tj : Tok) (ms : List Ed) (us : List Ed) (mv : List Value) (uv : List Value) (mn : Nat) (un : Nat) (ev : Option Value) (av : Option Value) (sl : Array (Option Value)) (e1 : s' = mkS s h' t') (e2 : m = (ds.length - i) + (es.length - j)) (e3 : St w (callEnv fd71 h.objs.size 71) G (offH h ([] ++ [(env.locals, oL)])) ([(ma, lstO mv mn), (ua, lstO uv un)] ++ [(env.locals, { oL with slots := sl })]) (LS (some v) (some v') (some (.int (i : Nat) ti)) (some (.int (j : Nat) tj)) (some (.ref ma)) (some (.ref ua)) ev av) G h') (e4 : RepAll G mv (ms.map dEd)) (e5 : RepAll G uv (us.map dEd)) (e6 : SI ds es i j ms us)
set_option maxHeartbeats 4000000 in
theorem sorted_spec {v v' : Value} {ds es : List Ed} {Q : Value → Shared → Prop} (S : St w env G₀ h₀ own l G h) (rd : Rep G v (dEds ds)) (re : Rep G v' (dEds es)) (hsd : SortedE ds) (hse : SortedE es) (hw : ∀ e ∈ ds, PyData.strOk e.w = true) (hw' : ∀ e ∈ es, PyData.strOk e.w = true)
    (hzd : ds.length ≤ 60) (hze : es.length ≤ 60) (hh : A.handled = none) (hfr : A.frames = some [env]) (hfe : env.frame = some env.locals) (hroom : A.depth + 2 < recursionLimit) (hu : A.units + 400 < cLine)
    (k : ∀ h' G' t' x, St w env G₀ h₀ own l G' h' → G.Sub G' → Rep G' x (.tuple [dEds (ds.filter fun e => decide (e ∉ es)), dEds (es.filter fun e => decide (e ∉ ds))]) → Q x (mkS s h' t')) :
    wpAny (model pw w) A (call (.ref 71) [v, v']) Q E (mkS s h t) := by
  refine callOffL (new := []) (names := n71) (l₁ := LS (some v) (some v') none none none none none none) S K71 C71 rfl (by rfl) (.cons .head (.cons (.tail .head) .nil)) (by decide +kernel) (by lia) fun oL h₁ t₁ eL doL S₁ => ?_
  have hoc : ∀ vs, oL.data ≠ .fields vs := fun vs q => by obtain ⟨es, ep, d⟩ := doL; rw [d] at q; cases q
  have hfr' : (A.deeper (callEnv fd71 h.objs.size 71)).frames = some [callEnv fd71 h.objs.size 71, env] := by
    show Option.map _ A.frames = _; rw [hfr]; rfl
  refine seqS (wpAny_Expr (Calls.Constant_str ?_))
  refine seqS (wpAny_Assign_two (conI fun tk1 tu1 => wpAny_assign_Name (stS S₁ (by walk_at "set") fun h₂ u₂ S₂ => wpAny_assign_Name (stS S₂ (by walk_at "set") fun h₃ u₃ S₃ => ?_))))
  refine seqS (setS (List_ (args_nil (listOwn S₃ fun h₄ ma S₄ => stS S₄ (by walk_at "set") fun h₅ t₅ S₅ => ?_))))
  refine seqS (setS (List_ (args_nil (listOwn S₅ fun h₆ ua S₆ => stS S₆ (by walk_at "set") fun h₇ t₇ S₇ => ?_))))
  have S₈ := S₇.idx0 (own' := [(ma, lstO [] 0), (ua, lstO [] 0)] ++ [(env.locals, { oL with slots := oL.slots })]) [1, 0, 2] (by decide) rfl
  refine seqS (while_ (while_inv (JS1 s w G h ma ua env oL v v' ds es) ?_ _ _
    ⟨_, _, 0, 0, tk1, tk1, [], [], [], [], 0, 0, none, none, oL.slots, rfl, rfl, S₈, .nil, .nil, SI.start ds es⟩))
  intro m s' hJ
  refine hideI fun Q' R' hQ hR => ?_
  obtain ⟨h', t', i, j, ti, tj, ms, us, mv, uv, mn, un, ev, av, sl, rfl, hm, S₉, rm, ru, I⟩ := hJ
  have hi := I.hi
  have hj := I.hj
  refine isTrue_plain (wpAny_Constant_bool (wpAny_truthy_bool ?_))
  refine ifso rfl ?_
  refine seqS (tryS (envc := env) (Lc := env.locals) (oc := oL) (cls := "IndexError") (s := s) (G₀ := G) (h₀ := offH h ([] ++ [(env.locals, oL)])) (P := PS v v' ma ua ds es G) hfr' rfl hfe (by rw [S.kind]; decide) hoc nz_IndexError bb_IndexError (by rw [isSubtype_type]; kernel_rfl) (by rw [isSubtype_type]; kernel_rfl) (by rw [isSubtype_type]; kernel_rfl) ?_ ?_)
  · have hnd := hsd.nodup
    have hne := hse.nodup
    have hmz : ms.length ≤ 60 := by rw [I.m]; exact Nat.le_trans (List.length_filter_le _ _) (by rw [List.length_take]; lia)
    have huz : us.length ≤ 60 := by rw [I.u]; exact Nat.le_trans (List.length_filter_le _ _) (by rw [List.length_take]; lia)
    have rml := rm.length
    have rul := ru.length
    rw [List.length_map] at rml rul
    refine seqS (setS (Subscript_ (ldS S₉ (by walk_at "mem") (ldS S₉ (by walk_at "mem") (itemOr S₉ rd (by rw [List.length_map]; lia) (by lia) (.inl (by exact hh)) (fun x d hd rx => stS S₉ (by walk_at "set") fun h₁₀ t₁₀ S₁₀ => ?_) fun hout h' t' ex ctx oe S' hx => .raw (mid := [(ma, lstO mv mn), (ua, lstO uv un)]) S' hx ⟨i, j, ti, tj, ms, us, mv, uv, mn, un, ev, av, [], rfl, rfl, rfl, rm, ru, I, .inl (by simpa using hout)⟩)))))
    have hil : i < ds.length := by have := (List.getElem?_eq_some_iff.mp hd).1; simpa using this
    have e1 : ds[i]? = some ds[i] := List.getElem?_eq_getElem hil
    rw [List.getElem?_map, e1] at hd
    obtain rfl := (Option.some.inj hd).symm
    refine seqS (setS (Subscript_ (ldS S₁₀ (by walk_at "mem") (ldS S₁₀ (by walk_at "mem") (itemOr S₁₀ re (by rw [List.length_map]; lia) (by lia) (.inl (by exact hh)) (fun y d hd ry => stS S₁₀ (by walk_at "set") fun h₁₁ t₁₁ S₁₁ => ?_) fun hout h' t' ex ctx oe S' hx => .raw (mid := [(ma, lstO mv mn), (ua, lstO uv un)]) S' hx ⟨i, j, ti, tj, ms, us, mv, uv, mn, un, some x, av, [], rfl, rfl, rfl, rm, ru, I, .inr (by simpa using hout)⟩)))))
    have hjl : j < es.length := by have := (List.getElem?_eq_some_iff.mp hd).1; simpa using this
    have e2 : es[j]? = some es[j] := List.getElem?_eq_getElem hjl
    rw [List.getElem?_map, e2] at hd
    obtain rfl := (Option.some.inj hd).symm
    have nx : ds[i + 1]? ≠ some ds[i] := fun q => by
      obtain ⟨h1, h2⟩ := List.getElem?_eq_some_iff.mp q
      have := (List.getElem_inj hnd).mp h2; lia
    have ny : es[j + 1]? ≠ some es[j] := fun q => by
      obtain ⟨h1, h2⟩ := List.getElem?_eq_some_iff.mp q
      have := (List.getElem_inj hne).mp h2; lia
    have wx := hw _ (List.getElem_mem hil)
    have wy := hw' _ (List.getElem_mem hjl)
    refine seqS (wpAny_If (wpAny_isTrue_Compare1 (ldS S₁₁ (by walk_at "mem") (ldS S₁₁ (by walk_at "mem") (ltEdS S₁₁ rx ry (by show A.units + 3 + 100 < _; lia) (wpAny_truthy_bool ?_))))))
    cases hlt : ltEd ds[i] es[j] with
    | true =>
      refine ifso rfl ?_
      have hOw : ∀ v, OwnTo ([(ma, lstO mv mn), (ua, lstO uv un)] ++ [(env.locals, { oL with slots := sl })]) ma (lstO mv mn) (lstO (mv ++ [v]) (mn + 1)) ([(ma, lstO (mv ++ [v]) (mn + 1)), (ua, lstO uv un)] ++ [(env.locals, { oL with slots := sl })]) := fun v => .head
      have I' := I.less hsd hse e1 e2 hlt
      have rm' : RepAll G (mv ++ [x]) ((ms ++ [ds[i]]).map dEd) := by rw [List.map_append]; exact rm.app (.cons rx .nil)
      refine seqS (appendRaw S₁₁ (by walk_at "mem") hOw (by rw [sizeLine_eq]; lia) (ldS S₁₁ (by walk_at "mem") ⟨_, _, _, rfl, S₁₁, fun h₁₂ t₁₂ S₁₂ => ?_⟩))
      refine seqS (wpAny_AugAssign_Name (ldn_ (s := mkS s h₁₂ _) S₁₂ (by walk_at "mem") (conI fun tk7 tu7 => iaddI (c := ((i + 1 : Nat) : Int)) (by lia) fun tk8 tu8 => stS S₁₂ (by walk_at "set") fun h₁₃ u₁₃ S₁₃ => ?_)))
      refine seqS (innerS (envc := env) (e := ds[i]) (by walk_at "mem") (by walk_at "mem") (by walk_at "mem") (by decide +kernel) (by decide +kernel) (by decide +kernel) S₁₃ rd rx hw wx hzd (by lia) nx (.inl (by exact hh)) (by show A.units + 3 + 100 < _; lia) hfr' rfl hfe (by rw [S.kind]; decide) hoc (fun hin t' => ?_) fun hout => ?_)
      · subst hQ
        refine wpAny_execs_nil (wpAny_execs_nil (wpAny_execs_nil ⟨_, ?_, h₁₃, t', i + 1, j, _, _, _, _, mv ++ [x], uv, mn + 1, un, _, _, sl, rfl, rfl, S₁₃, rm', ru, I'⟩))
        rw [hm]; lia
      · exact ⟨i + 1, j, _, _, _, _, mv ++ [x], uv, mn + 1, un, _, _, [], rfl, rfl, rfl, rm', ru, I', .inl hout⟩
    | false =>
      refine ifno rfl ?_
      refine seqS (wpAny_If (wpAny_isTrue_Compare1 (ldS S₁₁ (by walk_at "mem") (ldS S₁₁ (by walk_at "mem") (gtEdS S₁₁ rx ry (by show A.units + 3 + 100 < _; lia) (wpAny_truthy_bool ?_))))))
      cases hgt : ltEd es[j] ds[i] with
      | true =>
        refine ifso rfl ?_
        have hOw : ∀ v, OwnTo ([(ma, lstO mv mn), (ua, lstO uv un)] ++ [(env.locals, { oL with slots := sl })]) ua (lstO uv un) (lstO (uv ++ [v]) (un + 1)) ([(ma, lstO mv mn), (ua, lstO (uv ++ [v]) (un + 1))] ++ [(env.locals, { oL with slots := sl })]) := fun v => .tail .head
        have I' := (I.swap.less hse hsd e2 e1 hgt).swap
        have ru' : RepAll G (uv ++ [y]) ((us ++ [es[j]]).map dEd) := by rw [List.map_append]; exact ru.app (.cons ry .nil)
        refine seqS (appendRaw S₁₁ (by walk_at "mem") hOw (by rw [sizeLine_eq]; lia) (ldS S₁₁ (by walk_at "mem") ⟨_, _, _, rfl, S₁₁, fun h₁₂ t₁₂ S₁₂ => ?_⟩))
        refine seqS (wpAny_AugAssign_Name (ldn_ (s := mkS s h₁₂ _) S₁₂ (by walk_at "mem") (conI fun tk7 tu7 => iaddI (c := ((j + 1 : Nat) : Int)) (by lia) fun tk8 tu8 => stS S₁₂ (by walk_at "set") fun h₁₃ u₁₃ S₁₃ => ?_)))
        refine seqS (innerS (envc := env) (e := es[j]) (by walk_at "mem") (by walk_at "mem") (by walk_at "mem") (by decide +kernel) (by decide +kernel) (by decide +kernel) S₁₃ re ry hw' wy hze (by lia) ny (.inl (by exact hh)) (by show A.units + 3 + 100 < _; lia) hfr' rfl hfe (by rw [S.kind]; decide) hoc (fun hin t' => ?_) fun hout => ?_)
        · subst hQ
          refine wpAny_execs_nil (wpAny_execs_nil (wpAny_execs_nil (wpAny_execs_nil ⟨_, ?_, h₁₃, t', i, j + 1, _, _, _, _, mv, uv ++ [y], mn, un + 1, _, _, sl, rfl, rfl, S₁₃, rm, ru', I'⟩)))
          rw [hm]; lia
        · exact ⟨i, j + 1, _, _, _, _, mv, uv ++ [y], mn, un + 1, _, _, [], rfl, rfl, rfl, rm, ru', I', .inr hout⟩
      | false =>
        refine ifno rfl ?_
        have heq := ltEd_tri hlt hgt
        have I' := I.same hsd hse e1 (heq ▸ e2)
        refine seqS (wpAny_AugAssign_Name (ldn_ (s := mkS s h₁₁ _) S₁₁ (by walk_at "mem") (conI fun tk7 tu7 => iaddI (c := ((i + 1 : Nat) : Int)) (by lia) fun tk8 tu8 => stS S₁₁ (by walk_at "set") fun h₁₂ u₁₂ S₁₂ => ?_)))
        refine seqS (wpAny_Try_finally ?_)
        refine seqS (innerX (envc := env) (e := ds[i]) (by walk_at "mem") (by walk_at "mem") (by walk_at "mem") (by decide +kernel) (by decide +kernel) (by decide +kernel) S₁₂ rd rx hw wx (by lia) nx (by exact hh) (by show A.units + 3 + 100 < _; lia) hfr' rfl hfe (by rw [S.kind]; decide) hoc (fun hin t' => ?_) fun hout h' t' ex oe T oT sl' S' hx hT => ?_)
        · refine wpAny_execs_nil (wpAny_execs_nil ?_)
          refine seqS (wpAny_AugAssign_Name (ldn_ (s := mkS s h₁₂ _) S₁₂ (by walk_at "mem") (conI fun tk9 tu9 => iaddI (c := ((j + 1 : Nat) : Int)) (by lia) fun tk10 tu10 => stS S₁₂ (by walk_at "set") fun h₁₃ u₁₃ S₁₃ => ?_)))
          refine seqS (wpAny_mono (innerS (envc := env) (e := es[j]) (P := PS v v' ma ua ds es G) (by walk_at "mem") (by walk_at "mem") (by walk_at "mem") (by decide +kernel) (by decide +kernel) (by decide +kernel) S₁₃ re ry hw' wy hze (by lia) ny (.inl (by exact hh)) (by show A.units + 3 + 100 < _; lia) hfr' rfl hfe (by rw [S.kind]; decide) hoc (fun hin t' => ?_) fun hout => ?_) (fun _ _ q => q) fun v s' X => X.back hfr' rfl hfe (by rw [S.kind]; decide) hoc)
          · subst hQ
            refine wpAny_execs_nil (wpAny_execs_nil (wpAny_execs_nil (wpAny_execs_nil (wpAny_execs_nil ⟨_, ?_, h₁₃, t', i + 1, j + 1, _, _, _, _, mv, uv, mn, un, _, _, sl, rfl, rfl, S₁₃, rm, ru, I'⟩))))
            rw [hm]; lia
          · exact ⟨i + 1, j + 1, _, _, _, _, mv, uv, mn, un, _, _, [], rfl, rfl, rfl, rm, ru, I', .inr hout⟩
        · refine noteAgain S' (.tail _ (.head _)) (.head _) hx hT rfl ⟨ref_ne_byPass _, ?_⟩
          refine noteAgain S' (.tail _ (.head _)) (.head _) hx hT rfl ?_
          refine flightS (f := none) (own' := fun o' => (T, o') :: (ex, oe) :: ([(ma, lstO mv mn), (ua, lstO uv un)] ++ [(env.locals, { oL with slots := sl' })])) S' (.tail _ (.head _)) (fun _ => .head) hx hT fun h₁₃ oT₁₃ S₁₃ hT₁₃ => ?_
          refine seqS (wpAny_AugAssign_Name (ldn_ (s := mkS s h₁₃ _) S₁₃ (by walk_at "mem") (conI fun tk9 tu9 => iaddI (c := ((j + 1 : Nat) : Int)) (by lia) fun tk10 tu10 => stS S₁₃ (by walk_at "set") fun h₁₄ u₁₄ S₁₄ => ?_)))
          refine seqS (wpAny_mono (innerS (envc := env) (mid := (T, oT₁₃) :: (ex, oe) :: [(ma, lstO mv mn), (ua, lstO uv un)]) (e := es[j]) (P := PS v v' ma ua ds es G) (by walk_at "mem") (by walk_at "mem") (by walk_at "mem") (by decide +kernel) (by decide +kernel) (by decide +kernel) S₁₄ re ry hw' wy hze (by lia) ny (.inr ⟨ex, oe, _, _, rfl, .tail _ (.head _), hx⟩) (by show A.units + 3 + 100 < _; lia) hfr' rfl hfe (by rw [S.kind]; decide) hoc (fun hin t' => ?_) fun hout2 => ?_) (fun _ _ q => q) fun v s' X => X.back hfr' rfl hfe (by rw [S.kind]; decide) hoc)
          · refine wpAny_execs_nil ?_
            unfold PySem.passOn
            obtain ⟨y0, hc0, hd0⟩ := id hx
            refine wpAny_bind (wpAny_field (s := mkS s h₁₄ t') (x := .ref T) (S₁₄.ow (ex, oe) (.tail _ (.head _))).1 hd0 rfl ?_)
            rw [if_neg (by simp)]
            refine wpAny_bind (flightS (f := some (callEnv fd71 h.objs.size 71).locals) (own' := fun o' => (T, o') :: (ex, oe) :: ([(ma, lstO mv mn), (ua, lstO uv un)] ++ [(env.locals, { oL with slots := sl' })])) S₁₄ (.tail _ (.head _)) (fun _ => .head) hx hT₁₃ fun h₁₅ oT₁₅ S₁₅ hT₁₅ => wpAny_throw ?_)
            exact .noted (mid := [(ma, lstO mv mn), (ua, lstO uv un)]) S₁₅ hx hT₁₅ ⟨i + 1, j + 1, _, _, _, _, mv, uv, mn, un, _, _, [], rfl, rfl, rfl, rm, ru, I', .inl hout⟩
          · exact ⟨i + 1, j + 1, _, _, _, _, mv, uv, mn, un, _, _, [(T, oT₁₃), (ex, oe)], rfl, rfl, rfl, rm, ru, I', .inr hout2⟩
  · rintro e oe ctx T oT mid sl' l' G'' h'' t'' S' hx' ⟨i, j, ti, tj, ms, us, mv, uv, mn, un, ev, av, extra, rfl, rfl, rfl, rm, ru, I, hend⟩
    have hmz : ms.length ≤ 60 := by rw [I.m]; exact Nat.le_trans (List.length_filter_le _ _) (by rw [List.length_take]; lia)
    have huz : us.length ≤ 60 := by rw [I.u]; exact Nat.le_trans (List.length_filter_le _ _) (by rw [List.length_take]; lia)
    have rml := rm.length
    have rul := ru.length
    rw [List.length_map] at rml rul
    rw [List.append_assoc] at S'
    have S₁₀ := S'.dropAll (part := (T, oT) :: (e, oe) :: extra) (own := [(ma, lstO mv mn), (ua, lstO uv un)] ++ [(env.locals, { oL with slots := sl' })]) fun _ _ _ x => x
    refine seqS (wpAny_Expr (MethodCall_ (ldS S₁₀ (by walk_at "mem") (getMethod_list_of (s := mkS s h'' _) PySem.F.slot_list_extend (by kernel_rfl) ⟨_, (S₁₀.ow (ma, lstO mv mn) (.head _)).1, rfl, mn, rfl⟩ ⟨_, (S₁₀.ow (ma, lstO mv mn) (.head _)).1, rfl⟩ (callWith_method1 (args_cons (Subscript_ (ldS S₁₀ (by walk_at "mem") (wpAny_Slice (evalPart_some_step (ldS S₁₀ (by walk_at "mem") (evalPart_none_step (evalPart_none_step ?_)))))))))))))
    refine sliceS (es := (ds.drop i).map dEd) S₁₀ rd (.int _ _) .none .none (by simp) (by rw [List.length_map, sizeLine_eq]; lia) (fun vs rvs => ?_) fun h₁₁ G₁₁ y S₁₁ g₁₁ r₁₁ => args_nil ?_
    · rw [slicePick_from', List.map_drop]; simpa using rvs.drop i
    refine extendOwn S₁₁ (fun o' => .head) r₁₁ (by rw [List.length_map, List.length_drop]; lia) fun h₁₂ ws n₁₂ S₁₂ rws => ?_
    refine seqS (wpAny_Expr (MethodCall_ (ldS S₁₂ (by walk_at "mem") (getMethod_list_of (s := mkS s h₁₂ _) PySem.F.slot_list_extend (by kernel_rfl) ⟨_, (S₁₂.ow (ua, lstO uv un) (.tail _ (.head _))).1, rfl, un, rfl⟩ ⟨_, (S₁₂.ow (ua, lstO uv un) (.tail _ (.head _))).1, rfl⟩ (callWith_method1 (args_cons (Subscript_ (ldS S₁₂ (by walk_at "mem") (wpAny_Slice (evalPart_some_step (ldS S₁₂ (by walk_at "mem") (evalPart_none_step (evalPart_none_step ?_)))))))))))))
    refine sliceS (es := (es.drop j).map dEd) S₁₂ (re.mono g₁₁) (.int _ _) .none .none (by simp) (by rw [List.length_map, sizeLine_eq]; lia) (fun vs rvs => ?_) fun h₁₃ G₁₃ y' S₁₃ g₁₃ r₁₃ => args_nil ?_
    · rw [slicePick_from', List.map_drop]; simpa using rvs.drop j
    refine extendOwn S₁₃ (fun o' => .tail .head) r₁₃ (by rw [List.length_map, List.length_drop]; lia) fun h₁₄ ws' n₁₄ S₁₄ rws' => ?_
    refine seqS (wpAny_Break ?_)
    subst hQ
    have g13 := g₁₁.trans g₁₃
    obtain ⟨S₁₅, g₁₅⟩ := S₁₄.freeze (a := ma) .head
    obtain ⟨S₁₆, g₁₆⟩ := S₁₅.freeze (a := ua) .head
    obtain ⟨f1, f2⟩ := I.fin hend
    have rM : RepAll G₁₃ (mv ++ ws) ((ds.filter fun e => decide (e ∉ es)).map dEd) := by rw [← f1, List.map_append]; exact (rm.mono g13).app (rws.mono g₁₃)
    have rU : RepAll G₁₃ (uv ++ ws') ((es.filter fun e => decide (e ∉ ds)).map dEd) := by rw [← f2, List.map_append]; exact (ru.mono g13).app rws'
    refine seqS (wpAny_Return_some (Tuple_ (args_cons (ldS S₁₆ (by walk_at "mem") (args_cons (ldS S₁₆ (by walk_at "mem") (args_nil ?_)))))))
    refine tupS S₁₆ (ds := [dEds (ds.filter fun e => decide (e ∉ es)), dEds (es.filter fun e => decide (e ∉ ds))]) (.cons (.list (g₁₆ _ _ Store.put_self) rfl rfl (by simpa using rM.mono (g₁₅.trans g₁₆))) (.cons (.list Store.put_self rfl rfl (by simpa using rU.mono (g₁₅.trans g₁₆))) .nil)) fun h₁₇ G₁₇ x S₁₇ g₁₇ rx => ?_
    exact k _ _ _ x (St.leaveL (new := []) (new' := []) S eL S₁₇) (g13.trans (g₁₅.trans (g₁₆.trans g₁₇))) rx
end
theorem typeCall_zip_3 (a b c : Value) : checkTypeCall "zip" ⟨[a, b, c], []⟩ = pure () := by kernel_rfl
theorem newCall_zip_3 (a b c : Value) : checkBuiltinCall "zip.__new__" ⟨[.type "zip", a, b, c], []⟩ = pure () := by kernel_rfl
theorem init_args_4 (a b c d : Value) : argsOk "object.__init__" ⟨[a, b, c, d], []⟩ := by unfold argsOk; kernel_rfl
section
variable {w : World} {env : Env} {G₀ G : Store} {h₀ h : Heap} {own : List (Addr × Obj)} {l : Loc} {A : Around} {E : Value → Shared → Prop} {s : Shared} {t : Nat}
/-- zip of three lists, met as a source -/
theorem zip3Make {l1 l2 l3 : Addr} {xs ys zs : List Value} {Q : Value → Shared → Prop} (S : St w env G₀ h₀ own l G h) (a1 : h.IsList l1 xs.toArray) (a2 : h.IsList l2 ys.toArray) (a3 : h.IsList l3 zs.toArray)
    (k : ∀ h' z TI TO i1 i2 i3, St w env G₀ h₀ ([(z, zipO TI TO), (TI, tupO [.ref i1, .ref i2, .ref i3]), (TO, tupO [.none, .none, .none]), (i1, MineP.lit0 l1), (i2, MineP.lit0 l2), (i3, MineP.lit0 l3)] ++ own) l G h' → Q (.ref z) (mkS s h' t)) :
    wpAny (model pw w) A (call (.type "zip") [.ref l1, .ref l2, .ref l3]) (fun x s₁ => wpAny (model pw w) A (pyIter x) Q E s₁) E (mkS s h t) := by
  refine callType_new PySem.F.called_zip (by decide) (typeCall_zip_3 _ _ _) (newCall_zip_3 _ _ _) (fun obj => init_args_4 obj _ _ _) PySem.F.entry_zip_new (MineP.meets_zip_3 l1 l2 l3 xs.toArray ys.toArray zs.toArray) ⟨a1, a2, a3, ?_⟩
  have S1 := S.pushOwn (MineP.lit0 l1) rfl
  have S2 := S1.pushOwn (MineP.lit0 l2) rfl
  have S3 := S2.pushOwn (MineP.lit0 l3) rfl
  have S4 := S3.pushOwn (tupO [.ref h.objs.size, .ref (MineP.z3H1 h l1).objs.size, .ref (MineP.z3H2 h l1 l2).objs.size]) rfl
  have S5 := S4.pushOwn (tupO [.none, .none, .none]) rfl
  have S6 := S5.pushOwn (zipO (MineP.z3H3 h l1 l2 l3).objs.size (MineP.z3H4 h l1 l2 l3).objs.size) rfl
  have S7 := S6.idx (part := [_, _, _, _, _, _]) (own' := [((MineP.z3H5 h l1 l2 l3).objs.size, zipO (MineP.z3H3 h l1 l2 l3).objs.size (MineP.z3H4 h l1 l2 l3).objs.size), ((MineP.z3H3 h l1 l2 l3).objs.size, tupO [.ref h.objs.size, .ref (MineP.z3H1 h l1).objs.size, .ref (MineP.z3H2 h l1 l2).objs.size]), ((MineP.z3H4 h l1 l2 l3).objs.size, tupO [.none, .none, .none]), (h.objs.size, MineP.lit0 l1), ((MineP.z3H1 h l1).objs.size, MineP.lit0 l2), ((MineP.z3H2 h l1 l2).objs.size, MineP.lit0 l3)] ++ own) [0, 2, 1, 5, 4, 3] (by decide) rfl
  refine ⟨⟨_, Heap.get?_push_size _ rfl, rfl⟩, ?_⟩
  refine wpAny_pyIter_zip (TI := (MineP.z3H3 h l1 l2 l3).objs.size) (TO := (MineP.z3H4 h l1 l2 l3).objs.size) (f0 := .none) (Heap.get?_push_size _ rfl) ?_
  exact k _ _ _ _ _ _ _ S7
end
noncomputable abbrev zipX (f0 : Value) (TI TO : Addr) : Obj := { cls := .type "zip", dict := none, data := .fields #[f0, .bool false, .bool false, .ref TI, .ref TO], slots := #[] }
section
variable {w : World} {env : Env} {G₀ G : Store} {h₀ h : Heap} {own : List (Addr × Obj)} {l : Loc} {A : Around} {E : Value → Shared → Prop} {s : Shared} {t : Nat}
theorem setTup3 {TO : Addr} {a b c x : Value} {j : Nat} {o' : Obj} {ow : Obj → List (Addr × Obj)} {Q : Unit → Shared → Prop} (S : St w env G₀ h₀ own l G h) (ho : ∀ o', OwnTo own TO (tupO [a, b, c]) o' (ow o')) (he : Obj.mapSeq (·.setIfInBounds j x) (tupO [a, b, c]) = o') (hf : o'.isFreed = false)
    (k : ∀ h', St w env G₀ h₀ (ow o') l G h' → Q () (mkS s h' t)) : wpAny (model pw w) A (updateSeq TO (·.setIfInBounds j x)) Q E (mkS s h t) := by
  have e := (S.ow _ (ho (tupO [])).mem).1
  refine wpAny_updateSeq e rfl (k _ (S.upd (ho _) (Heap.SameBut.update ..) (by rw [← he]; exact Heap.get?_update_self _ e (by rw [he]; exact hf))))
set_option maxHeartbeats 1000000 in
theorem zip3Next {elts : List PySem.Expr} {x1 : Nat} {pos : Pos} {z TI TO i1 i2 i3 l1 l2 l3 : Addr} {oi1 oi2 oi3 : Obj} {vs ws us : List Value} {k : Nat} {a b c x y u : Value} {Q : Value → Shared → Prop}
    (S : St w env G₀ h₀ ([(z, zipO TI TO), (TI, tupO [.ref i1, .ref i2, .ref i3]), (TO, tupO [a, b, c]), (i1, oi1), (i2, oi2), (i3, oi3)] ++ own) l G h) (p1 : LIter l1 k oi1) (p2 : LIter l2 k oi2) (p3 : LIter l3 k oi3)
    (hl1 : ∀ {h'}, G.In h' → h'.IsList l1 vs.toArray) (hl2 : ∀ {h'}, G.In h' → h'.IsList l2 ws.toArray) (hl3 : ∀ {h'}, G.In h' → h'.IsList l3 us.toArray) (hx : vs[k]? = some x) (hy : ws[k]? = some y) (hu : us[k]? = some u)
    (q : ∀ h' G' T oj1 oj2 oj3, St w env G₀ h₀ ([(z, zipO TI TO), (TI, tupO [.ref i1, .ref i2, .ref i3]), (TO, tupO [x, y, u]), (i1, oj1), (i2, oj2), (i3, oj3)] ++ own) l G' h' → LIter l1 (k + 1) oj1 → LIter l2 (k + 1) oj2 → LIter l3 (k + 1) oj3 → G.Sub G' → G' T = some (tupO [x, y, u]) → Q (.ref T) (mkS s h' t)) :
    wpAny (model pw w) A (pyNext (.ref z)) (fun r s₁ => match r with | none => False | some v => wpAny (model pw w) A (letOwnedTupleGo (.Tuple elts x1 pos) (.ref z) v) (fun _ => Q v) E0 s₁) E0 (mkS s h t) := by
  have hz := (S.ow (z, zipO TI TO) (.head _)).1
  have hTI := (S.ow (TI, tupO [.ref i1, .ref i2, .ref i3]) (.tail _ (.head _))).1
  have hT : (mkS s h t).TypeIs (.ref z) "zip" := ⟨_, hz, rfl⟩
  unfold pyNext
  refine wpAny_bind (wpAny_attempt (wpAny_callSpecial?_slot (name := Str.ofString "__next__") hT PySem.F.slot_zip_next (wpAny_call_entry PySem.F.slot_zip_next hT PySem.F.entry_zip_next ?_ (PySem.F.args_zip_next_1 _))))
  show wpAny _ _ (field (.ref z) 2 >>= _) _ _ _
  refine wpAny_bind (wpAny_field hz rfl (x := .bool false) rfl ?_)
  show wpAny _ _ (field (.ref z) 3 >>= _) _ _ _
  refine wpAny_bind (wpAny_field hz rfl (x := .ref TI) rfl ?_)
  refine wpAny_bind (wpAny_seqItems (items := #[.ref i1, .ref i2, .ref i3]) (n := 0) hTI rfl ?_)
  show wpAny _ _ (Builtin.SmallTypes.ownedTupleIsFree (.ref z) >>= _) _ _ _
  refine wpAny_bind ?_
  unfold Builtin.SmallTypes.ownedTupleIsFree
  refine wpAny_bind (wpAny_field hz rfl (x := .none) rfl (wpAny_pure ?_))
  simp only [if_true]
  refine wpAny_bind (wpAny_rule ?_)
  refine wpAny_bind (wpAny_field hz rfl (x := .ref TO) rfl ?_)
  refine wpAny_bind (wpAny_setField_rec hz (by simp) fun h₁ hz₁ hs₁ => ?_)
  have S₁ := S.upd (o' := zipX .ellipsis TI TO) .head hs₁ hz₁
  refine wpAny_bind ?_
  simp only [List.zipIdx_cons, List.zipIdx_nil, List.forIn_cons, List.forIn_nil]
  refine wpAny_bind (wpAny_bind (wpAny_onRaise ?_))
  show wpAny _ _ (Builtin.SmallTypes.nextOf (.ref i1) >>= _) _ _ _
  refine wpAny_bind (wpAny_nextOf_list_item (s := mkS s h₁ t) (l := l1) (i := k) (items := vs.toArray) ⟨oi1, (S₁.ow (i1, oi1) (.tail _ (.tail _ (.tail _ (.head _))))).1, p1.1, p1.2⟩ (hl1 S₁.gin) (by simpa using hx) fun g1 hi1 hg1 => wpAny_pure ?_)
  obtain ⟨oj1, ej1, cj1, dj1⟩ := hi1
  have T1 := S₁.upd (o' := oj1) (.tail (.tail (.tail .head))) hg1 ej1
  refine wpAny_bind (wpAny_seqItems (items := #[a, b, c]) (n := 0) (T1.ow (TO, tupO [a, b, c]) (.tail _ (.tail _ (.head _)))).1 rfl ?_)
  refine wpAny_bind (setTup3 (s := s) (t := t) T1 (fun o' => .tail (.tail .head)) (o' := tupO [x, b, c]) (by simp [Obj.mapSeq]) rfl fun k1 U1 => ?_)
  refine wpAny_bind (wpAny_letGo (wpAny_pure ?_))
  refine wpAny_bind (wpAny_bind (wpAny_onRaise ?_))
  show wpAny _ _ (Builtin.SmallTypes.nextOf (.ref i2) >>= _) _ _ _
  refine wpAny_bind (wpAny_nextOf_list_item (s := mkS s k1 t) (l := l2) (i := k) (items := ws.toArray) ⟨oi2, (U1.ow (i2, oi2) (.tail _ (.tail _ (.tail _ (.tail _ (.head _)))))).1, p2.1, p2.2⟩ (hl2 U1.gin) (by simpa using hy) fun g2 hi2 hg2 => wpAny_pure ?_)
  obtain ⟨oj2, ej2, cj2, dj2⟩ := hi2
  have T2 := U1.upd (o' := oj2) (.tail (.tail (.tail (.tail .head)))) hg2 ej2
  refine wpAny_bind (wpAny_seqItems (items := #[x, b, c]) (n := 0) (T2.ow (TO, tupO [x, b, c]) (.tail _ (.tail _ (.head _)))).1 rfl ?_)
  refine wpAny_bind (setTup3 (s := s) (t := t) T2 (fun o' => .tail (.tail .head)) (o' := tupO [x, y, c]) (by simp [Obj.mapSeq]) rfl fun k2 U2 => ?_)
  refine wpAny_bind (wpAny_letGo (wpAny_pure ?_))
  refine wpAny_bind (wpAny_bind (wpAny_onRaise ?_))
  show wpAny _ _ (Builtin.SmallTypes.nextOf (.ref i3) >>= _) _ _ _
  refine wpAny_bind (wpAny_nextOf_list_item (s := mkS s k2 t) (l := l3) (i := k) (items := us.toArray) ⟨oi3, (U2.ow (i3, oi3) (.tail _ (.tail _ (.tail _ (.tail _ (.tail _ (.head _))))))).1, p3.1, p3.2⟩ (hl3 U2.gin) (by simpa using hu) fun g3 hi3 hg3 => wpAny_pure ?_)
  obtain ⟨oj3, ej3, cj3, dj3⟩ := hi3
  have T3 := U2.upd (o' := oj3) (.tail (.tail (.tail (.tail (.tail .head))))) hg3 ej3
  refine wpAny_bind (wpAny_seqItems (items := #[x, y, c]) (n := 0) (T3.ow (TO, tupO [x, y, c]) (.tail _ (.tail _ (.head _)))).1 rfl ?_)
  refine wpAny_bind (setTup3 (s := s) (t := t) T3 (fun o' => .tail (.tail .head)) (o' := tupO [x, y, u]) (by simp [Obj.mapSeq]) rfl fun k3 U3 => ?_)
  refine wpAny_bind (wpAny_letGo (wpAny_pure (wpAny_pure ?_)))
  refine wpAny_bind (wpAny_seqItems (items := #[x, y, u]) (n := 0) (U3.ow (TO, tupO [x, y, u]) (.tail _ (.tail _ (.head _)))).1 rfl ?_)
  obtain ⟨V, gV⟩ := U3.push (tupO [x, y, u]) rfl
  refine wpAny_bind (wpAny_newTuple ?_)
  show wpAny _ _ (Builtin.SmallTypes.ownedTupleHandOut (.ref z) (.ref k3.objs.size) >>= _) _ _ (mkS s (k3.push (tupO [x, y, u])) t)
  refine wpAny_bind ?_
  unfold Builtin.SmallTypes.ownedTupleHandOut
  refine wpAny_bind (wpAny_setField_rec (s := mkS s (k3.push (tupO [x, y, u])) t) (V.ow (z, zipX .ellipsis TI TO) (.head _)).1 (by simp) fun h₇ hz₇ hs₇ => ?_)
  have W := V.upd (o' := zipX (rawInt k3.objs.size) TI TO) .head hs₇ hz₇
  refine wpAny_setField_rec (s := mkS s h₇ t) (W.ow (z, zipX (rawInt k3.objs.size) TI TO) (.head _)).1 (by simp) fun h₈ hz₈ hs₈ => ?_
  have Y := W.upd (o' := zipX (rawInt k3.objs.size) TI TO) .head hs₈ hz₈
  refine wpAny_pure ⟨_, rfl, wpAny_pure ?_⟩
  refine wpAny_letOwnedTupleGo_zip (s := mkS s h₈ t) (TI := TI) (TO := TO) (T := k3.objs.size) hz₈ fun h₉ hz₉ hs₉ => ?_
  have Z := Y.upd (o' := zipO TI TO) .head hs₉ hz₉
  exact q _ _ k3.objs.size oj1 oj2 oj3 Z ⟨cj1, dj1⟩ ⟨cj2, dj2⟩ ⟨cj3, dj3⟩ gV Store.put_self
end
section
variable {w : World} {env : Env} {G₀ G : Store} {h₀ h : Heap} {own : List (Addr × Obj)} {l : Loc} {A : Around} {E : Value → Shared → Prop} {s : Shared} {t : Nat}
theorem zip3Stop {z TI TO i1 i2 i3 l1 : Addr} {oi1 oi2 oi3 : Obj} {vs : List Value} {a b c : Value} {Q : Option Value → Shared → Prop} (hh : A.handled = none)
    (S : St w env G₀ h₀ ([(z, zipO TI TO), (TI, tupO [.ref i1, .ref i2, .ref i3]), (TO, tupO [a, b, c]), (i1, oi1), (i2, oi2), (i3, oi3)] ++ own) l G h) (p1 : LIter l1 vs.length oi1)
    (hl1 : ∀ {h'}, G.In h' → h'.IsList l1 vs.toArray)
    (q : ∀ h', St w env G₀ h₀ own l G h' → Q none (mkS s h' t)) :
    wpAny (model pw w) A (pyNext (.ref z)) Q E (mkS s h t) := by
  have hz := (S.ow (z, zipO TI TO) (.head _)).1
  have hTI := (S.ow (TI, tupO [.ref i1, .ref i2, .ref i3]) (.tail _ (.head _))).1
  have hT : (mkS s h t).TypeIs (.ref z) "zip" := ⟨_, hz, rfl⟩
  unfold pyNext
  refine wpAny_bind (wpAny_attempt (wpAny_callSpecial?_slot (name := Str.ofString "__next__") hT PySem.F.slot_zip_next (wpAny_call_entry PySem.F.slot_zip_next hT PySem.F.entry_zip_next ?_ (PySem.F.args_zip_next_1 _))))
  show wpAny _ _ (field (.ref z) 2 >>= _) _ _ _
  refine wpAny_bind (wpAny_field hz rfl (x := .bool false) rfl ?_)
  show wpAny _ _ (field (.ref z) 3 >>= _) _ _ _
  refine wpAny_bind (wpAny_field hz rfl (x := .ref TI) rfl ?_)
  refine wpAny_bind (wpAny_seqItems (items := #[.ref i1, .ref i2, .ref i3]) (n := 0) hTI rfl ?_)
  show wpAny _ _ (Builtin.SmallTypes.ownedTupleIsFree (.ref z) >>= _) _ _ _
  refine wpAny_bind ?_
  unfold Builtin.SmallTypes.ownedTupleIsFree
  refine wpAny_bind (wpAny_field hz rfl (x := .none) rfl (wpAny_pure ?_))
  simp only [if_true]
  refine wpAny_bind (wpAny_rule ?_)
  refine wpAny_bind (wpAny_field hz rfl (x := .ref TO) rfl ?_)
  refine wpAny_bind (wpAny_setField_rec hz (by simp) fun h₁ hz₁ hs₁ => ?_)
  have S₁ := S.upd (o' := zipX .ellipsis TI TO) .head hs₁ hz₁
  refine wpAny_bind ?_
  simp only [List.zipIdx_cons, List.zipIdx_nil, List.forIn_cons, List.forIn_nil]
  refine wpAny_bind (wpAny_bind (wpAny_onRaise ?_))
  show wpAny _ _ (Builtin.SmallTypes.nextOf (.ref i1) >>= _) _ _ _
  have hi1 := S₁.ow (i1, oi1) (.tail _ (.tail _ (.tail _ (.head _))))
  have hne : z ≠ i1 := by
    have := S.ond
    simp only [List.cons_append, List.map_cons, List.nodup_cons, List.mem_cons, not_or] at this
    exact this.1.2.2.1
  refine wpAny_bind (wpAny_nextOf_list_end (s := mkS s h₁ t) (l := l1) (i := vs.length) (items := vs.toArray) (by exact hh) ⟨oi1, hi1.1, p1.1, p1.2⟩ (hl1 S₁.gin) (by simp) fun h₂ e hs₂ he => ?_)
  obtain ⟨oe, hoe, hce⟩ := he
  have hz₂ := hs₂ z _ hne hz₁
  have hez : e ≠ z := fun x => by
    subst x
    have : (zipX .ellipsis TI TO) = oe := Option.some.inj (hz₂.symm.trans hoe)
    subst this; simp at hce
  refine wpAny_setField_rec (s := mkS s h₂ t) hz₂ (by simp) fun h₃ _ hs₃ => ?_
  refine wpAny_bind (wpAny_isInstance (T := "StopIteration") (b := true) ⟨oe, hs₃.extBut _ _ hez hoe, hce⟩ isSubtype_stop ?_)
  refine wpAny_pure (q h₃ (S₁.dropAll (part := [_, _, _, _, _, _]) fun b o hb e' => ?_))
  simp only [List.map_cons, List.map_nil, List.mem_cons, List.not_mem_nil, or_false, not_or] at hb
  exact hs₃.extBut b o hb.1 (hs₂ b o hb.2.2.2.1 e')
end
noncomputable abbrev ZPart (z TI TO i1 i2 i3 l1 l2 l3 : Addr) (k : Nat) (p : List (Addr × Obj)) : Prop := ∃ a b c oi1 oi2 oi3, p = [(z, zipO TI TO), (TI, tupO [.ref i1, .ref i2, .ref i3]), (TO, tupO [a, b, c]), (i1, oi1), (i2, oi2), (i3, oi3)] ∧ LIter l1 k oi1 ∧ LIter l2 k oi2 ∧ LIter l3 k oi3
theorem Iter.zip3 {w : World} {elts : List PySem.Expr} {x1 : Nat} {pos : Pos} {z TI TO i1 i2 i3 l1 l2 l3 : Addr} {vs ws us : List Value} {ds es fs : List PyData} {n : Nat} {Gz : Store}
    (a1 : ∀ {G : Store} {h : Heap}, Gz.Sub G → G.In h → h.IsList l1 vs.toArray) (a2 : ∀ {G : Store} {h : Heap}, Gz.Sub G → G.In h → h.IsList l2 ws.toArray) (a3 : ∀ {G : Store} {h : Heap}, Gz.Sub G → G.In h → h.IsList l3 us.toArray)
    (r1 : RepAll Gz vs ds) (r2 : RepAll Gz ws es) (r3 : RepAll Gz us fs) (n1 : ds.length = n) (n2 : es.length = n) (n3 : fs.length = n) :
    Iter w (.Tuple elts x1 pos) (.ref z) n Gz (ZPart z TI TO i1 i2 i3 l1 l2 l3) (fun k G v => ∃ d e f, ds[k]? = some d ∧ es[k]? = some e ∧ fs[k]? = some f ∧ Rep G v (.tuple [d, e, f])) where
  next {env G₀ h₀ own l G h A s t k p Q} hk hh hz hp S q := by
    obtain ⟨a, b, c, oi1, oi2, oi3, rfl, p1, p2, p3⟩ := hp
    obtain ⟨d, hd⟩ : ∃ d, ds[k]? = some d := ⟨_, List.getElem?_eq_getElem (by lia)⟩
    obtain ⟨e, he⟩ : ∃ e, es[k]? = some e := ⟨_, List.getElem?_eq_getElem (by lia)⟩
    obtain ⟨f, hf⟩ : ∃ f, fs[k]? = some f := ⟨_, List.getElem?_eq_getElem (by lia)⟩
    obtain ⟨x, hx, rx⟩ := r1.get hd
    obtain ⟨y, hy, ry⟩ := r2.get he
    obtain ⟨u, hu, ru⟩ := r3.get hf
    refine zip3Next S p1 p2 p3 (a1 hz) (a2 hz) (a3 hz) hx hy hu fun h' G' T oj1 oj2 oj3 S' q1 q2 q3 g' eT => ?_
    have g := hz.trans g'
    exact q _ _ _ _ _ ⟨x, y, u, oj1, oj2, oj3, rfl, q1, q2, q3⟩ S' g' ⟨d, e, f, hd, he, hf, .tuple eT rfl rfl (.cons (rx.mono g) (.cons (ry.mono g) (.cons (ru.mono g) .nil)))⟩
  stop {env G₀ h₀ own l G h A s t p Q} hh hz hp S q := by
    obtain ⟨a, b, c, oi1, oi2, oi3, rfl, p1, p2, p3⟩ := hp
    have lv := r1.length
    exact zip3Stop hh S ((show vs.length = n by lia) ▸ p1) (a1 hz) fun h' S' => q h' _ S'
section
variable {w : World} {env : Env} {G₀ G : Store} {h₀ h : Heap} {own : List (Addr × Obj)} {l : Loc} {A : Around} {E : Value → Shared → Prop} {s : Shared} {t : Nat}
/-- zip of three lists of data, met as a source -/
theorem zip3S {v v' v'' : Value} {ds es fs : List PyData} {n : Nat} {elts : List PySem.Expr} {x1 : Nat} {pos : Pos} {Q : Value → Shared → Prop} (S : St w env G₀ h₀ own l G h) (r : Rep G v (.list ds)) (r' : Rep G v' (.list es)) (r'' : Rep G v'' (.list fs)) (hn1 : ds.length = n) (hn2 : es.length = n) (hn3 : fs.length = n)
    (k : ∀ h' p it Part, Iter w (.Tuple elts x1 pos) it n G Part (fun k G v => ∃ d e f, ds[k]? = some d ∧ es[k]? = some e ∧ fs[k]? = some f ∧ Rep G v (.tuple [d, e, f])) → Part 0 p → St w env G₀ h₀ (p ++ own) l G h' →
      (∀ {A' : Around} {s : Shared} {Q : Value → Shared → Prop} {h : Heap} {t : Nat} {env' : Env} {G₀' h₀' own' l' G'}, St w env' G₀' h₀' (p ++ own') l' G' h → Q it (mkS s h t) → wpAny (model pw w) A' (pyIter it) Q E0 (mkS s h t)) → Q it (mkS s h' t)) :
    wpAny (model pw w) A (call (.type "zip") [v, v', v'']) (fun x s₁ => wpAny (model pw w) A (pyIter x) Q E s₁) E (mkS s h t) := by
  cases r with
  | list e1 c1 d1 q1 =>
    rename_i l1 o1 vs1 n1
    cases r' with
    | list e2 c2 d2 q2 =>
      rename_i l2 o2 vs2 n2
      cases r'' with
      | list e3 c3 d3 q3 =>
        rename_i l3 o3 vs3 n3
        have isl : ∀ {G' : Store} {h' : Heap} {lx : Addr} {ox : Obj} {vx : Array Value} {nx : Nat}, G lx = some ox → ox.cls = .type "list" → ox.data = .seq vx nx → G.Sub G' → G'.In h' → h'.IsList lx vx.toList.toArray := fun e c d g i => ⟨_, i _ _ (g _ _ e), c, _, by rw [d, Array.toArray_toList]⟩
        refine zip3Make S (isl e1 c1 d1 (Store.Sub.refl _) S.gin) (isl e2 c2 d2 (Store.Sub.refl _) S.gin) (isl e3 c3 d3 (Store.Sub.refl _) S.gin) fun h' z TI TO i1 i2 i3 S' => ?_
        have I := Iter.zip3 (w := w) (elts := elts) (x1 := x1) (pos := pos) (z := z) (TI := TI) (TO := TO) (i1 := i1) (i2 := i2) (i3 := i3) (n := n) (fun g i => isl e1 c1 d1 g i) (fun g i => isl e2 c2 d2 g i) (fun g i => isl e3 c3 d3 g i) q1 q2 q3 hn1 hn2 hn3
        refine k h' [(z, zipO TI TO), (TI, tupO [.ref i1, .ref i2, .ref i3]), (TO, tupO [.none, .none, .none]), (i1, MineP.lit0 l1), (i2, MineP.lit0 l2), (i3, MineP.lit0 l3)] (.ref z) _ I ⟨_, _, _, _, _, _, rfl, ⟨rfl, rfl⟩, ⟨rfl, rfl⟩, ⟨rfl, rfl⟩⟩ S' ?_
        intro A' s Q h t env' G₀' h₀' own' l' G' S'' q
        exact wpAny_pyIter_zip (TI := TI) (TO := TO) (f0 := .none) (S''.ow (z, zipO TI TO) (.head _)).1 q
end
noncomputable abbrev nA : Str := Str.ofString "a"
noncomputable abbrev nB : Str := Str.ofString "b"
noncomputable abbrev nC : Str := Str.ofString "c"
section
variable {w : World} {env : Env} {G₀ G : Store} {h₀ h : Heap} {own : List (Addr × Obj)} {l : Loc} {A : Around} {E : Value → Shared → Prop} {s : Shared} {t : Nat}
noncomputable def zip3With (f : List Int → List Int → List Int → List Int) : List (List Int) → List (List Int) → List (List Int) → List (List Int)
  | a :: as, b :: bs, c :: cs => f a b c :: zip3With f as bs cs
  | _, _, _ => []
theorem zip3With_get (f : List Int → List Int → List Int → List Int) : ∀ (n : Nat) (as bs cs : List (List Int)), as.length = n → bs.length = n → cs.length = n →
    ((List.range n).map fun i => dInts (f (as.getD i []) (bs.getD i []) (cs.getD i []))) = (zip3With f as bs cs).map dInts
  | 0, [], _, _, _, _, _ => by simp [zip3With]
  | n + 1, a :: as, b :: bs, c :: cs, ha, hb, hc => by
    have := zip3With_get f n as bs cs (by simpa using ha) (by simpa using hb) (by simpa using hc)
    rw [List.range_succ_eq_map, List.map_cons, List.map_map, zip3With, List.map_cons, ← this]
    simp
/-- one turn of such a comprehension -/
theorem zipTurn {elt : PySem.Expr} {f : List Int → List Int → List Int → List Int} {scope : Scope} {as bs cs : List (List Int)} {n : Nat} {pa pb pc pt : Pos} (ha : as.length = n) (hb : bs.length = n) (hc : cs.length = n) (hh : A.handled = none)
    (helt : ∀ {env' : Env} {G₁ G₂ : Store} {h₁ h₂ : Heap} {own₁ : List (Addr × Obj)} {t₂ : Nat} {a b c : List Int} {va vb vc : Value}, St w env' G₁ h₁ own₁ [(nA, some va), (nB, some vb), (nC, some vc)] G₂ h₂ →
      Rep G₂ va (dInts a) → Rep G₂ vb (dInts b) → Rep G₂ vc (dInts c) → wpAny (model pw w) A (eval elt env') (fun v s' => s' = mkS s h₂ t₂ ∧ Rep G₂ v (dInts (f a b c))) E0 (mkS s h₂ t₂))
    (L : Addr) (G₁ : Store) (h₁ : Heap) (i : Nat) (hi : i < n) (own₁ : List (Addr × Obj)) (G₂ : Store) (h₂ : Heap) (t₂ : Nat) (vals : List (Option Value)) (v : Value) (hv : vals.length = [nA, nB, nC].length)
    (hitem : ∃ d e g, (as.map dInts)[i]? = some d ∧ (bs.map dInts)[i]? = some e ∧ (cs.map dInts)[i]? = some g ∧ Rep G₂ v (.tuple [d, e, g])) (_hG2 : G.Sub G₂) (S₂ : St w (compEnv env scope L) G₁ h₁ own₁ ([nA, nB, nC].zip vals) G₂ h₂) :
    wpAny (model pw w) A (assign (.Tuple [.Name nA pa, .Name nB pb, .Name nC pc] 0 pt) (compEnv env scope L) v) (fun _ s₂ => wpAny (model pw w) A (eval elt (compEnv env scope L)) (fun x s₃ => ∃ h₃ G₃ t₃ vals', s₃ = mkS s h₃ t₃ ∧ St w (compEnv env scope L) G₁ h₁ own₁ ([nA, nB, nC].zip vals') G₃ h₃ ∧ vals'.length = [nA, nB, nC].length ∧ G₂.Sub G₃ ∧ Rep G₃ x (dInts (f (as.getD i []) (bs.getD i []) (cs.getD i [])))) E0 s₂) E0 (mkS s h₂ t₂) := by
  obtain ⟨o1, o2, o3, rfl⟩ : ∃ a b c, vals = [a, b, c] := len3 hv
  obtain ⟨d, e, g, hd, he, hg, rv⟩ := hitem
  rw [List.getElem?_map, List.getElem?_eq_getElem (by lia), Option.map_some, Option.some.injEq] at hd he hg
  subst hd he hg
  refine unpackS S₂ rv (by exact hh) (by rfl) (by rfl) fun h₃ vs₃ S₃ r₃ => ?_
  obtain ⟨xa, xb, xc, rfl, ra, rb, rc⟩ := r₃.three
  refine inOrder_cons (wpAny_assign_Name (stS (l' := [(nA, some xa), (nB, o2), (nC, o3)]) S₃ .head fun h₄ t₄ S₄ => inOrder_cons (wpAny_assign_Name (stS (l' := [(nA, some xa), (nB, some xb), (nC, o3)]) S₄ (.tail .head) fun h₅ t₅ S₅ => inOrder_cons (wpAny_assign_Name (stS (l' := [(nA, some xa), (nB, some xb), (nC, some xc)]) S₅ (.tail (.tail .head)) fun h₆ t₆ S₆ => inOrder_nil ?_))))))
  refine wpAny_mono (helt S₆ ra rb rc) (fun v s' ⟨e, r⟩ => ?_) fun _ _ x => x
  subst e
  refine ⟨_, G₂, _, [some xa, some xb, some xc], rfl, S₆, rfl, Store.Sub.refl _, ?_⟩
  rw [List.getD_eq_getElem?_getD, List.getD_eq_getElem?_getD, List.getD_eq_getElem?_getD, List.getElem?_eq_getElem (by lia), List.getElem?_eq_getElem (by lia), List.getElem?_eq_getElem (by lia)]
  exact r
/-- one of the three comprehensions over three lists -/
theorem zipComp {elt : PySem.Expr} {f : List Int → List Int → List Int → List Int} {x y z : Str} {scope : Scope} {vx vy vz : Value} {as bs cs : List (List Int)} {n : Nat} {pa pb pc pt pz px py pq pp pos : Pos} {Q : Value → Shared → Prop}
    (S : St w env G₀ h₀ own l G h) (hx : Has l x vx) (hy : Has l y vy) (hz : Has l z vz) (rx : Rep G vx (.list (as.map dInts))) (ry : Rep G vy (.list (bs.map dInts))) (rz : Rep G vz (.list (cs.map dInts)))
    (ha : as.length = n) (hb : bs.length = n) (hc : cs.length = n) (hn : n ≤ 1000) (hh : A.handled = none)
    (hfree : ∀ x ∈ scope.names, x.2 ≠ .free) (hkind : scope.kind = .function) (hnames : ∀ x ∈ scope.names, x.2 = .local → scope.names.lookup x.1 = some .local)
    (hok : ((([nA, nB, nC]).all fun n => decide (scope.names.lookup n = some .local)) && decide ([nA, nB, nC] : List Str).Nodup && decide (scope.kind = .function)) = true) (hcell : ∀ x ∈ scope.names, x.2 ≠ .cell)
    (hzip : env.kindOf (Str.ofString "zip") = some .globalImplicit) (dx : (x == ("__debug__" : Str)) = false) (dy : (y == ("__debug__" : Str)) = false) (dz : (z == ("__debug__" : Str)) = false)
    (helt : ∀ {env' : Env} {G₁ G₂ : Store} {h₁ h₂ : Heap} {own₁ : List (Addr × Obj)} {t₂ : Nat} {a b c : List Int} {va vb vc : Value}, St w env' G₁ h₁ own₁ [(nA, some va), (nB, some vb), (nC, some vc)] G₂ h₂ →
      Rep G₂ va (dInts a) → Rep G₂ vb (dInts b) → Rep G₂ vc (dInts c) → wpAny (model pw w) A (eval elt env') (fun v s' => s' = mkS s h₂ t₂ ∧ Rep G₂ v (dInts (f a b c))) E0 (mkS s h₂ t₂))
    (k : ∀ h' G' v t', St w env G₀ h₀ own l G' h' → G.Sub G' → Rep G' v (.list ((zip3With f as bs cs).map dInts)) → Q v (mkS s h' t')) :
    wpAny (model pw w) A (eval (.ListComp elt [⟨.Tuple [.Name nA pa, .Name nB pb, .Name nC pc] 0 pt, .Call (.Name (Str.ofString "zip") pz) [.Name x px, .Name y py, .Name z pq] [] pp, [], 0⟩] scope pos) env) Q E (mkS s h t) := by
  refine wpAny_ListComp hfree hkind hnames (Call_ (biS S nz_zip bb_zip (PyProof.Rows.callWith_type1 (args_cons (ldS S hx (args_cons (ldS S hy (args_cons (ldS S hz (args_nil ?_) dz)) dy)) dx))) hzip))
  refine zip3S (elts := [.Name nA pa, .Name nB pb, .Name nC pc]) (x1 := 0) (pos := pt) (n := n) S rx ry rz (by simpa using ha) (by simpa using hb) (by simpa using hc) fun h₁ p it Part I hP S₁ hag => ?_
  refine compTail (names := [nA, nB, nC]) (dat := fun i => dInts (f (as.getD i []) (bs.getD i []) (cs.getD i []))) I hh (Store.Sub.refl _) hP S₁ hn hag hok hcell (zipTurn ha hb hc hh helt) fun h' G' v t' S' g' r' => ?_
  rw [zip3With_get f n as bs cs ha hb hc] at r'
  exact k _ _ _ _ S' g' r'
end
theorem Pl.range {was now : List Int} (h : Pl was now) (a : Int) : ∀ e ∈ ed1 a was now, a ≤ e.i ∧ e.i ≤ a + was.length := by
  cases h with
  | same p hn hl => simp [ed1]
  | new y => simp [ed1]
  | gone x => simp [ed1]; lia
  | swap x y h => simp [ed1, h]; lia
  | behind x y h => simp [ed1]; lia
  | ahead x y h => simp [ed1, h]; lia
theorem ed1_le (a : Int) (was now : List Int) : (ed1 a was now).length ≤ 1 := by
  unfold ed1; split
  · simp
  · split
    · simp
    · split <;> simp
theorem nRD : ¬ sRep = sDel := by decide +kernel
theorem nDR : ¬ sDel = sRep := by decide +kernel
/-- an edit of a place tells what came of it -/
theorem Pl.dec {b o : List Int} (h : Pl b o) (a : Int) : ∀ e ∈ ed1 a b o, o = b.take (e.i - a).toNat ++ e.c ++ b.drop (e.j - a).toNat := by
  have z1 : (a + 1 - a).toNat = 1 := by lia
  have z0 : (a - a).toNat = 0 := by lia
  cases h with
  | same p hn hl => simp [ed1]
  | new y => simp [ed1, z0]
  | gone x => simp [ed1, z0, z1]
  | swap x y h => simp [ed1, h, z0, z1]
  | behind x y h => simp [ed1, z1]
  | ahead x y h => simp [ed1, h, z0]
theorem Pl.inj {b o t : List Int} (h : Pl b o) (h' : Pl b t) (a : Int) : ∀ e ∈ ed1 a b o, e ∈ ed1 a b t → o = t := fun e h1 h2 => (h.dec a e h1).trans (h'.dec a e h2).symm
theorem PlsAt.lowE {k : Nat} {ws ns : List (List Int)} (P : PlsAt k ws ns) : ∀ (a : Int), ∀ e ∈ editsFrom a (ws.zip ns), a ≤ e.i := by
  induction P with
  | nil => exact fun a e h => absurd h List.not_mem_nil
  | cons p r ih =>
    intro a e h
    rw [List.zip_cons_cons, editsFrom, List.mem_append] at h
    rcases h with h | h
    · exact (p.pl.range a e h).1
    · have := ih _ e h; lia
theorem filter_place {b o t : List Int} (h : Pl b o) (h' : Pl b t) (a : Int) : (ed1 a b o).filter (fun e => decide (e ∉ ed1 a b t)) = ed1 a b (if o ≠ t then o else b) := by
  by_cases q : o = t
  · subst q
    rw [if_neg (by simp)]
    rw [show ed1 a b b = [] by simp [ed1]]
    exact List.filter_eq_nil_iff.mpr fun e he => by simp [he]
  · rw [if_pos q]
    exact List.filter_eq_self.mpr fun e he => by
      have := h.inj h' a e he
      simp only [decide_eq_true_eq]
      exact fun x => q (this x)
theorem PlsAt.alone : ∀ {k : Nat} {bs os ts : List (List Int)}, PlsAt k bs os → PlsAt k bs ts → ∀ (a : Int), (editsFrom a (bs.zip os)).filter (fun e => decide (e ∉ editsFrom a (bs.zip ts))) = editsFrom a (bs.zip (zip3With (fun x y z => if x ≠ y then x else z) os ts bs))
  := fun P P' => by
    refine PlsAt.two (M := fun _ bs os ts => ∀ (a : Int), (editsFrom a (bs.zip os)).filter (fun e => decide (e ∉ editsFrom a (bs.zip ts))) = editsFrom a (bs.zip (zip3With (fun x y z => if x ≠ y then x else z) os ts bs))) (fun _ _ => rfl) (fun {k b o t bs os ts} p p' r r' ih a => ?_) P P'
    simp only [List.zip_cons_cons, editsFrom, zip3With, List.filter_append]
    have ih := ih (a + b.length + 1)
    rw [← ih, ← filter_place p.pl p'.pl a]
    congr 1
    · refine List.filter_congr fun e he => ?_
      have := (p.pl.range a e he).2
      have n : e ∉ editsFrom (a + b.length + 1) (bs.zip ts) := fun h => by have := r'.lowE _ e h; lia
      simp [n]
    · refine List.filter_congr fun e he => ?_
      have := r.lowE _ e he
      have n : e ∉ ed1 a b t := fun h => by have := (p'.pl.range a e h).2; lia
      simp [n]
theorem alone_swap : ∀ (os ts bs : List (List Int)), zip3With (fun x y z => if x ≠ y then y else z) os ts bs = zip3With (fun x y z => if x ≠ y then x else z) ts os bs
  | o :: os, t :: ts, b :: bs => by
    simp only [zip3With]
    rw [alone_swap os ts bs]
    congr 1
    by_cases h : o = t
    · subst h; simp
    · rw [if_pos h, if_pos (Ne.symm h)]
  | [], [], _ => by simp [zip3With]
  | [], _ :: _, _ => by simp [zip3With]
  | _ :: _, [], _ => by simp [zip3With]
  | _ :: _, _ :: _, [] => by simp [zip3With]
theorem PlsAt.sorted {k : Nat} {ws ns : List (List Int)} (P : PlsAt k ws ns) : ∀ (a : Int), SortedE (editsFrom a (ws.zip ns)) := by
  induction P with
  | nil => exact fun a => .nil
  | @cons k was now ws ns p r ih =>
    intro a
    rw [List.zip_cons_cons, editsFrom]
    refine List.pairwise_append.mpr ⟨?_, ih _, fun e he e' he' => ?_⟩
    · have := ed1_le a was now
      cases h : ed1 a was now with
      | nil => exact .nil
      | cons e l =>
        rw [h] at this
        cases l with
        | nil => exact .cons (fun _ h => absurd h List.not_mem_nil) .nil
        | cons => exact absurd this (by simp)
    · have h1 := (p.pl.range a e he).2
      have h2 := r.lowE _ e' he'
      unfold ltEd
      rw [if_pos (by lia)]
      exact decide_eq_true (by lia)
noncomputable def midL (os ts bs : List (List Int)) : List (List Int) := zip3With (fun x y z => if x = y then x else z) os ts bs
theorem Pl.small {was now : List Int} (h : Pl was now) : now.length ≤ 2 := by
  cases h with
  | same p hn hl => exact hl
  | new y => simp
  | gone x => simp
  | swap x y h => simp
  | behind x y h => simp
  | ahead x y h => simp
theorem PlsAt.mid : ∀ {k : Nat} {bs os ts : List (List Int)}, PlsAt k bs os → PlsAt k bs ts → PlsAt k (midL os ts bs) os ∧ PlsAt k (midL os ts bs) ts ∧ PlsAt k bs (midL os ts bs)
  := fun P P' => by
    refine PlsAt.two (M := fun k bs os ts => PlsAt k (midL os ts bs) os ∧ PlsAt k (midL os ts bs) ts ∧ PlsAt k bs (midL os ts bs)) (fun k => ⟨.nil k, .nil k, .nil k⟩) (fun {k b o t bs os ts} p p' r r' ih => ?_) P P'
    obtain ⟨h1, h2, h3⟩ := ih
    simp only [midL, zip3With] at h1 h2 h3 ⊢
    by_cases q : o = t
    · subst q
      rw [if_pos rfl]
      have s : PlAt k o o := ⟨.same o p.pl.nodup.2 p.pl.small, p.n, p.n⟩
      exact ⟨.cons s h1, .cons s h2, .cons p h3⟩
    · rw [if_neg q]
      by_cases z : b.length ≤ 2
      · exact ⟨.cons p h1, .cons p' h2, .cons ⟨.same b p.pl.nodup.1 z, p.w, p.w⟩ h3⟩
      · exact absurd (by cases p.pl with
          | same p hn hl => exact hl
          | new y => simp
          | gone x => simp
          | swap x y h => simp
          | behind x y h => simp
          | ahead x y h => simp) z
theorem common_place {b o t : List Int} (h : Pl b o) (h' : Pl b t) (a : Int) : (ed1 a b o).filter (fun e => decide (e ∈ ed1 a b t)) = ed1 a b (if o = t then o else b) := by
  by_cases q : o = t
  · subst q
    rw [if_pos rfl]
    exact List.filter_eq_self.mpr fun e he => by simp [he]
  · rw [if_neg q, show ed1 a b b = [] by simp [ed1]]
    exact List.filter_eq_nil_iff.mpr fun e he => by
      simp only [decide_eq_true_eq]
      exact fun x => q (h.inj h' a e he x)
theorem PlsAt.common : ∀ {k : Nat} {bs os ts : List (List Int)}, PlsAt k bs os → PlsAt k bs ts → ∀ (a : Int), (editsFrom a (bs.zip os)).filter (fun e => decide (e ∈ editsFrom a (bs.zip ts))) = editsFrom a (bs.zip (midL os ts bs))
  := fun P P' => by
    refine PlsAt.two (M := fun _ bs os ts => ∀ (a : Int), (editsFrom a (bs.zip os)).filter (fun e => decide (e ∈ editsFrom a (bs.zip ts))) = editsFrom a (bs.zip (midL os ts bs))) (fun _ _ => rfl) (fun {k b o t bs os ts} p p' r r' ih a => ?_) P P'
    have ih := ih (a + b.length + 1)
    simp only [midL, List.zip_cons_cons, editsFrom, zip3With, List.filter_append] at ih ⊢
    rw [← ih, ← common_place p.pl p'.pl a]
    congr 1
    · refine List.filter_congr fun e he => ?_
      have := (p.pl.range a e he).2
      have n : e ∉ editsFrom (a + b.length + 1) (bs.zip ts) := fun h => by have := r'.lowE _ e h; lia
      simp [n]
    · refine List.filter_congr fun e he => ?_
      have := r.lowE _ e he
      have n : e ∉ ed1 a b t := fun h => by have := (p'.pl.range a e h).2; lia
      simp [n]
theorem PlsAt.apart : ∀ {k : Nat} {bs os ts : List (List Int)}, PlsAt k bs os → PlsAt k bs ts → ∀ (a : Int), ∀ e ∈ editsFrom a ((midL os ts bs).zip os), e ∉ editsFrom a ((midL os ts bs).zip ts)
  := fun P P' => by
    refine PlsAt.two (M := fun _ bs os ts => ∀ (a : Int), ∀ e ∈ editsFrom a ((midL os ts bs).zip os), e ∉ editsFrom a ((midL os ts bs).zip ts)) (fun _ _ _ h => absurd h List.not_mem_nil) (fun {k b o t bs os ts} p p' r r' ih a e h => ?_) P P'
    have M := r.mid r'
    simp only [midL, List.zip_cons_cons, editsFrom, zip3With] at ih M h ⊢
    by_cases q : o = t
    · subst q
      rw [if_pos rfl] at h ⊢
      rw [show ed1 a o o = [] by simp [ed1], List.nil_append] at h ⊢
      exact ih _ e h
    · rw [if_neg q] at h ⊢
      intro h2
      rcases List.mem_append.mp h with h | h
      · rcases List.mem_append.mp h2 with h2 | h2
        · exact q (p.pl.inj p'.pl a e h h2)
        · have := (p.pl.range a e h).2
          have := M.2.1.lowE _ e h2
          lia
      · rcases List.mem_append.mp h2 with h2 | h2
        · have := (p'.pl.range a e h2).2
          have := M.1.lowE _ e h
          lia
        · exact ih _ e h h2
noncomputable def layE (row : List Int) (e : Ed) : List Int := row.take e.i.toNat ++ e.c ++ row.drop e.j.toNat
theorem lay_place {was now : List Int} (h : Pl was now) (pre tail : List Int) : (ed1 pre.length was now).reverse.foldl layE (pre ++ (was ++ tail)) = pre ++ (now ++ tail) := by
  have n1 : ((pre.length : Int) + 1).toNat = pre.length + 1 := by lia
  have d1 : ∀ x : Int, List.drop (pre.length + 1) (pre ++ x :: tail) = tail := fun x => by
    rw [List.drop_append, List.drop_eq_nil_of_le (by lia), show pre.length + 1 - pre.length = 1 by lia]; rfl
  have t1 : ∀ x : Int, List.take (pre.length + 1) (pre ++ x :: tail) = pre ++ [x] := fun x => by
    rw [List.take_append, List.take_of_length_le (by lia), show pre.length + 1 - pre.length = 1 by lia]; rfl
  cases h with
  | same p hn hl => simp [ed1]
  | new y => simp [ed1, layE]
  | gone x => simp [ed1, layE, n1, d1]
  | swap x y h => simp [ed1, layE, h, n1, d1]
  | behind x y h => simp [ed1, layE, n1, d1, t1]
  | ahead x y h => simp [ed1, layE, h, n1, d1]
theorem PlsAt.lay : ∀ {k : Nat} {ws ns : List (List Int)}, PlsAt (k + 1) ws ns → ∀ {was now : List Int}, Pl was now → ∀ (pre : List Int),
    (ed1 pre.length was now ++ editsFrom (pre.length + was.length + 1) (ws.zip ns)).reverse.foldl layE (pre ++ (was ++ rowFrom (k + 1) ws)) = pre ++ (now ++ rowFrom (k + 1) ns)
  | k, _, _, .nil _, was, now, p, pre => by
    have := lay_place p pre []
    simpa [editsFrom, rowFrom] using this
  | k, _, _, .cons (was := was') (now := now') (ws := ws) (ns := ns) a r, was, now, p, pre => by
    have hk : ¬ k + 1 = 0 := by lia
    have ih := r.lay a.pl (pre ++ (was ++ [10 * ((k + 1 : Nat) : Int)]))
    rw [List.reverse_append, List.foldl_append]
    simp only [List.zip_cons_cons, editsFrom, rowFrom, if_neg hk] at ih ⊢
    have e1 : ((pre ++ (was ++ [10 * ((k + 1 : Nat) : Int)])).length : Int) = (pre.length : Int) + was.length + 1 := by
      simp only [List.length_append, List.length_cons, List.length_nil]; lia
    rw [e1] at ih
    have e2 : pre ++ (was ++ ([10 * ((k + 1 : Nat) : Int)] ++ was' ++ rowFrom (k + 1 + 1) ws)) = pre ++ (was ++ [10 * ((k + 1 : Nat) : Int)]) ++ (was' ++ rowFrom (k + 1 + 1) ws) := by simp
    rw [e2, ih]
    have := lay_place p pre ([10 * ((k + 1 : Nat) : Int)] ++ now' ++ rowFrom (k + 1 + 1) ns)
    rw [← this]
    simp
theorem PlsAt.laid {ws ns : List (List Int)} (P : PlsAt 0 ws ns) : (editsFrom 0 (ws.zip ns)).reverse.foldl layE (rowFrom 0 ws) = rowFrom 0 ns := by
  cases P with
  | nil => rfl
  | cons a r =>
    have := r.lay a.pl []
    simpa [rowFrom, editsFrom] using this
theorem made_pl (x : Int) (k : Nat) (p : List Int) (hp : p ∈ made6 x k) : PlAt k (wasOf x k) p := by
  have hw : wasOf x k = [] ∨ wasOf x k = [10 * (k : Int) + 1] := by unfold wasOf; split <;> simp
  unfold made6 at hp
  simp only [List.mem_cons, List.not_mem_nil, or_false] at hp
  rcases hw with e | e <;> rw [e] at hp ⊢ <;> rcases hp with rfl | rfl | rfl | rfl | rfl | rfl
  all_goals refine ⟨?_, ?_, ?_⟩
  all_goals first
    | (intro v hv; cases hv; done)
    | (intro v hv; simp only [List.nil_append, List.append_nil, List.cons_append, List.mem_cons, List.not_mem_nil, or_false] at hv; lia)
    | exact .same _ (by simp) (by simp)
    | exact .new _
    | exact .gone _
    | exact .swap _ _ (by lia)
    | exact .behind _ _ (by lia)
    | exact .ahead _ _ (by lia)
theorem getD_mem {α : Type} {l : List α} {i : Nat} {d : α} (h : i < l.length) : l.getD i d ∈ l := by
  rw [List.getD_eq_getElem?_getD, List.getElem?_eq_getElem h]
  exact List.getElem_mem h
theorem ours_mem (x : Int) (k : Nat) : oursOf x k ∈ made6 x k := by
  have h1 : 0 ≤ (x.fdiv 2).fmod 6 := Int.fmod_nonneg_of_pos _ (by decide)
  have h2 : (x.fdiv 2).fmod 6 < 6 := Int.fmod_lt_of_pos _ (by decide)
  exact getD_mem (by show _ < 6; lia)
theorem theirs_mem (x : Int) (k : Nat) : theirsOf x k ∈ made6 x k := by
  have h1 : 0 ≤ (x.fdiv 12).fmod 7 := Int.fmod_nonneg_of_pos _ (by decide)
  have h2 : (x.fdiv 12).fmod 7 < 7 := Int.fmod_lt_of_pos _ (by decide)
  have : theirsOf x k ∈ made6 x k ++ [oursOf x k] := getD_mem (by show _ < 7; lia)
  rcases List.mem_append.mp this with h | h
  · exact h
  · rw [List.mem_singleton.mp h]; exact ours_mem x k
theorem hands_pl (ns : List Int) : PlsAt 0 (baseL ns 4) (oursL ns 4) ∧ PlsAt 0 (baseL ns 4) (theirsL ns 4) := by
  constructor
  · exact .cons (made_pl _ 0 _ (ours_mem _ _)) (.cons (made_pl _ 1 _ (ours_mem _ _)) (.cons (made_pl _ 2 _ (ours_mem _ _)) (.cons (made_pl _ 3 _ (ours_mem _ _)) (.nil _))))
  · exact .cons (made_pl _ 0 _ (theirs_mem _ _)) (.cons (made_pl _ 1 _ (theirs_mem _ _)) (.cons (made_pl _ 2 _ (theirs_mem _ _)) (.cons (made_pl _ 3 _ (theirs_mem _ _)) (.nil _))))
noncomputable abbrev fd413 : FuncData := fnOf (Str.ofString "law") (Str.ofString "law") F413.1 F413.2.1 F413.2.2.1 Value.none Value.none Value.none (Value.str (Str.ofString "law_il0153_01") 821) none (Value.ref 412) Value.none
theorem K413 (P : Params) : (K P).lookup 413 = some ⟨.type "function", none, .func fd413, #[]⟩ := by rfl
theorem C413 (P : Params) : codeIn (K P) fd413.code fd413.qualname = true := by rfl
noncomputable abbrev n413 : List Str := [Str.ofString "script", Str.ofString "base", Str.ofString "ours", Str.ofString "theirs", Str.ofString "row", Str.ofString "left", Str.ofString "right", Str.ofString "mine", Str.ofString "yours", Str.ofString "own", Str.ofString "other", Str.ofString "rows", Str.ofString "missing", Str.ofString "beyond", Str.ofString "shared", Str.ofString "i", Str.ofString "j", Str.ofString "word", Str.ofString "come", Str.ofString "middle", Str.ofString "here", Str.ofString "there"]
noncomputable abbrev LW (v1 v2 v3 v4 v5 v6 v7 v8 v9 v10 v11 v12 v13 v14 v15 v16 v17 v18 v19 v20 v21 v22 : Option Value) : Loc :=
  [(Str.ofString "script", v1), (Str.ofString "base", v2), (Str.ofString "ours", v3), (Str.ofString "theirs", v4), (Str.ofString "row", v5), (Str.ofString "left", v6), (Str.ofString "right", v7), (Str.ofString "mine", v8), (Str.ofString "yours", v9), (Str.ofString "own", v10), (Str.ofString "other", v11), (Str.ofString "rows", v12), (Str.ofString "missing", v13), (Str.ofString "beyond", v14), (Str.ofString "shared", v15), (Str.ofString "i", v16), (Str.ofString "j", v17), (Str.ofString "word", v18), (Str.ofString "come", v19), (Str.ofString "middle", v20), (Str.ofString "here", v21), (Str.ofString "there", v22)]
/-- what the law's first names stand for -/
structure LwF (G : Store) (B O T : List (List Int)) (xb xo xt xr xl xri xm xy : Value) : Prop where
  b : Rep G xb (.list (B.map dInts))
  o : Rep G xo (.list (O.map dInts))
  t : Rep G xt (.list (T.map dInts))
  r : Rep G xr (dInts (rowFrom 0 B))
  l : Rep G xl (dInts (rowFrom 0 O))
  ri : Rep G xri (dInts (rowFrom 0 T))
  m : Rep G xm (dEds (editsFrom 0 (B.zip O)))
  y : Rep G xy (dEds (editsFrom 0 (B.zip T)))
theorem LwF.mono {G G' : Store} {B O T : List (List Int)} {xb xo xt xr xl xri xm xy : Value} (g : G.Sub G') (F : LwF G B O T xb xo xt xr xl xri xm xy) : LwF G' B O T xb xo xt xr xl xri xm xy :=
  ⟨F.b.mono g, F.o.mono g, F.t.mono g, F.r.mono g, F.l.mono g, F.ri.mono g, F.m.mono g, F.y.mono g⟩
/-- the places: a row's, and two hands' -/
structure BP (B O T : List (List Int)) : Prop where
  p1 : PlsAt 0 B O
  p2 : PlsAt 0 B T
  b4 : B.length = 4
  o4 : O.length = 4
  t4 : T.length = 4
theorem PlsAt.small {k : Nat} {L L' : List (List Int)} (P : PlsAt k L L') : ∀ p ∈ L', p.length ≤ 2 := by
  induction P with
  | nil => intro p h; cases h
  | cons a r ih =>
    intro p h
    rcases List.mem_cons.mp h with rfl | h
    · exact a.pl.small
    · exact ih p h
theorem Pl.smallB {was now : List Int} (h : Pl was now) : was.length ≤ 2 := by
  cases h with
  | same p hn hl => exact hl
  | _ => simp
theorem PlsAt.smallB {k : Nat} {L L' : List (List Int)} (P : PlsAt k L L') : ∀ p ∈ L, p.length ≤ 2 := by
  induction P with
  | nil => intro p h; cases h
  | cons a r ih =>
    intro p h
    rcases List.mem_cons.mp h with rfl | h
    · exact a.pl.smallB
    · exact ih p h
theorem rowFrom_small {k : Nat} {L : List (List Int)} (h : ∀ p ∈ L, p.length ≤ 2) (h4 : L.length = 4) : (rowFrom k L).length ≤ 60 := by
  have h1 := rowFrom_length k L
  have h2 : ∀ L : List (List Int), (∀ p ∈ L, p.length ≤ 2) → (L.map List.length).sum ≤ 2 * L.length := by
    intro L
    induction L with
    | nil => intro _; simp
    | cons p L ih =>
      intro h
      have := ih fun q hq => h q (.tail _ hq)
      have := h p (.head _)
      simp only [List.map_cons, List.sum_cons, List.length_cons]; lia
  have := h2 L h
  lia
theorem editsFrom_ok : ∀ (ps : List (List Int × List Int)) (a : Int), 0 ≤ a → ∀ e ∈ editsFrom a ps, PyData.strOk e.w = true ∧ 0 ≤ e.i ∧ 0 ≤ e.j
  | [], _, _, e, h => nomatch h
  | (was, now) :: r, a, ha, e, h => by
    rcases List.mem_append.mp h with h | h
    · unfold ed1 at h
      split at h
      · cases h
      split at h
      · rcases List.mem_singleton.mp h with rfl
        exact ⟨by show PyData.strOk sIns = true; decide +kernel, by show 0 ≤ a + 1; lia, by show 0 ≤ a + 1; lia⟩
      split at h
      · rcases List.mem_singleton.mp h with rfl
        exact ⟨by show PyData.strOk sIns = true; decide +kernel, ha, ha⟩
      · rcases List.mem_singleton.mp h with rfl
        refine ⟨?_, ha, by show 0 ≤ a + 1; lia⟩
        show PyData.strOk (if now ≠ [] then sRep else sDel) = true
        split <;> decide +kernel
    · exact editsFrom_ok r _ (by lia) e h
theorem editsFrom_len : ∀ (ps : List (List Int × List Int)) (a : Int), (editsFrom a ps).length ≤ ps.length
  | [], _ => Nat.le_refl _
  | (was, now) :: r, a => by
    have := ed1_le a was now
    have := editsFrom_len r (a + was.length + 1)
    simp only [editsFrom, List.length_append, List.length_cons]; lia
theorem editsFrom_w {ps : List (List Int × List Int)} : ∀ e ∈ editsFrom 0 ps, PyData.strOk e.w = true := fun e h => (editsFrom_ok ps 0 (Int.le_refl _) e h).1
theorem editsFrom_4 {L L' : List (List Int)} (h : L.length = 4) : (editsFrom 0 (L.zip L')).length ≤ 4 := by
  have := editsFrom_len (L.zip L') 0
  rw [List.length_zip] at this; lia
/-- the edits of two lists of places, as the matcher tells them -/
theorem PlsAt.w8 {k : Nat} {L L' : List (List Int)} (P : PlsAt k L L') : ∀ p ∈ L', p.length ≤ 8 := fun p h => by have := P.small p h; lia
theorem PlsAt.b8 {k : Nat} {L L' : List (List Int)} (P : PlsAt k L L') : ∀ p ∈ L, p.length ≤ 8 := fun p h => by have := P.smallB p h; lia
noncomputable abbrev ENV (L : Addr) : Env := callEnv fd413 L 413
section
variable {w : World} {env : Env} {G₀ G : Store} {h₀ h : Heap} {own : List (Addr × Obj)} {l : Loc} {A : Around} {E : Value → Shared → Prop} {s : Shared} {t : Nat}
theorem St.at (S : St w env G₀ h₀ own l G h) {f : Addr} {o : Obj} (hK : ∀ P, (K P).lookup f = some o) : (mkS s h t).heap.get? f = some o := S.bsNow.X _ _ (hK _)
noncomputable abbrev B413 (n : Nat) : List Stmt := F413.2.1.drop n
set_option maxHeartbeats 4000000 in
theorem law0 {L : Addr} {v : Value} {ns : List Int} {Q : Flow → Shared → Prop} (S₁ : St w (ENV L) G₀ h₀ own (LW (some v) none none none none none none none none none none none none none none none none none none none none none) G h) (hp : Rep G v (dInts ns)) (hl : ns.length ≤ 1000) (hh : A.handled = none) (hroom : A.depth + 13 < recursionLimit) (hu : A.units + 490 < cLine)
    (k : ∀ h' G' t' xb xo xt xr xl xri xm xy, St w (ENV L) G₀ h₀ own (LW (some v) (some xb) (some xo) (some xt) (some xr) (some xl) (some xri) (some xm) (some xy) none none none none none none none none none none none none none) G' h' → G.Sub G' →
      LwF G' (baseL ns 4) (oursL ns 4) (theirsL ns 4) xb xo xt xr xl xri xm xy → wpAny (model pw w) A (execs (B413 3) (ENV L)) Q E (mkS s h' t')) :
    wpAny (model pw w) A (execs F413.2.1 (ENV L)) Q E (mkS s h t) := by
  refine seqS (Assign_Tuple (Call_ (glS S₁ gl_law_hands (PyProof.Rows.callWith_def (o := ⟨.type "function", none, .func fd408, #[]⟩) rfl (args_cons (ldS S₁ (by walk_at "mem") (args_nil ⟨S₁.at K408, ?_⟩)))))))
  refine hands_spec S₁ hp hl hh (by lia) fun v₂ G₂ h₂ t₂ S₂ g₂ r₂ => ?_
  refine unpackS S₂ r₂ hh (by rfl) (by rfl) fun h₃ vs₃ S₃ r₃ => ?_
  obtain ⟨xb, xo, xt, rfl, rb, ro, rt⟩ := r₃.three
  refine inOrder_cons (wpAny_assign_Name (stS S₃ (by walk_at "set") fun h₄ t₄ S₄ => inOrder_cons (wpAny_assign_Name (stS S₄ (by walk_at "set") fun h₅ t₅ S₅ => inOrder_cons (wpAny_assign_Name (stS S₅ (by walk_at "set") fun h₆ t₆ S₆ => inOrder_nil ?_))))))
  have P1 := (hands_pl ns).1
  have P2 := (hands_pl ns).2
  refine seqS (Assign_Tuple_swapped (names := [Str.ofString "row", Str.ofString "left", Str.ofString "right"]) (Tuple_ (args_cons (Call_ (glS S₆ gl_law_row (PyProof.Rows.callWith_def (o := ⟨.type "function", none, .func fd391, #[]⟩) rfl (args_cons (ldS S₆ (by walk_at "mem") (args_nil ⟨S₆.at K391, ?_⟩)))))))))
  refine row_spec S₆ rb (by simp [baseL]) P1.b8 hh (by lia) fun v₇ G₇ h₇ t₇ S₇ g₇ r₇ => ?_
  refine args_cons (Call_ (glS S₇ gl_law_row (PyProof.Rows.callWith_def (o := ⟨.type "function", none, .func fd391, #[]⟩) rfl (args_cons (ldS S₇ (by walk_at "mem") (args_nil ⟨S₇.at K391, ?_⟩))))))
  refine row_spec S₇ (ro.mono g₇) (by simp [oursL]) P1.w8 hh (by lia) fun v₈ G₈ h₈ t₈ S₈ g₈ r₈ => ?_
  refine args_cons (Call_ (glS S₈ gl_law_row (PyProof.Rows.callWith_def (o := ⟨.type "function", none, .func fd391, #[]⟩) rfl (args_cons (ldS S₈ (by walk_at "mem") (args_nil ⟨S₈.at K391, ?_⟩))))))
  refine row_spec S₈ (rt.mono (g₇.trans g₈)) (by simp [theirsL]) P2.w8 hh (by lia) fun v₉ G₉ h₉ t₉ S₉ g₉ r₉ => args_nil ?_
  refine tupUnpack S₉ hh rfl fun h₁₀ S₁₀ => ?_
  refine inOrder_cons (bindS S₁₀ (by walk_at "set") fun h₁₁ t₁₁ S₁₁ => inOrder_cons (bindS S₁₁ (by walk_at "set") fun h₁₂ t₁₂ S₁₂ => inOrder_cons (bindS S₁₂ (by walk_at "set") fun h₁₃ t₁₃ S₁₃ => inOrder_nil ?_)))
  have lo : ∀ {L : List (List Int)}, (∀ p ∈ L, p.length ≤ 2) → L.length = 4 → (rowFrom 0 L).length ≤ 60 := fun a b => rowFrom_small a b
  refine seqS (Assign_Tuple_swapped (names := [Str.ofString "mine", Str.ofString "yours"]) (Tuple_ (args_cons (Call_ (glS S₁₃ gl_law_told (PyProof.Rows.callWith_def (o := ⟨.type "function", none, .func fd403, #[]⟩) rfl (args_cons (ldS S₁₃ (by walk_at "mem") (args_cons (ldS S₁₃ (by walk_at "mem") (args_nil ⟨S₁₃.at K403, ?_⟩)))))))))))
  refine told_spec S₁₃ (r₇.mono (g₈.trans g₉)) (r₈.mono g₉) P1.nodup.2 (lo P1.smallB rfl) (lo P1.small rfl) P1.spec.mono hh (by lia) (by lia) fun h₁₄ G₁₄ t₁₄ x₁₄ N₁ S₁₄ g₁₄ r₁₄ n₁ p₁ => ?_
  rw [P1.told n₁ p₁] at r₁₄
  refine args_cons (Call_ (glS S₁₄ gl_law_told (PyProof.Rows.callWith_def (o := ⟨.type "function", none, .func fd403, #[]⟩) rfl (args_cons (ldS S₁₄ (by walk_at "mem") (args_cons (ldS S₁₄ (by walk_at "mem") (args_nil ⟨S₁₄.at K403, ?_⟩))))))))
  refine told_spec S₁₄ (r₇.mono (g₈.trans (g₉.trans g₁₄))) (r₉.mono g₁₄) P2.nodup.2 (lo P2.smallB rfl) (lo P2.small rfl) P2.spec.mono hh (by lia) (by lia) fun h₁₅ G₁₅ t₁₅ x₁₅ N₂ S₁₅ g₁₅ r₁₅ n₂ p₂ => args_nil ?_
  rw [P2.told n₂ p₂] at r₁₅
  refine tupUnpack S₁₅ hh rfl fun h₁₆ S₁₆ => ?_
  refine inOrder_cons (bindS S₁₆ (by walk_at "set") fun h₁₇ t₁₇ S₁₇ => inOrder_cons (bindS S₁₇ (by walk_at "set") fun h₁₈ t₁₈ S₁₈ => inOrder_nil ?_))
  have e1 := g₁₄.trans g₁₅
  have e2 := g₉.trans e1
  have e3 := g₈.trans e2
  have e4 := g₇.trans e3
  exact k _ _ _ _ _ _ _ _ _ _ _ S₁₈ (g₂.trans e4) ⟨rb.mono e4, ro.mono e4, rt.mono e4, r₇.mono e3, r₈.mono e2, r₉.mono e1, r₁₄.mono g₁₅, r₁₅⟩
end
section
variable {w : World} {env : Env} {G₀ G : Store} {h₀ h : Heap} {own : List (Addr × Obj)} {l : Loc} {A : Around} {E : Value → Shared → Prop} {s : Shared} {t : Nat}
set_option maxHeartbeats 4000000 in
theorem law3 {L : Addr} {B O T : List (List Int)} {xb xo xt xr xl xri xm xy : Value} {Q : Flow → Shared → Prop} (S : St w (ENV L) G₀ h₀ own l G h) (nb : Has l (Str.ofString "base") xb) (no : Has l (Str.ofString "ours") xo) (nt : Has l (Str.ofString "theirs") xt) (nm : Has l (Str.ofString "mine") xm) (ny : Has l (Str.ofString "yours") xy)
    (F : LwF G B O T xb xo xt xr xl xri xm xy) (P : BP B O T) (hh : A.handled = none) (hroom : A.depth + 13 < recursionLimit) (hu : A.units + 490 < cLine)
    (k : ∀ h' G' t', St w (ENV L) G₀ h₀ own l G' h' → G.Sub G' → wpAny (model pw w) A (execs (B413 4) (ENV L)) Q E (mkS s h' t')) :
    wpAny (model pw w) A (execs (B413 3) (ENV L)) Q E (mkS s h t) := by
  refine seqS (wpAny_If (isTrue_or (wpAny_isTrue_Compare1 (ldS S (by assumption) (Call_ (glS S gl_law_edits (PyProof.Rows.callWith_def (o := ⟨.type "function", none, .func fd398, #[]⟩) rfl (args_cons (ldS S (by assumption) (args_cons (ldS S (by assumption) (args_nil ⟨S.at K398, ?_⟩))))))))))))
  refine edits_spec S F.b F.o P.b4 P.o4 P.p1.b8 P.p1.w8 hh (by lia) (by lia) fun v₁ G₁ h₁ t₁ S₁ g₁ r₁ => ?_
  refine neS (n := 3) S₁ (F.m.mono g₁) r₁ (nice_eds 0 _ editsFrom_w) (nice_eds 0 _ editsFrom_w) (by decide) (by lia) fun b hb => wpAny_truthy_bool ?_
  obtain rfl : b = false := by
    cases b with
    | false => rfl
    | true => exact absurd rfl (hb.mp rfl)
  refine ifno rfl ?_
  refine isTrue_or (wpAny_isTrue_Compare1 (ldS S₁ (by assumption) (Call_ (glS S₁ gl_law_edits (PyProof.Rows.callWith_def (o := ⟨.type "function", none, .func fd398, #[]⟩) rfl (args_cons (ldS S₁ (by assumption) (args_cons (ldS S₁ (by assumption) (args_nil ⟨S₁.at K398, ?_⟩))))))))))
  refine edits_spec S₁ (F.b.mono g₁) (F.t.mono g₁) P.b4 P.t4 P.p1.b8 P.p2.w8 hh (by lia) (by lia) fun v₂ G₂ h₂ t₂ S₂ g₂ r₂ => ?_
  refine neS (n := 3) S₂ (F.y.mono (g₁.trans g₂)) r₂ (nice_eds 0 _ editsFrom_w) (nice_eds 0 _ editsFrom_w) (by decide) (by lia) fun b hb => wpAny_truthy_bool ?_
  obtain rfl : b = false := by
    cases b with
    | false => rfl
    | true => exact absurd rfl (hb.mp rfl)
  refine ifno rfl ?_
  refine isTrue_or_nil ?_
  refine ifno rfl ?_
  exact wpAny_execs_nil (k _ _ _ S₂ (g₁.trans g₂))
end
section
variable {w : World} {env : Env} {G₀ G : Store} {h₀ h : Heap} {own : List (Addr × Obj)} {l : Loc} {A : Around} {E : Value → Shared → Prop} {s : Shared} {t : Nat}
theorem zip3With_len (f : List Int → List Int → List Int → List Int) : ∀ {n : Nat} {as bs cs : List (List Int)}, as.length = n → bs.length = n → cs.length = n → (zip3With f as bs cs).length = n
  | 0, [], _, _, _, _, _ => by simp [zip3With]
  | n + 1, a :: as, b :: bs, c :: cs, ha, hb, hc => by
    have := zip3With_len f (n := n) (as := as) (bs := bs) (cs := cs) (by simpa using ha) (by simpa using hb) (by simpa using hc)
    simp [zip3With, this]
theorem zip3With_mem {f : List Int → List Int → List Int → List Int} (hf : ∀ a b c, f a b c = a ∨ f a b c = b ∨ f a b c = c) : ∀ {as bs cs : List (List Int)} {p : List Int}, p ∈ zip3With f as bs cs → p ∈ as ∨ p ∈ bs ∨ p ∈ cs
  | a :: as, b :: bs, c :: cs, p, h => by
    rcases List.mem_cons.mp h with rfl | h
    · rcases hf a b c with e | e | e <;> rw [e] <;> simp
    · rcases zip3With_mem hf h with q | q | q
      · exact .inl (.tail _ q)
      · exact .inr (.inl (.tail _ q))
      · exact .inr (.inr (.tail _ q))
  | [], _, _, p, h => by simp [zip3With] at h
  | _ :: _, [], _, p, h => by simp [zip3With] at h
  | _ :: _, _ :: _, [], p, h => by simp [zip3With] at h
/-- a's edits that b lacks -/
noncomputable def AloneL (d e : List Ed) : List Ed := d.filter fun x => decide (x ∉ e)
theorem BP.z8 {B O T : List (List Int)} (P : BP B O T) {f : List Int → List Int → List Int → List Int} (hf : ∀ a b c, f a b c = a ∨ f a b c = b ∨ f a b c = c) : ∀ p ∈ zip3With f O T B, p.length ≤ 8 := fun p h => by
  rcases zip3With_mem hf h with q | q | q
  · exact P.p1.w8 p q
  · exact P.p2.w8 p q
  · exact P.p1.b8 p q
set_option maxHeartbeats 4000000 in
theorem law4 {L : Addr} {B O T : List (List Int)} {xb xo xt xr xl xri xm xy : Value} {l₁ : Value → Loc} {l₂ : Value → Value → Loc} {Q : Flow → Shared → Prop} (S : St w (ENV L) G₀ h₀ own l G h)
    (no : Has l (Str.ofString "ours") xo) (nt : Has l (Str.ofString "theirs") xt) (nb : Has l (Str.ofString "base") xb) (s1 : ∀ a, SetTo l (Str.ofString "own") a (l₁ a)) (s2 : ∀ a b, SetTo (l₁ a) (Str.ofString "other") b (l₂ a b))
    (h1 : ∀ a, Has (l₁ a) (Str.ofString "ours") xo) (h2 : ∀ a, Has (l₁ a) (Str.ofString "theirs") xt) (h3 : ∀ a, Has (l₁ a) (Str.ofString "base") xb)
    (F : LwF G B O T xb xo xt xr xl xri xm xy) (P : BP B O T) (hh : A.handled = none) (hroom : A.depth + 13 < recursionLimit) (hu : A.units + 490 < cLine)
    (k : ∀ h' G' t' xw xe, St w (ENV L) G₀ h₀ own (l₂ xw xe) G' h' → G.Sub G' →
      Rep G' xw (dEds (AloneL (editsFrom 0 (B.zip O)) (editsFrom 0 (B.zip T)))) → Rep G' xe (dEds (AloneL (editsFrom 0 (B.zip T)) (editsFrom 0 (B.zip O)))) → wpAny (model pw w) A (execs (B413 6) (ENV L)) Q E (mkS s h' t')) :
    wpAny (model pw w) A (execs (B413 4) (ENV L)) Q E (mkS s h t) := by
  have hk : (ENV L).kindOf (Str.ofString "zip") = some .globalImplicit := by kernel_rfl!
  refine seqS (setS (Call_ (glS S gl_law_edits (PyProof.Rows.callWith_def (o := ⟨.type "function", none, .func fd398, #[]⟩) rfl (args_cons (ldS S (by with_reducible first | assumption | apply h1 | apply h2 | apply h3) (args_cons ?_)))))))
  refine zipComp (n := 4) (f := fun x y z => if x ≠ y then x else z) S (by with_reducible first | assumption | apply h1 | apply h2 | apply h3) (by with_reducible first | assumption | apply h1 | apply h2 | apply h3) (by with_reducible first | assumption | apply h1 | apply h2 | apply h3) F.o F.t F.b P.o4 P.t4 P.b4 (by decide) hh (by decide +kernel) (by decide +kernel) (by decide +kernel) (by decide +kernel) (by decide +kernel) hk (by decide +kernel) (by decide +kernel) (by decide +kernel) ?_ fun h₁ G₁ v₁ t₁ S₁ g₁ r₁ => ?_
  · intro env' G₁ G₂ h₁ h₂ own₁ t₂ a b c va vb vc S ra rb rc
    refine wpAny_IfExp (wpAny_isTrue_Compare1 (ldS S .head (ldS S (.tail .head) (neS (n := 1) S ra rb (nice_ints 0 _) (nice_ints 0 _) (by decide) (by lia) fun q hq => wpAny_truthy_bool ?_))))
    by_cases e : a = b
    · subst e
      obtain rfl : q = false := by
        cases q with
        | false => rfl
        | true => exact absurd rfl (hq.mp rfl)
      rw [if_neg (by decide)]
      exact ldS S (.tail (.tail .head)) ⟨rfl, by simpa using rc⟩
    · obtain rfl : q = true := hq.mpr fun x => e (dInts_inj.mp x)
      rw [if_pos rfl]
      exact ldS S .head ⟨rfl, by simpa [e] using ra⟩
  refine args_nil ⟨S₁.at K398, ?_⟩
  refine edits_spec S₁ (F.b.mono g₁) r₁ P.b4 (zip3With_len _ P.o4 P.t4 P.b4) P.p1.b8 (P.z8 fun a b c => by split <;> simp) hh (by lia) (by lia) fun v₂ G₂ h₂ t₂ S₂ g₂ r₂ => stS S₂ (by with_reducible first | apply s1 | apply s2) fun h₃ t₃ S₃ => ?_
  rw [← P.p1.alone P.p2 0] at r₂
  have g3 := g₁.trans g₂
  refine seqS (setS (Call_ (glS S₃ gl_law_edits (PyProof.Rows.callWith_def (o := ⟨.type "function", none, .func fd398, #[]⟩) rfl (args_cons (ldS S₃ (by with_reducible first | assumption | apply h1 | apply h2 | apply h3) (args_cons ?_)))))))
  refine zipComp (n := 4) (f := fun x y z => if x ≠ y then y else z) S₃ (by with_reducible first | assumption | apply h1 | apply h2 | apply h3) (by with_reducible first | assumption | apply h1 | apply h2 | apply h3) (by with_reducible first | assumption | apply h1 | apply h2 | apply h3) (F.o.mono g3) (F.t.mono g3) (F.b.mono g3) P.o4 P.t4 P.b4 (by decide) hh (by decide +kernel) (by decide +kernel) (by decide +kernel) (by decide +kernel) (by decide +kernel) hk (by decide +kernel) (by decide +kernel) (by decide +kernel) ?_ fun h₄ G₄ v₄ t₄ S₄ g₄ r₄ => ?_
  · intro env' G₁ G₂ h₁ h₂ own₁ t₂ a b c va vb vc S ra rb rc
    refine wpAny_IfExp (wpAny_isTrue_Compare1 (ldS S .head (ldS S (.tail .head) (neS (n := 1) S ra rb (nice_ints 0 _) (nice_ints 0 _) (by decide) (by lia) fun q hq => wpAny_truthy_bool ?_))))
    by_cases e : a = b
    · subst e
      obtain rfl : q = false := by
        cases q with
        | false => rfl
        | true => exact absurd rfl (hq.mp rfl)
      rw [if_neg (by decide)]
      exact ldS S (.tail (.tail .head)) ⟨rfl, by simpa using rc⟩
    · obtain rfl : q = true := hq.mpr fun x => e (dInts_inj.mp x)
      rw [if_pos rfl]
      exact ldS S (.tail .head) ⟨rfl, by simpa [e] using rb⟩
  refine args_nil ⟨S₄.at K398, ?_⟩
  refine edits_spec S₄ (F.b.mono (g3.trans g₄)) r₄ P.b4 (zip3With_len _ P.o4 P.t4 P.b4) P.p1.b8 (P.z8 fun a b c => by split <;> simp) hh (by lia) (by lia) fun v₅ G₅ h₅ t₅ S₅ g₅ r₅ => stS S₅ (by with_reducible first | apply s1 | apply s2) fun h₆ t₆ S₆ => ?_
  rw [alone_swap, ← P.p2.alone P.p1 0] at r₅
  have g6 := g₄.trans g₅
  exact k _ _ _ _ _ S₆ (g3.trans g6) (r₂.mono g6) r₅
end
section
variable {w : World} {env : Env} {G₀ G : Store} {h₀ h : Heap} {own : List (Addr × Obj)} {l : Loc} {A : Around} {E : Value → Shared → Prop} {s : Shared} {t : Nat}

theorem nice_pair {a b : List Ed} (ha : ∀ e ∈ a, PyData.strOk e.w = true) (hb : ∀ e ∈ b, PyData.strOk e.w = true) : nice 4 (.tuple [dEds a, dEds b]) = true := by
  have h1 := nice_eds 0 a ha
  have h2 := nice_eds 0 b hb
  show (nice 3 (dEds a) && (nice 3 (dEds b) && true)) = true
  rw [h1, h2]; rfl
theorem AloneL_w {d e : List Ed} (h : ∀ x ∈ d, PyData.strOk x.w = true) : ∀ x ∈ AloneL d e, PyData.strOk x.w = true := fun x q => h x (List.mem_filter.mp q).1
theorem AloneL_len {d e : List Ed} {n : Nat} (h : d.length ≤ n) : (AloneL d e).length ≤ n := Nat.le_trans (List.length_filter_le _ _) h
set_option maxHeartbeats 4000000 in
theorem law6 {L : Addr} {B O T : List (List Int)} {xb xo xt xr xl xri xm xy xw xe : Value} {Q : Flow → Shared → Prop} (S : St w (ENV L) G₀ h₀ own l G h) (nm : Has l (Str.ofString "mine") xm) (ny : Has l (Str.ofString "yours") xy) (nw : Has l (Str.ofString "own") xw) (ne : Has l (Str.ofString "other") xe)
    (F : LwF G B O T xb xo xt xr xl xri xm xy) (P : BP B O T) (hh : A.handled = none) (hfr : A.frames = some [ENV L]) (hroom : A.depth + 13 < recursionLimit) (hu : A.units + 490 < cLine) (rw : Rep G xw (dEds (AloneL (editsFrom 0 (B.zip O)) (editsFrom 0 (B.zip T))))) (re : Rep G xe (dEds (AloneL (editsFrom 0 (B.zip T)) (editsFrom 0 (B.zip O)))))
    (k : ∀ h' G' t', St w (ENV L) G₀ h₀ own l G' h' → G.Sub G' → wpAny (model pw w) A (execs (B413 7) (ENV L)) Q E (mkS s h' t')) :
    wpAny (model pw w) A (execs (B413 6) (ENV L)) Q E (mkS s h t) := by
  refine seqS (wpAny_If (wpAny_isTrue_Compare1 (Call_ (glS S gl_sorted_list_difference (PyProof.Rows.callWith_def (o := ⟨.type "function", none, .func fd71, #[]⟩) rfl (args_cons (ldS S (by assumption) (args_cons (ldS S (by assumption) (args_nil ⟨S.at K71, ?_⟩))))))))))
  have z1 := editsFrom_4 (L' := O) P.b4
  have z2 := editsFrom_4 (L' := T) P.b4
  refine sorted_spec S F.m F.y (P.p1.sorted 0) (P.p2.sorted 0) editsFrom_w editsFrom_w (by lia) (by lia) hh hfr rfl (by lia) (by lia) fun h₁ G₁ t₁ x₁ S₁ g₁ r₁ => ?_
  refine Tuple_ (args_cons (ldS S₁ (by assumption) (args_cons (ldS S₁ (by assumption) (args_nil ?_)))))
  refine tupS S₁ (ds := [dEds (AloneL (editsFrom 0 (B.zip O)) (editsFrom 0 (B.zip T))), dEds (AloneL (editsFrom 0 (B.zip T)) (editsFrom 0 (B.zip O)))]) (.cons (rw.mono g₁) (.cons (re.mono g₁) .nil)) fun h₂ G₂ x₂ S₂ g₂ r₂ => ?_
  refine neS (n := 4) S₂ (r₁.mono g₂) r₂ (nice_pair (AloneL_w editsFrom_w) (AloneL_w editsFrom_w)) (nice_pair (AloneL_w editsFrom_w) (AloneL_w editsFrom_w)) (by decide) (by lia) fun b hb => wpAny_truthy_bool ?_
  obtain rfl : b = false := by
    cases b with
    | false => rfl
    | true => exact absurd rfl (hb.mp rfl)
  refine ifno rfl ?_
  exact wpAny_execs_nil (k _ _ _ S₂ (g₁.trans g₂))
end
section
variable {w : World} {env : Env} {G₀ G : Store} {h₀ h : Heap} {own : List (Addr × Obj)} {l : Loc} {A : Around} {s : Shared} {t : Nat}
noncomputable abbrev usePost (w : World) (A : Around) (env : Env) (_s : Shared) (y : Str) (py : Pos) (scope : Scope) (Q : Flow → Shared → Prop) (E : Value → Shared → Prop) (acc : Value) (cenv : Env) (r : Result) (s' : Shared) : Prop :=
  match r with
  | .ok _ => wpAny (model pw w) A (assign (.Name y py) env acc) (fun _ s'' => ∃ m, s''.heap.Ns cenv.locals m ∧ ∀ h', Heap.SameBut cenv.locals s''.heap h' → Q .next { s'' with heap := h' }) E s'
  | .error x => ∃ m, s'.heap.Ns cenv.locals m ∧ ∀ h', Heap.SameBut cenv.locals s'.heap h' → wpAny (model pw w) A (passOn "comprehension.variables-let-go" x { cenv with scope := scope } : Sem Value) (fun _ s' => Q .next s') E { s' with heap := h' }
/-- y = [elt for target in iter]: the variables are let go behind the store -/
theorem assignComp {E : Value → Shared → Prop} {elt iter target : PySem.Expr} {y : Str} {py pos spos : Pos} {scope : Scope} {Q : Flow → Shared → Prop}
    (hsw : swapsWith (.ListComp elt [⟨target, iter, [], 0⟩] scope pos) (some (.Name y py)) spos.line env = pure true)
    (hfree : ∀ x ∈ scope.names, x.2 ≠ .free) (hkind : scope.kind = .function) (hnames : ∀ x ∈ scope.names, x.2 = .local → scope.names.lookup x.1 = some .local)
    (hE : wpAny (model pw w) A (eval iter env) (fun x s₁ => wpAny (model pw w) A (pyIter x) (fun it s₂ => wpAny (model pw w) A (newList []) (fun acc s₃ => wpAny (model pw w) A (newFunctionEnv scope env.globals [] [] env.qual none .none (some env)) (fun cenv s₄ =>
      codeAny (model pw w) A (.compStart (.ListComp elt [⟨target, iter, [], 0⟩] scope pos) 0 it acc { cenv with scope := scope }) (usePost w A env s y py scope Q E acc cenv) s₄) E s₃) E s₂) E s₁) E (mkS s h t))
    (hs : ∀ x, foldedSetIterable iter env x = pure x := by intro _; rfl) :
    wpAny (model pw w) A (exec (.Assign [.Name y py] (.ListComp elt [⟨target, iter, [], 0⟩] scope pos) spos) env) Q E (mkS s h t) := by
  rw [exec_Assign_Name_used _ _ _ _ hsw]
  refine wpAny_bind (wpAny_standAt (wpAny_bind ?_))
  show wpAny _ A (do let _ ← comprehension (.ListComp elt [⟨target, iter, [], 0⟩] scope pos) scope env _ (newList []) false (eval iter env) (some (assign (.Name y py) env))) _ _ (mkS s h t)
  exact wpAny_bind (wpAny_mono (wpAny_comprehension_use (Q := fun _ s' => Q .next s') rfl hs hfree hkind hnames hE) (fun _ s' hq => wpAny_pure (wpAny_pure hq)) fun _ _ e => e)
theorem compTailU {y : Str} {py : Pos} {l₂ : Value → Loc} {target elt iter : PySem.Expr} {scope : Scope} {pos : Pos} {it : Value} {n : Nat} {Gz : Store} {Part : Nat → List (Addr × Obj) → Prop} {item : Nat → Store → Value → Prop} {p : List (Addr × Obj)} {names : List Str} {dat : Nat → PyData} {Q : Flow → Shared → Prop} {E : Value → Shared → Prop} (hset : ∀ v, SetTo l y v (l₂ v))
    (I : Iter w target it n Gz Part item) (hh : A.handled = none) (hz : Gz.Sub G) (hP : Part 0 p) (S : St w env G₀ h₀ (p ++ own) l G h) (hn : n ≤ 1000)
    (hag : ∀ {s : Shared} {Q : Value → Shared → Prop} {h : Heap} {t : Nat} {env' : Env} {G₀' h₀' own' l' G'} , St w env' G₀' h₀' (p ++ own') l' G' h → Q it (mkS s h t) → wpAny (model pw w) A (pyIter it) Q E0 (mkS s h t))
    (hok : ((names.all fun n => decide (scope.names.lookup n = some .local)) && decide names.Nodup && decide (scope.kind = .function)) = true) (hcell : ∀ x ∈ scope.names, x.2 ≠ .cell)
    (turn : ∀ (L : Addr) (G₁ : Store) (h₁ : Heap) (k : Nat), k < n → ∀ (own₁ : List (Addr × Obj)) (G₂ : Store) (h₂ : Heap) (t₂ : Nat) (vals : List (Option Value)) (v : Value), vals.length = names.length → item k G₂ v → G.Sub G₂ →
      St w (compEnv env scope L) G₁ h₁ own₁ (names.zip vals) G₂ h₂ →
      wpAny (model pw w) A (assign target (compEnv env scope L) v) (fun _ s₂ => wpAny (model pw w) A (eval elt (compEnv env scope L)) (fun x s₃ => ∃ h₃ G₃ t₃ vals', s₃ = mkS s h₃ t₃ ∧ St w (compEnv env scope L) G₁ h₁ own₁ (names.zip vals') G₃ h₃ ∧ vals'.length = names.length ∧ G₂.Sub G₃ ∧ Rep G₃ x (dat k)) E0 s₂) E0 (mkS s h₂ t₂))
    (k : ∀ h' G' v t', St w env G₀ h₀ own (l₂ v) G' h' → G.Sub G' → Rep G' v (.list ((List.range n).map dat)) → Q .next (mkS s h' t')) :
    wpAny (model pw w) A (newList []) (fun acc s₃ => wpAny (model pw w) A (newFunctionEnv scope env.globals [] [] env.qual none .none (some env)) (fun cenv s₄ =>
      codeAny (model pw w) A (.compStart (.ListComp elt [⟨target, iter, [], 0⟩] scope pos) 0 it acc { cenv with scope := scope }) (usePost w A env s y py scope Q E acc cenv) s₄) E s₃) E (mkS s h t) := by
  refine compTailG (usePost w A env s y py scope Q E) I hh hz hP S hn hag hok hcell turn fun L acc oC vs nn h' G' t' S' hN g' r' => ?_
  refine wpAny_assign_Name (stS S' (hset _) fun h₅ t₅ S₅ => ?_)
  obtain ⟨m, hm⟩ := hN h₅ (S₅.ow _ (.head _)).1
  refine ⟨m, hm, fun h'' hs => ?_⟩
  have Gb := S₅.dropAll (part := [_]) (h' := h'') fun b o hb e => (hs.2 b (fun q => hb (by simp [q]; rfl))).trans e
  obtain ⟨Sf, gf⟩ := Gb.freeze .head
  exact k _ _ _ _ Sf (g'.trans gf) (.list Store.put_self rfl rfl (by simpa using r'.mono gf))
end
section
variable {w : World} {env : Env} {G₀ G : Store} {h₀ h : Heap} {own : List (Addr × Obj)} {l : Loc} {A : Around} {E : Value → Shared → Prop} {s : Shared} {t : Nat}

/-- a list of the store met as a comprehension's source, its items as they are -/
theorem iterRawA {a : Addr} {vs : List Value} {n : Nat} {Q : Value → Shared → Prop} (S : St w env G₀ h₀ own l G h) (e : G a = some (lstO vs n))
    (k : ∀ h' p it Part, (∀ target, Iter w target it vs.length G Part (fun k _ v => vs[k]? = some v)) → Part 0 p → St w env G₀ h₀ (p ++ own) l G h' →
      (∀ {A' : Around} {s : Shared} {Q : Value → Shared → Prop} {h : Heap} {t : Nat} {env' : Env} {G₀' h₀' own' l' G'}, St w env' G₀' h₀' (p ++ own') l' G' h → Q it (mkS s h t) → wpAny (model pw w) A' (pyIter it) Q E0 (mkS s h t)) → Q it (mkS s h' t)) :
    wpAny (model pw w) A (pyIter (.ref a)) Q E (mkS s h t) := by
  refine wpAny_pyIter_list (s := mkS s h t) (items := vs.toArray) ⟨_, S.gin _ _ e, rfl, n, rfl⟩ ?_
  have S1 := S.pushOwn { cls := .type "list_iterator", data := .fields #[.ref a, .int 0 0] } rfl
  refine k _ [(h.objs.size, { cls := .type "list_iterator", data := .fields #[.ref a, .int 0 0] })] (.ref h.objs.size) _ (fun _ => Iter.listRaw (vs := vs) e rfl ⟨n, rfl⟩ rfl) ⟨_, rfl, rfl, rfl⟩ S1 fun S' hq => ?_
  have g := (S'.ow _ (List.mem_append_left _ (List.mem_singleton.mpr rfl))).1
  exact wpAny_pyIter_listiter ⟨_, g, rfl, rfl⟩ hq
noncomputable abbrev nHad : Str := Str.ofString "had"
noncomputable abbrev nDue : Str := Str.ofString "due"
noncomputable abbrev nX : Str := Str.ofString "x"
noncomputable abbrev dMm (b : Mm) : PyData := .tuple [.int (b.1 : Nat), .int (b.2.1 : Nat), dEd b.2.2]
theorem nice_mm (b : Mm) (hw : PyData.strOk b.2.2.w = true) : nice 3 (dMm b) = true := by
  have h2 := nice_ed 0 b.2.2 hw
  show (nice 2 (.int (b.1 : Nat)) && (nice 2 (.int (b.2.1 : Nat)) && (nice 2 (dEd b.2.2) && true))) = true
  rw [h2]; rfl
theorem nice_mms (bs : List Mm) (hw : ∀ b ∈ bs, PyData.strOk b.2.2.w = true) : nice 4 (.list (bs.map dMm)) = true := by
  show (bs.map dMm).all (nice 3) = true
  rw [List.all_map, List.all_eq_true]
  intro e he
  exact nice_mm e (hw e he)
/-- [(a, b, x) for x in es] -/
theorem constComp {src : Str} {a b c1 c2 : Nat} {scope : Scope} {ve : Value} {es : List Ed} {p1 p2 p3 p4 p5 p6 pos : Pos} {Q : Value → Shared → Prop}
    (S : St w env G₀ h₀ own l G h) (hx : Has l src ve) (r : Rep G ve (dEds es)) (hz : es.length ≤ 60) (hh : A.handled = none)
    (hfree : ∀ x ∈ scope.names, x.2 ≠ .free) (hkind : scope.kind = .function) (hnames : ∀ x ∈ scope.names, x.2 = .local → scope.names.lookup x.1 = some .local)
    (hok : ((([nX]).all fun n => decide (scope.names.lookup n = some .local)) && decide ([nX] : List Str).Nodup && decide (scope.kind = .function)) = true) (hcell : ∀ x ∈ scope.names, x.2 ≠ .cell) (dx : (src == ("__debug__" : Str)) = false)
    (k : ∀ h' G' v t', St w env G₀ h₀ own l G' h' → G.Sub G' → Rep G' v (.list (es.map fun e => dMm (a, b, e))) → Q v (mkS s h' t')) :
    wpAny (model pw w) A (eval (.ListComp (.Tuple [.Constant (.int (a : Nat)) c1 p1, .Constant (.int (b : Nat)) c2 p2, .Name nX p3] 0 p4) [⟨.Name nX p5, .Name src p6, [], 0⟩] scope pos) env) Q E (mkS s h t) := by
  refine wpAny_ListComp hfree hkind hnames (ldS S hx ?_ dx)
  refine iterS (target := .Name nX p5) S r fun h₁ p it Part I hP S₁ hag => ?_
  refine compTail (names := [nX]) (dat := fun i => dMm (a, b, es.getD i ⟨0, 0, Str.ofString "", []⟩)) I hh (Store.Sub.refl _) hP S₁ (by rw [List.length_map]; lia) hag hok hcell ?_ ?_
  · intro L G₁ h₁ i hi own₁ G₂ h₂ t₂ vals x hv hitem hG2 S₂
    obtain ⟨o1, rfl⟩ : ∃ a, vals = [a] := len1 hv
    obtain ⟨d, hd, rv⟩ := hitem
    rw [List.length_map] at hi
    rw [List.getElem?_map, List.getElem?_eq_getElem hi] at hd
    obtain rfl := Option.some.inj hd
    refine wpAny_assign_Name (stS (l' := [(nX, some x)]) S₂ .head fun h₅ t₅ S₅ => ?_)
    refine Tuple_ (args_cons (conI fun k1 u1 => args_cons (conI fun k2 u2 => args_cons (ldS S₅ .head (args_nil ?_)))))
    refine tupS S₅ (ds := [.int a, .int b, dEd es[i]]) (.cons (.int _ _) (.cons (.int _ _) (.cons rv .nil))) fun h₆ G₆ y S₆ g₆ ry => ?_
    refine ⟨_, _, _, [some x], rfl, S₆, rfl, g₆, ?_⟩
    rw [List.getD_eq_getElem?_getD, List.getElem?_eq_getElem hi]
    exact ry
  · intro h' G' v t' S' g' r'
    refine k _ _ _ _ S' g' ?_
    have e : (List.range (List.map dEd es).length).map (fun i => dMm (a, b, es.getD i ⟨0, 0, Str.ofString "", []⟩)) = es.map fun e => dMm (a, b, e) := by
      refine List.ext_getElem (by simp) fun i h1 h2 => ?_
      have hi : i < es.length := by simpa using h1
      simp [hi]
    rw [e] at r'
    exact r'
set_option maxHeartbeats 4000000 in
theorem law7 {L : Addr} {B O T : List (List Int)} {xb xo xt xr xl xri xm xy xw xe : Value} {l₂ : Value → Loc} {Q : Flow → Shared → Prop} (S : St w (ENV L) G₀ h₀ own l G h) (nm : Has l (Str.ofString "mine") xm) (ny : Has l (Str.ofString "yours") xy)
    (hs : ∀ x, SetTo l (Str.ofString "rows") x (l₂ x)) (h2 : ∀ x, Has (l₂ x) (Str.ofString "rows") x) (h3 : ∀ x, Has (l₂ x) (Str.ofString "own") xw) (h4 : ∀ x, Has (l₂ x) (Str.ofString "other") xe)
    (F : LwF G B O T xb xo xt xr xl xri xm xy) (P : BP B O T) (hh : A.handled = none) (hfr : A.frames = some [ENV L]) (hroom : A.depth + 13 < recursionLimit) (hu : A.units + 490 < cLine) (rw : Rep G xw (dEds (AloneL (editsFrom 0 (B.zip O)) (editsFrom 0 (B.zip T))))) (re : Rep G xe (dEds (AloneL (editsFrom 0 (B.zip T)) (editsFrom 0 (B.zip O)))))
    (k : ∀ h' G' t' xs, St w (ENV L) G₀ h₀ own (l₂ xs) G' h' → G.Sub G' → wpAny (model pw w) A (execs (B413 9) (ENV L)) Q E (mkS s h' t')) :
    wpAny (model pw w) A (execs (B413 7) (ENV L)) Q E (mkS s h t) := by
  have z1 := editsFrom_4 (L' := O) P.b4
  have z2 := editsFrom_4 (L' := T) P.b4
  refine seqS (assignComp (by kernel_rfl!) (by decide +kernel) (by decide +kernel) (by decide +kernel) (Call_ (glS S gl_count_diff_all_purpose (PyProof.Rows.callWith_def (o := ⟨.type "function", none, .func fd159, #[]⟩) rfl (args_cons (ldS S (by with_reducible first | assumption | apply h2 | apply h3 | apply h4) (args_cons (ldS S (by with_reducible first | assumption | apply h2 | apply h3 | apply h4) (args_nil ⟨S.at K159, ?_⟩)))))))))
  refine count_spec S F.m F.y (P.p1.sorted 0).nodup (P.p2.sorted 0).nodup editsFrom_w editsFrom_w (by lia) (by lia) hh (by lia) (by lia) fun h₁ G₁ t₁ rl rv c S₁ g₁ e₁ fa => ?_
  have hcl : (cntOf (editsFrom 0 (B.zip O)) (editsFrom 0 (B.zip T))).length ≤ 60 := by
    unfold cntOf
    rw [List.length_append, List.length_map, List.length_map]
    have q1 := List.length_filter_le (fun e => decide (e ∉ editsFrom 0 (B.zip T))) (editsFrom 0 (B.zip O))
    have q2 := List.length_filter_le (fun e => decide (e ∉ editsFrom 0 (B.zip O))) (editsFrom 0 (B.zip T))
    lia
  have hlen := fa.length
  have hcw : ∀ b ∈ cntOf (editsFrom 0 (B.zip O)) (editsFrom 0 (B.zip T)), PyData.strOk b.2.2.w = true := by
    intro b hb
    rcases List.mem_append.mp hb with q | q
    · obtain ⟨e, he, rfl⟩ := List.mem_map.mp q
      exact AloneL_w editsFrom_w e he
    · obtain ⟨e, he, rfl⟩ := List.mem_map.mp q
      exact AloneL_w editsFrom_w e he
  refine iterRawA S₁ e₁ fun h₂ p it Part I hP S₂ hag => ?_
  refine compTailU (names := [nHad, nDue, nX]) (l₂ := l₂) hs (dat := fun i => dMm ((cntOf (editsFrom 0 (B.zip O)) (editsFrom 0 (B.zip T))).getD i (0, 0, ⟨0, 0, Str.ofString "", []⟩))) (Iter.imp (item' := fun k G v => ∃ b, (cntOf (editsFrom 0 (B.zip O)) (editsFrom 0 (B.zip T)))[k]? = some b ∧ IsMm G v b) (I _) fun k G v g hk => ?_) hh (Store.Sub.refl _) hP S₂ (by lia) hag (by decide +kernel) (by decide +kernel) ?_ ?_
  · obtain ⟨b, hb, q⟩ := fa.get hk
    exact ⟨b, hb, q.mono g⟩
  · intro L G₁ h₁ i hi own₁ G₂ h₂ t₂ vals x hv hitem hG2 S₂
    obtain ⟨o1, o2, o3, rfl⟩ : ∃ a b c, vals = [a, b, c] := len3 hv
    obtain ⟨b, hb, m, dm, ti, tj, ve, rfl, em, rve⟩ := hitem
    refine unpackM tc_mismatch S₂ em hh rfl rfl fun h₃ S₃ => ?_
    refine inOrder_cons (wpAny_assign_Name (stS (l' := [(nHad, some (.int (b.1 : Nat) ti)), (nDue, o2), (nX, o3)]) S₃ .head fun h₄ t₄ S₃ => inOrder_cons (wpAny_assign_Name (stS (l' := [(nHad, some (.int (b.1 : Nat) ti)), (nDue, some (.int (b.2.1 : Nat) tj)), (nX, o3)]) S₃ (.tail .head) fun h₅ t₅ S₅ => inOrder_cons (wpAny_assign_Name (stS (l' := [(nHad, some (.int (b.1 : Nat) ti)), (nDue, some (.int (b.2.1 : Nat) tj)), (nX, some ve)]) S₅ (.tail (.tail .head)) fun h₆ t₆ S₆ => inOrder_nil ?_))))))
    refine Tuple_ (args_cons (ldS S₆ .head (args_cons (ldS S₆ (.tail .head) (args_cons (ldS S₆ (.tail (.tail .head)) (args_nil ?_)))))))
    refine tupS S₆ (ds := [.int (b.1 : Nat), .int (b.2.1 : Nat), dEd b.2.2]) (.cons (.int _ _) (.cons (.int _ _) (.cons rve .nil))) fun h₇ G₇ y S₇ g₇ ry => ?_
    refine ⟨_, _, _, [some (.int (b.1 : Nat) ti), some (.int (b.2.1 : Nat) tj), some ve], rfl, S₇, rfl, g₇, ?_⟩
    rw [List.getD_eq_getElem?_getD, hb]
    exact ry
  · intro h₃ G₃ x₃ t₃ S₃ g₃ r₃
    have e : (List.range rv.length).map (fun i => dMm ((cntOf (editsFrom 0 (B.zip O)) (editsFrom 0 (B.zip T))).getD i (0, 0, ⟨0, 0, Str.ofString "", []⟩))) = (cntOf (editsFrom 0 (B.zip O)) (editsFrom 0 (B.zip T))).map dMm := by
      refine List.ext_getElem (by simp [hlen]) fun i h1 h2 => ?_
      have hi : i < (cntOf (editsFrom 0 (B.zip O)) (editsFrom 0 (B.zip T))).length := by simpa using h2
      simp [hi]
    rw [e] at r₃
    have g4 := g₁.trans g₃
    refine seqS (wpAny_If (wpAny_isTrue_Compare1 (ldS S₃ (by with_reducible first | assumption | apply h2 | apply h3 | apply h4) (wpAny_BinOp ?_))))
    refine constComp (a := 1) (b := 0) S₃ (by with_reducible first | assumption | apply h2 | apply h3 | apply h4) (rw.mono g4) (AloneL_len (by lia)) hh (by decide +kernel) (by decide +kernel) (by decide +kernel) (by decide +kernel) (by decide +kernel) (by decide +kernel) fun h₅ G₅ x₅ t₅ S₅ g₅ r₅ => ?_
    refine constComp (a := 0) (b := 1) S₅ (by with_reducible first | assumption | apply h2 | apply h3 | apply h4) (re.mono (g4.trans g₅)) (AloneL_len (by lia)) hh (by decide +kernel) (by decide +kernel) (by decide +kernel) (by decide +kernel) (by decide +kernel) (by decide +kernel) fun h₆ G₆ x₆ t₆ S₆ g₆ r₆ => ?_
    refine addListS S₆ (r₅.mono g₆) r₆ ?_ fun h₇ G₇ x₇ S₇ g₇ r₇ => ?_
    · have q1 : (AloneL (editsFrom 0 (B.zip O)) (editsFrom 0 (B.zip T))).length ≤ 4 := AloneL_len z1
      have q2 : (AloneL (editsFrom 0 (B.zip T)) (editsFrom 0 (B.zip O))).length ≤ 4 := AloneL_len z2
      rw [List.length_map, List.length_map, sizeLine_eq]; lia
    have e7 : (AloneL (editsFrom 0 (B.zip O)) (editsFrom 0 (B.zip T))).map (fun e => dMm (1, 0, e)) ++ (AloneL (editsFrom 0 (B.zip T)) (editsFrom 0 (B.zip O))).map (fun e => dMm (0, 1, e)) = (cntOf (editsFrom 0 (B.zip O)) (editsFrom 0 (B.zip T))).map dMm := by
      unfold cntOf AloneL
      rw [List.map_append, List.map_map, List.map_map]
      rfl
    rw [e7] at r₇
    refine neS (n := 4) S₇ (r₃.mono (g₅.trans (g₆.trans g₇))) r₇ (nice_mms _ hcw) (nice_mms _ hcw) (by decide) (by lia) fun b hb => wpAny_truthy_bool ?_
    obtain rfl : b = false := by
      cases b with
      | false => rfl
      | true => exact absurd rfl (hb.mp rfl)
    refine ifno rfl ?_
    exact wpAny_execs_nil (k _ _ _ _ S₇ (g4.trans (g₅.trans (g₆.trans g₇))))
end
section
variable {w : World} {env : Env} {G₀ G : Store} {h₀ h : Heap} {own : List (Addr × Obj)} {l : Loc} {A : Around} {E : Value → Shared → Prop} {s : Shared} {t : Nat}

theorem editsFrom_ij : ∀ (ps : List (List Int × List Int)) (a : Int), ∀ e ∈ editsFrom a ps, e.i ≤ e.j
  | [], _, e, h => nomatch h
  | (was, now) :: r, a, e, h => by
    rcases List.mem_append.mp h with h | h
    · unfold ed1 at h
      split at h
      · cases h
      split at h
      · rcases List.mem_singleton.mp h with rfl
        exact Int.le_refl _
      split at h
      · rcases List.mem_singleton.mp h with rfl
        exact Int.le_refl _
      · rcases List.mem_singleton.mp h with rfl
        show a ≤ a + 1; lia
    · exact editsFrom_ij r _ e h
theorem editsFrom_c : ∀ (ps : List (List Int × List Int)) (a : Int), (∀ p ∈ ps, p.2.length ≤ 8) → ∀ e ∈ editsFrom a ps, e.c.length ≤ 8
  | [], _, _, e, h => nomatch h
  | (was, now) :: r, a, hp, e, h => by
    have h8 : now.length ≤ 8 := hp _ (.head _)
    rcases List.mem_append.mp h with h | h
    · unfold ed1 at h
      split at h
      · cases h
      split at h
      · rcases List.mem_singleton.mp h with rfl
        show (now.drop 1).length ≤ 8
        rw [List.length_drop]; lia
      split at h
      · rcases List.mem_singleton.mp h with rfl
        show (now.take 1).length ≤ 8
        rw [List.length_take]; lia
      · rcases List.mem_singleton.mp h with rfl
        exact h8
    · exact editsFrom_c r _ (fun p q => hp p (.tail _ q)) e h
noncomputable def layIf (E : List Ed) (row : List Int) (e : Ed) : List Int := if e ∈ E then layE row e else row
theorem cutLen {i j n c : Nat} (h : i ≤ j) (hc : c ≤ 8) : min i n + c + (n - j) ≤ n + 8 := by
  have h1 : min i n + (n - j) ≤ n := by
    rcases Nat.le_total j n with q | q
    · exact Nat.le_trans (Nat.add_le_add_right (Nat.le_trans (Nat.min_le_left _ _) h) _) (Nat.le_of_eq (Nat.add_sub_cancel' q))
    · rw [Nat.sub_eq_zero_of_le q]; exact Nat.min_le_right _ _
  rw [Nat.add_right_comm]
  exact Nat.add_le_add h1 hc
theorem layE_len {row : List Int} {e : Ed} (_h0 : 0 ≤ e.i) (hij : e.i ≤ e.j) (hc : e.c.length ≤ 8) : (layE row e).length ≤ row.length + 8 := by
  unfold layE
  rw [List.length_append, List.length_append, List.length_take, List.length_drop]
  exact cutLen (Int.toNat_le_toNat hij) hc
theorem layIf_fold (E : List Ed) : ∀ (l : List Ed) (row : List Int), l.foldl (layIf E) row = (l.filter fun e => decide (e ∈ E)).foldl layE row
  | [], _ => rfl
  | e :: l, row => by
    rw [List.foldl_cons, layIf_fold E l, List.filter_cons]
    by_cases h : e ∈ E
    · simp [layIf, h]
    · simp [layIf, h]
theorem laid_mid {B O T : List (List Int)} (P : BP B O T) : (editsFrom 0 (B.zip O)).reverse.foldl (layIf (editsFrom 0 (B.zip T))) (rowFrom 0 B) = rowFrom 0 (midL O T B) := by
  rw [layIf_fold, List.filter_reverse, P.p1.common P.p2 0]
  exact (P.p1.mid P.p2).2.2.laid
/-- x not in a list of edits -/
theorem notInS {v c : Value} {e : Ed} {es : List Ed} {Q : Value → Shared → Prop} (S : St w env G₀ h₀ own l G h) (rc : Rep G c (dEds es)) (r : Rep G v (dEd e)) (hw : PyData.strOk e.w = true) (hw' : ∀ e ∈ es, PyData.strOk e.w = true) (hu : A.units + 64 < cLine)
    (k : Q (.bool (decide (e ∉ es))) (mkS s h t)) : wpAny (model pw w) A (compareOp .NotIn v c) Q E (mkS s h t) := by
  obtain ⟨as, q⟩ := rc.reads S.gin
  obtain ⟨bs, q'⟩ := r.reads S.gin
  have n1 := nice_lay 3 (dEds es) (nice_eds 0 es hw')
  have n2 := nice_lay 2 (dEd e) (nice_ed 0 e hw)
  refine SeqAt.notIn_list_reads (s := mkS s h t) q q' n1.1 n2.1 ?_ ?_
  · have := Nat.min_le_right (PyData.depthAll (es.map dEd)) (dEd e).depth
    have := n2.2
    lia
  · have : (!(es.map dEd).any fun y => PyData.eqv y (dEd e)) = decide (e ∉ es) := by
      rw [Bool.eq_iff_iff]
      simp only [Bool.not_eq_true', decide_eq_true_eq, List.any_map, List.any_eq_false, Function.comp]
      constructor
      · intro h hm
        exact h e hm ((nice_eqv 2 _ _ (nice_ed 0 e hw) (nice_ed 0 e hw)).mpr rfl)
      · intro h x hx hq
        have := (nice_eqv 2 _ _ (nice_ed 0 x (hw' x hx)) (nice_ed 0 e hw)).mp hq
        exact h (dEd_inj.mp this ▸ hx)
    rw [this]; exact k
/-- x[:i] -/
theorem takeN {x y : Str} {p1 p2 p3 p4 : Pos} {v : Value} {ns : List Int} {i : Int} {u : Tok} {Q : Value → Shared → Prop} (S : St w env G₀ h₀ own l G h) (hm : Has l x v) (hy : Has l y (.int i u)) (r : Rep G v (dInts ns)) (h0 : 0 ≤ i) (hz : ns.length ≤ sizeLine)
    (k : ∀ h' G' v t', St w env G₀ h₀ own l G' h' → G.Sub G' → Rep G' v (dInts (ns.take i.toNat)) → Q v (mkS s h' t')) (hd : (x == ("__debug__" : Str)) = false := by decide +kernel) (hd' : (y == ("__debug__" : Str)) = false := by decide +kernel) :
    wpAny (model pw w) A (eval (.Subscript (.Name x p1) (.Slice none (some (.Name y p2)) none p3) p4) env) Q E (mkS s h t) := by
  refine Subscript_ (ldS S hm (wpAny_Slice (evalPart_none_step (evalPart_some_step (ldS S hy (evalPart_none_step ?_) hd')))) hd)
  obtain ⟨n, rfl⟩ : ∃ n : Nat, i = (n : Int) := ⟨i.toNat, by lia⟩
  simp only [Int.toNat_natCast] at k
  refine sliceS (t := t) (es := (ns.take n).map .int) S r .none (.int (n : Int) u) .none (by simp) (by simpa using hz) (fun vs ra => ?_) fun h' G' x S' g' r' => k _ _ _ _ S' g' r'
  rw [slicePick_upto', List.map_take]
  simpa using ra.take n
/-- x[j:] -/
theorem dropN {x y : Str} {p1 p2 p3 p4 : Pos} {v : Value} {ns : List Int} {i : Int} {u : Tok} {Q : Value → Shared → Prop} (S : St w env G₀ h₀ own l G h) (hm : Has l x v) (hy : Has l y (.int i u)) (r : Rep G v (dInts ns)) (h0 : 0 ≤ i) (hz : ns.length ≤ sizeLine)
    (k : ∀ h' G' v t', St w env G₀ h₀ own l G' h' → G.Sub G' → Rep G' v (dInts (ns.drop i.toNat)) → Q v (mkS s h' t')) (hd : (x == ("__debug__" : Str)) = false := by decide +kernel) (hd' : (y == ("__debug__" : Str)) = false := by decide +kernel) :
    wpAny (model pw w) A (eval (.Subscript (.Name x p1) (.Slice (some (.Name y p2)) none none p3) p4) env) Q E (mkS s h t) := by
  refine Subscript_ (ldS S hm (wpAny_Slice (evalPart_some_step (ldS S hy (evalPart_none_step (evalPart_none_step ?_)) hd'))) hd)
  obtain ⟨n, rfl⟩ : ∃ n : Nat, i = (n : Int) := ⟨i.toNat, by lia⟩
  simp only [Int.toNat_natCast] at k
  refine sliceS (t := t) (es := (ns.drop n).map .int) S r (.int (n : Int) u) .none .none (by simp) (by simpa using hz) (fun vs ra => ?_) fun h' G' x S' g' r' => k _ _ _ _ S' g' r'
  rw [slicePick_from', List.map_drop]
  simpa using ra.drop n
end
section
variable {w : World} {env : Env} {G₀ G : Store} {h₀ h : Heap} {own : List (Addr × Obj)} {l : Loc} {A : Around} {E : Value → Shared → Prop} {s : Shared} {t : Nat}

/-- x[::-1] of a list -/
theorem revS {x : Str} {p1 p2 p3 p4 p5 : Pos} {c : Nat} {v : Value} {ds : List PyData} {Q : Value → Shared → Prop} (S : St w env G₀ h₀ own l G h) (hm : Has l x v) (r : Rep G v (.list ds)) (hz : ds.length ≤ sizeLine)
    (k : ∀ h' G' v t', St w env G₀ h₀ own l G' h' → G.Sub G' → Rep G' v (.list ds.reverse) → Q v (mkS s h' t')) (hd : (x == ("__debug__" : Str)) = false := by decide +kernel) :
    wpAny (model pw w) A (eval (.Subscript (.Name x p1) (.Slice none none (some (.UnaryOp .USub (.Constant (.int 1) c p2) p3)) p4) p5) env) Q E (mkS s h t) := by
  refine Subscript_ (ldS S hm (wpAny_Slice (evalPart_none_step (evalPart_none_step (evalPart_some_step (wpAny_UnaryOp (wpAny_Constant_int (PyProof.Rows.neg_int ?_))))))) hd)
  refine slice3S (t := t + 1 + 1) (es := ds.reverse) S r .none .none (.int (-1) _) (by simp) hz (fun vs ra => ?_) fun h' G' x S' g' r' => k _ _ _ _ S' g' r'
  rw [PySem.W.krv_pick]; simpa using ra.rev
theorem editsRev_w {a : List Ed} (h : ∀ x ∈ a, PyData.strOk x.w = true) : ∀ x ∈ a.reverse, PyData.strOk x.w = true := fun x q => h x (List.mem_reverse.mp q)
/-- list(x), list(y) given to unorderable_list_difference -/
theorem unord2 {L : Addr} {n1 n2 : Str} {p1 p2 p3 p4 p5 p6 p7 p8 : Pos} {v1 v2 : Value} {ds es : List Ed} {Q : Value → Shared → Prop} (S : St w (ENV L) G₀ h₀ own l G h) (h1 : Has l n1 v1) (h2 : Has l n2 v2) (r1 : Rep G v1 (dEds ds)) (r2 : Rep G v2 (dEds es))
    (hds : ds.Nodup) (hes : es.Nodup) (hw : ∀ e ∈ ds, PyData.strOk e.w = true) (hw' : ∀ e ∈ es, PyData.strOk e.w = true) (hzd : ds.length ≤ 60) (hze : es.length ≤ 60) (hh : A.handled = none) (hfr : A.frames = some [ENV L]) (hroom : A.depth + 13 < recursionLimit) (hu : A.units + 490 < cLine)
    (k : ∀ h' G' t' x, St w (ENV L) G₀ h₀ own l G' h' → G.Sub G' → Rep G' x (.tuple [dEds (AloneL ds es).reverse, dEds (AloneL es ds)]) → Q x (mkS s h' t')) (d1 : (n1 == ("__debug__" : Str)) = false := by decide +kernel) (d2 : (n2 == ("__debug__" : Str)) = false := by decide +kernel) :
    wpAny (model pw w) A (eval (.Call (.Name (Str.ofString "unorderable_list_difference") p1) [.Call (.Name (Str.ofString "list") p2) [.Name n1 p3] [] p4, .Call (.Name (Str.ofString "list") p5) [.Name n2 p6] [] p7] [] p8) (ENV L)) Q E (mkS s h t) := by
  refine Call_ (glS S gl_unorderable_list_difference (PyProof.Rows.callWith_def (o := ⟨.type "function", none, .func fd78, #[]⟩) rfl (args_cons (Call_ (biS S nz_list bb_list (PyProof.Rows.callWith_type1 (args_cons (ldS S h1 (args_nil ?_) d1))))))))
  refine copyS S r1 (by rw [List.length_map, sizeLine_eq]; lia) fun h₁ a vs n S₁ ra => ?_
  refine args_cons (Call_ (biS S₁ nz_list bb_list (PyProof.Rows.callWith_type1 (args_cons (ldS S₁ h2 (args_nil ?_) d2)))))
  refine copyS S₁ r2 (by rw [List.length_map, sizeLine_eq]; lia) fun h₂ b ws m S₂ rb => args_nil ⟨S₂.at K78, ?_⟩
  have S₃ := S₂.idx (part := [(b, lstO ws m), (a, lstO vs n)]) (own' := (a, lstO vs n) :: (b, lstO ws m) :: own) [1, 0] (by decide) rfl
  refine unord_spec S₃ ra rb hds hes hw hw' hzd hze hh hfr rfl (by lia) (by lia) fun h₄ G₄ t₄ x S₄ g₄ r₄ => k _ _ _ _ S₄ g₄ ?_
  have e1 : missU ds es 0 = (AloneL ds es).reverse := by unfold missU AloneL; rw [List.drop_zero, List.filter_reverse]
  have e2 : restU ds es 0 = AloneL es ds := by unfold restU AloneL; rw [List.drop_zero]
  rw [e1, e2] at r₄
  exact r₄
set_option maxHeartbeats 4000000 in
theorem law9 {L : Addr} {B O T : List (List Int)} {xb xo xt xr xl xri xm xy xw xe : Value} {l₁ : Value → Loc} {l₂ : Value → Value → Loc} {l₃ : Value → Value → Value → Loc} {Q : Flow → Shared → Prop} (S : St w (ENV L) G₀ h₀ own l G h) (nm : Has l (Str.ofString "mine") xm) (ny : Has l (Str.ofString "yours") xy)
    (s1 : ∀ a, SetTo l (Str.ofString "missing") a (l₁ a)) (s2 : ∀ a b, SetTo (l₁ a) (Str.ofString "beyond") b (l₂ a b)) (s3 : ∀ a b c, SetTo (l₂ a b) (Str.ofString "shared") c (l₃ a b c))
    (h1 : ∀ a b, Has (l₂ a b) (Str.ofString "missing") a) (h2 : ∀ a b, Has (l₂ a b) (Str.ofString "beyond") b) (h3 : ∀ a b, Has (l₂ a b) (Str.ofString "own") xw) (h4 : ∀ a b, Has (l₂ a b) (Str.ofString "other") xe) (h5 : ∀ a b, Has (l₂ a b) (Str.ofString "row") xr)
    (F : LwF G B O T xb xo xt xr xl xri xm xy) (P : BP B O T) (hh : A.handled = none) (hfr : A.frames = some [ENV L]) (hroom : A.depth + 13 < recursionLimit) (hu : A.units + 490 < cLine) (rw : Rep G xw (dEds (AloneL (editsFrom 0 (B.zip O)) (editsFrom 0 (B.zip T))))) (re : Rep G xe (dEds (AloneL (editsFrom 0 (B.zip T)) (editsFrom 0 (B.zip O)))))
    (k : ∀ h' G' t' xmi xbe, St w (ENV L) G₀ h₀ own (l₃ xmi xbe xr) G' h' → G.Sub G' → Rep G' xmi (dEds (AloneL (editsFrom 0 (B.zip O)) (editsFrom 0 (B.zip T))).reverse) → wpAny (model pw w) A (execs (B413 12) (ENV L)) Q E (mkS s h' t')) :
    wpAny (model pw w) A (execs (B413 9) (ENV L)) Q E (mkS s h t) := by
  have z1 := editsFrom_4 (L' := O) P.b4
  have z2 := editsFrom_4 (L' := T) P.b4
  refine seqS (Assign_Tuple (unord2 S (by with_reducible first | assumption | apply h1 | apply h2 | apply h3 | apply h4 | apply h5) (by with_reducible first | assumption | apply h1 | apply h2 | apply h3 | apply h4 | apply h5) F.m F.y (P.p1.sorted 0).nodup (P.p2.sorted 0).nodup editsFrom_w editsFrom_w (by lia) (by lia) hh hfr hroom hu fun h₁ G₁ t₁ x₁ S₁ g₁ r₁ => ?_))
  refine unpackS S₁ r₁ hh (by rfl) (by rfl) fun h₂ vs₂ S₂ r₂ => ?_
  obtain ⟨xa, xc, rfl, ra, rb⟩ := r₂.two
  refine inOrder_cons (wpAny_assign_Name (stS S₂ (by with_reducible first | apply s1 | apply s2 | apply s3) fun h₃ t₃ S₃ => inOrder_cons (wpAny_assign_Name (stS S₃ (by with_reducible first | apply s1 | apply s2 | apply s3) fun h₄ t₄ S₄ => inOrder_nil ?_))))
  have aw : ∀ {d e : List Ed}, (∀ x ∈ d, PyData.strOk x.w = true) → ∀ x ∈ AloneL d e, PyData.strOk x.w = true := AloneL_w
  refine seqS (wpAny_If (isTrue_or (wpAny_isTrue_Compare1 (ldS S₄ (by with_reducible first | assumption | apply h1 | apply h2 | apply h3 | apply h4 | apply h5) (revS S₄ (by with_reducible first | assumption | apply h1 | apply h2 | apply h3 | apply h4 | apply h5) (rw.mono g₁) ?_ fun h₅ G₅ x₅ t₅ S₅ g₅ r₅ => ?_)))))
  · have := AloneL_len (e := editsFrom 0 (B.zip T)) z1
    rw [List.length_map, sizeLine_eq]; lia
  rw [← List.map_reverse] at r₅
  refine neS (n := 3) S₅ (ra.mono g₅) r₅ (nice_eds 0 _ (editsRev_w (aw editsFrom_w))) (nice_eds 0 _ (editsRev_w (aw editsFrom_w))) (by decide) (by lia) fun b hb => wpAny_truthy_bool ?_
  obtain rfl : b = false := by
    cases b with
    | false => rfl
    | true => exact absurd rfl (hb.mp rfl)
  refine ifno rfl ?_
  refine isTrue_or (wpAny_isTrue_Compare1 (ldS S₅ (by with_reducible first | assumption | apply h1 | apply h2 | apply h3 | apply h4 | apply h5) (ldS S₅ (by with_reducible first | assumption | apply h1 | apply h2 | apply h3 | apply h4 | apply h5) ?_)))
  refine neS (n := 3) S₅ (rb.mono g₅) (re.mono (g₁.trans g₅)) (nice_eds 0 _ (aw editsFrom_w)) (nice_eds 0 _ (aw editsFrom_w)) (by decide) (by lia) fun b hb => wpAny_truthy_bool ?_
  obtain rfl : b = false := by
    cases b with
    | false => rfl
    | true => exact absurd rfl (hb.mp rfl)
  refine ifno rfl ?_
  refine isTrue_or_nil ?_
  refine ifno rfl ?_
  refine wpAny_execs_nil ?_
  refine seqS (setS (ldS S₅ (by with_reducible first | assumption | apply h1 | apply h2 | apply h3 | apply h4 | apply h5) (stS S₅ (by with_reducible first | apply s1 | apply s2 | apply s3) fun h₆ t₆ S₆ => ?_)))
  exact k _ _ _ _ _ S₆ (g₁.trans g₅) (ra.mono g₅)
end
/-- the loop that lays the common edits in -/
inductive J12 (G₁ : Store) (own : List (Addr × Obj)) (B O T : List (List Int)) (lc : Value → Option Value → Option Value → Option Value → Option Value → Loc) (c : Nat) (G' : Store) (l : Loc) (own' : List (Addr × Obj)) : Prop
  | mk (gs : G₁.Sub G') (ho : own' = own) (xsh : Value) (iv jv wv cv : Option Value) (rsh : Rep G' xsh (dInts (((editsFrom 0 (B.zip O)).reverse.take c).foldl (layIf (editsFrom 0 (B.zip T))) (rowFrom 0 B))))
      (lsh : (((editsFrom 0 (B.zip O)).reverse.take c).foldl (layIf (editsFrom 0 (B.zip T))) (rowFrom 0 B)).length ≤ 60 + 8 * c)
      (hl : l = lc xsh iv jv wv cv)
section
variable {w : World} {env : Env} {G₀ G : Store} {h₀ h : Heap} {own : List (Addr × Obj)} {l : Loc} {A : Around} {E : Value → Shared → Prop} {s : Shared} {t : Nat}

set_option maxHeartbeats 4000000 in
theorem law12 {L : Addr} {B O T : List (List Int)} {xb xo xt xr xl xri xm xy xmi : Value} {Q : Flow → Shared → Prop} (lc : Value → Option Value → Option Value → Option Value → Option Value → Loc)
    (q1 : ∀ x a b c d, Has (lc x a b c d) (Str.ofString "shared") x) (q2 : ∀ x v b c d, Has (lc x (some v) b c d) (Str.ofString "i") v) (q3 : ∀ x a v c d, Has (lc x a (some v) c d) (Str.ofString "j") v)
    (q4 : ∀ x a b v d, Has (lc x a b (some v) d) (Str.ofString "word") v) (q5 : ∀ x a b c v, Has (lc x a b c (some v)) (Str.ofString "come") v) (q6 : ∀ x a b c d, Has (lc x a b c d) (Str.ofString "missing") xmi) (q7 : ∀ x a b c d, Has (lc x a b c d) (Str.ofString "mine") xm)
    (ss : ∀ x a b c d v, SetTo (lc x a b c d) (Str.ofString "shared") v (lc v a b c d)) (si : ∀ x a b c d v, SetTo (lc x a b c d) (Str.ofString "i") v (lc x (some v) b c d)) (sj : ∀ x a b c d v, SetTo (lc x a b c d) (Str.ofString "j") v (lc x a (some v) c d))
    (sw : ∀ x a b c d v, SetTo (lc x a b c d) (Str.ofString "word") v (lc x a b (some v) d)) (sc : ∀ x a b c d v, SetTo (lc x a b c d) (Str.ofString "come") v (lc x a b c (some v)))
    (S : St w (ENV L) G₀ h₀ own (lc xr none none none none) G h)
    (F : LwF G B O T xb xo xt xr xl xri xm xy) (P : BP B O T) (hh : A.handled = none) (hfr : A.frames = some [ENV L]) (hroom : A.depth + 13 < recursionLimit) (hu : A.units + 490 < cLine) (rm : Rep G xmi (dEds (AloneL (editsFrom 0 (B.zip O)) (editsFrom 0 (B.zip T))).reverse))
    (k : ∀ h' G' t' xsh iv jv wv cv, St w (ENV L) G₀ h₀ own (lc xsh iv jv wv cv) G' h' → G.Sub G' → Rep G' xsh (dInts (rowFrom 0 (midL O T B))) → wpAny (model pw w) A (execs (B413 13) (ENV L)) Q E (mkS s h' t')) :
    wpAny (model pw w) A (execs (B413 12) (ENV L)) Q E (mkS s h t) := by
  have z1 := editsFrom_4 (L' := O) P.b4
  refine seqS (for_ (revS S (by with_reducible first | apply q1 | apply q2 | apply q3 | apply q4 | apply q5 | apply q6 | apply q7) F.m (by rw [List.length_map, sizeLine_eq]; lia) fun h₁ G₁ x₁ t₁ S₁ g₁ r₁ => ?_))
  rw [← List.map_reverse] at r₁
  refine iterAllS S₁ r₁ fun h₂ p it Part I hP S₂ _ => ?_
  have hlen : ((editsFrom 0 (B.zip O)).reverse.map dEd).length = (editsFrom 0 (B.zip O)).length := by simp
  rw [hlen] at I
  refine for_iterQ (G₁ := G₁) (I _) hh (J12 G₁ own B O T lc) ?_ ?_ ?_ _ 0 rfl (Nat.zero_le _) hP ⟨Store.Sub.refl _, rfl, xr, none, none, none, none, F.r.mono g₁, rowFrom_small P.p1.smallB P.b4, rfl⟩ S₂ (Store.Sub.refl _)
  · rintro Q' c hc p G' l own' hz tz vv hPk ⟨gs, hown, xsh, iv, jv, wv, cv, rsh, lsh, rfl⟩ ⟨d, hd, rv⟩ S₃ hG nx - -
    subst hown
    have hlt : c < (editsFrom 0 (B.zip O)).reverse.length := by simpa using hc
    rw [List.getElem?_map, List.getElem?_eq_getElem hlt] at hd
    obtain rfl := Option.some.inj hd
    have htk := take_snoc (List.getElem?_eq_getElem hlt)
    have hem : (editsFrom 0 (B.zip O)).reverse[c] ∈ editsFrom 0 (B.zip O) := List.mem_reverse.mp (List.getElem_mem hlt)
    have hfd : ((editsFrom 0 (B.zip O)).reverse.take (c + 1)).foldl (layIf (editsFrom 0 (B.zip T))) (rowFrom 0 B) = layIf (editsFrom 0 (B.zip T)) (((editsFrom 0 (B.zip O)).reverse.take c).foldl (layIf (editsFrom 0 (B.zip T))) (rowFrom 0 B)) (editsFrom 0 (B.zip O)).reverse[c] := by rw [htk, List.foldl_append, List.foldl_cons, List.foldl_nil]
    generalize (editsFrom 0 (B.zip O)).reverse[c] = e at *
    generalize ((editsFrom 0 (B.zip O)).reverse.take c).foldl (layIf (editsFrom 0 (B.zip T))) (rowFrom 0 B) = row at *
    have he := editsFrom_ok _ 0 (Int.le_refl _) e hem
    have hij := editsFrom_ij _ 0 e hem
    have hec : e.c.length ≤ 8 := editsFrom_c _ 0 (fun p hp => P.p1.w8 _ (List.of_mem_zip hp).2) e hem
    refine unpackS S₃ rv hh (by rfl) (by rfl) fun h₄ vs₄ S₄ r₄ => ?_
    obtain ⟨xa, xb', xc, xd, rfl, ra, rb, rc, rd⟩ := r₄.four
    refine inOrder_cons (wpAny_assign_Name (stS S₄ (by with_reducible first | apply si | apply sj | apply sw | apply sc | apply ss) fun h₅ t₅ S₅ => inOrder_cons (wpAny_assign_Name (stS S₅ (by with_reducible first | apply si | apply sj | apply sw | apply sc | apply ss) fun h₆ t₆ S₆ => inOrder_cons (wpAny_assign_Name (stS S₆ (by with_reducible first | apply si | apply sj | apply sw | apply sc | apply ss) fun h₇ t₇ S₇ => inOrder_cons (wpAny_assign_Name (stS S₇ (by with_reducible first | apply si | apply sj | apply sw | apply sc | apply ss) fun h₈ t₈ S₈ => inOrder_nil ?_))))))))
    refine seqS (wpAny_If (wpAny_isTrue_Compare1 (Tuple_ (args_cons (ldS S₈ (by with_reducible first | apply q1 | apply q2 | apply q3 | apply q4 | apply q5 | apply q6 | apply q7) (args_cons (ldS S₈ (by with_reducible first | apply q1 | apply q2 | apply q3 | apply q4 | apply q5 | apply q6 | apply q7) (args_cons (ldS S₈ (by with_reducible first | apply q1 | apply q2 | apply q3 | apply q4 | apply q5 | apply q6 | apply q7) (args_cons (ldS S₈ (by with_reducible first | apply q1 | apply q2 | apply q3 | apply q4 | apply q5 | apply q6 | apply q7) (args_nil ?_))))))))))))
    refine tupS S₈ (ds := [.int e.i, .int e.j, .str e.w, dInts e.c]) (.cons ra (.cons rb (.cons rc (.cons rd .nil)))) fun h₉ G₉ x₉ S₉ g₉ r₉ => ldS S₉ (by with_reducible first | apply q1 | apply q2 | apply q3 | apply q4 | apply q5 | apply q6 | apply q7) ?_
    have g9 := g₁.trans (gs.trans g₉)
    refine notInS S₉ (rm.mono g9) r₉ he.1 (editsRev_w (AloneL_w editsFrom_w)) (by lia) (wpAny_truthy_bool ?_)
    by_cases hin : e ∈ editsFrom 0 (B.zip T)
    · have hmem : decide (e ∉ (AloneL (editsFrom 0 (B.zip O)) (editsFrom 0 (B.zip T))).reverse) = true := by
        rw [decide_eq_true_eq, List.mem_reverse]
        intro q
        have := (List.mem_filter.mp q).2
        simp only [decide_eq_true_eq] at this
        exact this hin
      refine ifso (by rw [hmem] <;> rfl) ?_
      obtain ⟨ta, rfl⟩ := ra.intv
      obtain ⟨tb, rfl⟩ := rb.intv
      refine seqS (setS (wpAny_BinOp (wpAny_BinOp (takeN S₉ (by with_reducible first | apply q1 | apply q2 | apply q3 | apply q4 | apply q5 | apply q6 | apply q7) (by with_reducible first | apply q1 | apply q2 | apply q3 | apply q4 | apply q5 | apply q6 | apply q7) (rsh.mono g₉) he.2.1 (by rw [sizeLine_eq]; lia) fun h₁₀ G₁₀ x₁₀ t₁₀ S₁₀ g₁₀ r₁₀ => ldS S₁₀ (by with_reducible first | apply q1 | apply q2 | apply q3 | apply q4 | apply q5 | apply q6 | apply q7) ?_))))
      refine addListS S₁₀ r₁₀ (rd.mono (g₉.trans g₁₀)) ?_ fun h₁₁ G₁₁ x₁₁ S₁₁ g₁₁ r₁₁ => ?_
      · rw [List.length_map, List.length_map, List.length_take, sizeLine_eq]; exact Nat.le_trans (Nat.add_le_add (Nat.min_le_right _ _) hec) (by lia)
      have g11 := g₉.trans (g₁₀.trans g₁₁)
      refine dropN S₁₁ (by with_reducible first | apply q1 | apply q2 | apply q3 | apply q4 | apply q5 | apply q6 | apply q7) (by with_reducible first | apply q1 | apply q2 | apply q3 | apply q4 | apply q5 | apply q6 | apply q7) (rsh.mono g11) he.2.2 (by rw [sizeLine_eq]; lia) fun h₁₂ G₁₂ x₁₂ t₁₂ S₁₂ g₁₂ r₁₂ => ?_
      rw [← List.map_append] at r₁₁
      refine addListS S₁₂ (r₁₁.mono g₁₂) r₁₂ ?_ fun h₁₃ G₁₃ x₁₃ S₁₃ g₁₃ r₁₃ => stS S₁₃ (by with_reducible first | apply si | apply sj | apply sw | apply sc | apply ss) fun h₁₄ t₁₄ S₁₄ => ?_
      · rw [List.length_map, List.length_map, List.length_append, List.length_take, List.length_drop, sizeLine_eq]; exact Nat.le_trans (cutLen (Int.toNat_le_toNat hij) hec) (by lia)
      rw [← List.map_append] at r₁₃
      refine wpAny_execs_nil (wpAny_execs_nil (nx S₁₄ (gs.trans (g11.trans (g₁₂.trans g₁₃))) ⟨gs.trans (g11.trans (g₁₂.trans g₁₃)), rfl, _, _, _, _, _, ?_, ?_, rfl⟩).1)
      · rw [hfd, layIf, if_pos hin]; exact r₁₃
      · rw [hfd, layIf, if_pos hin]
        have := layE_len (row := row) he.2.1 hij hec
        lia
    · have hmem : decide (e ∉ (AloneL (editsFrom 0 (B.zip O)) (editsFrom 0 (B.zip T))).reverse) = false := by
        rw [decide_eq_false_iff_not, List.mem_reverse]
        intro q
        exact q (List.mem_filter.mpr ⟨hem, by simpa using hin⟩)
      refine ifno (by rw [hmem] <;> rfl) ?_
      refine wpAny_execs_nil (wpAny_execs_nil (nx S₉ (gs.trans g₉) ⟨gs.trans g₉, rfl, _, _, _, _, _, ?_, ?_, rfl⟩).1)
      · rw [hfd, layIf, if_neg hin]; exact rsh.mono g₉
      · rw [hfd, layIf, if_neg hin]; lia
  · rintro c G' G'' l own' ⟨gs, hown, xsh, iv, jv, wv, cv, rsh, lsh, rfl⟩ g
    exact ⟨gs.trans g, hown, xsh, iv, jv, wv, cv, rsh.mono g, lsh, rfl⟩
  · rintro G' l own' hz tz ⟨gs, hown, xsh, iv, jv, wv, cv, rsh, lsh, rfl⟩ S₃ hG
    subst hown
    rw [List.take_of_length_le (by simp), laid_mid P] at rsh
    exact k _ _ _ _ _ _ _ _ S₃ (g₁.trans gs) rsh
end
section
variable {w : World} {env : Env} {G₀ G : Store} {h₀ h : Heap} {own : List (Addr × Obj)} {l : Loc} {A : Around} {E : Value → Shared → Prop} {s : Shared} {t : Nat}

/-- y = [ELT for a, b, c in zip(..)] -/
theorem zipCompU {yn : Str} {py pos0 : Pos} {l₂ : Value → Loc} {elt : PySem.Expr} {f : List Int → List Int → List Int → List Int} {x y z : Str} {scope : Scope} {vx vy vz : Value} {as bs cs : List (List Int)} {n : Nat} {pa pb pc pt pz px py' pq pp pos : Pos} {Q : Flow → Shared → Prop}
    (hset : ∀ v, SetTo l yn v (l₂ v))
    (S : St w env G₀ h₀ own l G h) (hx : Has l x vx) (hy : Has l y vy) (hz : Has l z vz) (rx : Rep G vx (.list (as.map dInts))) (ry : Rep G vy (.list (bs.map dInts))) (rz : Rep G vz (.list (cs.map dInts)))
    (ha : as.length = n) (hb : bs.length = n) (hc : cs.length = n) (hn : n ≤ 1000) (hh : A.handled = none)
    (hfree : ∀ x ∈ scope.names, x.2 ≠ .free) (hkind : scope.kind = .function) (hnames : ∀ x ∈ scope.names, x.2 = .local → scope.names.lookup x.1 = some .local)
    (hok : ((([nA, nB, nC]).all fun n => decide (scope.names.lookup n = some .local)) && decide ([nA, nB, nC] : List Str).Nodup && decide (scope.kind = .function)) = true) (hcell : ∀ x ∈ scope.names, x.2 ≠ .cell)
    (hzip : env.kindOf (Str.ofString "zip") = some .globalImplicit) (dx : (x == ("__debug__" : Str)) = false) (dy : (y == ("__debug__" : Str)) = false) (dz : (z == ("__debug__" : Str)) = false)
    (hsw : swapsWith (.ListComp elt [⟨.Tuple [.Name nA pa, .Name nB pb, .Name nC pc] 0 pt, .Call (.Name (Str.ofString "zip") pz) [.Name x px, .Name y py', .Name z pq] [] pp, [], 0⟩] scope pos) (some (.Name yn py)) pos0.line env = pure true)
    (helt : ∀ {env' : Env} {G₁ G₂ : Store} {h₁ h₂ : Heap} {own₁ : List (Addr × Obj)} {t₂ : Nat} {a b c : List Int} {va vb vc : Value}, St w env' G₁ h₁ own₁ [(nA, some va), (nB, some vb), (nC, some vc)] G₂ h₂ →
      Rep G₂ va (dInts a) → Rep G₂ vb (dInts b) → Rep G₂ vc (dInts c) → wpAny (model pw w) A (eval elt env') (fun v s' => s' = mkS s h₂ t₂ ∧ Rep G₂ v (dInts (f a b c))) E0 (mkS s h₂ t₂))
    (k : ∀ h' G' v t', St w env G₀ h₀ own (l₂ v) G' h' → G.Sub G' → Rep G' v (.list ((zip3With f as bs cs).map dInts)) → Q .next (mkS s h' t')) :
    wpAny (model pw w) A (exec (.Assign [.Name yn py] (.ListComp elt [⟨.Tuple [.Name nA pa, .Name nB pb, .Name nC pc] 0 pt, .Call (.Name (Str.ofString "zip") pz) [.Name x px, .Name y py', .Name z pq] [] pp, [], 0⟩] scope pos) pos0) env) Q E (mkS s h t) := by
  refine assignComp hsw hfree hkind hnames (Call_ (biS S nz_zip bb_zip (PyProof.Rows.callWith_type1 (args_cons (ldS S hx (args_cons (ldS S hy (args_cons (ldS S hz (args_nil ?_) dz)) dy)) dx))) hzip))
  refine zip3S (elts := [.Name nA pa, .Name nB pb, .Name nC pc]) (x1 := 0) (pos := pt) (n := n) S rx ry rz (by simpa using ha) (by simpa using hb) (by simpa using hc) fun h₁ p it Part I hP S₁ hag => ?_
  refine compTailU (names := [nA, nB, nC]) (l₂ := l₂) hset (dat := fun i => dInts (f (as.getD i []) (bs.getD i []) (cs.getD i []))) I hh (Store.Sub.refl _) hP S₁ hn hag hok hcell (zipTurn ha hb hc hh helt) fun h' G' v t' S' g' r' => ?_
  rw [zip3With_get f n as bs cs ha hb hc] at r'
  exact k _ _ _ _ S' g' r'
theorem AloneL_all {d e : List Ed} (h : ∀ x ∈ d, x ∉ e) : AloneL d e = d := List.filter_eq_self.mpr fun x hx => by simpa using h x hx
set_option maxHeartbeats 4000000 in
theorem law13 {L : Addr} {B O T : List (List Int)} {xb xo xt xr xl xri xm xy xsh : Value} {l₁ : Value → Loc} {l₂ : Value → Value → Loc} {l₃ : Value → Value → Value → Loc} {Q : Flow → Shared → Prop} (S : St w (ENV L) G₀ h₀ own l G h)
    (no : Has l (Str.ofString "ours") xo) (nt : Has l (Str.ofString "theirs") xt) (nb : Has l (Str.ofString "base") xb) (s1 : ∀ a, SetTo l (Str.ofString "middle") a (l₁ a)) (s2 : ∀ a c, SetTo (l₁ a) (Str.ofString "there") c (l₂ a c)) (s3 : ∀ a b c, SetTo (l₂ a c) (Str.ofString "here") b (l₃ a b c))
    (h1 : ∀ a, Has (l₁ a) (Str.ofString "shared") xsh) (h2 : ∀ a, Has (l₁ a) (Str.ofString "left") xl) (h3 : ∀ a, Has (l₁ a) (Str.ofString "right") xri)
    (h4 : ∀ a b c, Has (l₃ a b c) (Str.ofString "here") b) (h5 : ∀ a b c, Has (l₃ a b c) (Str.ofString "there") c) (h6 : ∀ a b c, Has (l₃ a b c) (Str.ofString "middle") a) (h7 : ∀ a b c, Has (l₃ a b c) (Str.ofString "ours") xo) (h8 : ∀ a b c, Has (l₃ a b c) (Str.ofString "theirs") xt)
    (F : LwF G B O T xb xo xt xr xl xri xm xy) (P : BP B O T) (hh : A.handled = none) (hfr : A.frames = some [ENV L]) (hroom : A.depth + 13 < recursionLimit) (hu : A.units + 490 < cLine) (rs : Rep G xsh (dInts (rowFrom 0 (midL O T B))))
    (k : ∀ h' G' t' lz, St w (ENV L) G₀ h₀ own lz G' h' → G.Sub G' → Q (.ret (.bool true)) (mkS s h' t')) :
    wpAny (model pw w) A (execs (B413 13) (ENV L)) Q E (mkS s h t) := by
  have hk : (ENV L).kindOf (Str.ofString "zip") = some .globalImplicit := by kernel_rfl!
  obtain ⟨M1, M2, -⟩ := P.p1.mid P.p2
  have m4 : (midL O T B).length = 4 := zip3With_len _ P.o4 P.t4 P.b4
  refine seqS (zipCompU (n := 4) (f := fun x y z => if x = y then x else z) (l₂ := l₁) s1 S (by with_reducible first | assumption | apply h1 | apply h2 | apply h3 | apply h4 | apply h5 | apply h6 | apply h7 | apply h8) (by with_reducible first | assumption | apply h1 | apply h2 | apply h3 | apply h4 | apply h5 | apply h6 | apply h7 | apply h8) (by with_reducible first | assumption | apply h1 | apply h2 | apply h3 | apply h4 | apply h5 | apply h6 | apply h7 | apply h8) F.o F.t F.b P.o4 P.t4 P.b4 (by decide) hh (by decide +kernel) (by decide +kernel) (by decide +kernel) (by decide +kernel) (by decide +kernel) hk (by decide +kernel) (by decide +kernel) (by decide +kernel) (by kernel_rfl!) ?_ fun h₁ G₁ xmd t₁ S₁ g₁ r₁ => ?_)
  · intro env' G₁ G₂ h₁ h₂ own₁ t₂ a b c va vb vc S ra rb rc
    refine wpAny_IfExp (wpAny_isTrue_Compare1 (ldS S .head (ldS S (.tail .head) (eqS (n := 1) S ra rb (nice_ints 0 _) (nice_ints 0 _) (by decide) (by lia) fun q hq => wpAny_truthy_bool ?_))))
    by_cases e : a = b
    · subst e
      obtain rfl : q = true := hq.mpr rfl
      refine ifso rfl ?_
      exact ldS S .head ⟨rfl, by simpa using ra⟩
    · obtain rfl : q = false := by
        cases q with
        | false => rfl
        | true => exact absurd (dInts_inj.mp (hq.mp rfl)) e
      refine ifno rfl ?_
      exact ldS S (.tail (.tail .head)) ⟨rfl, by simpa [e] using rc⟩
  have rM : Rep G₁ xmd (.list ((midL O T B).map dInts)) := r₁
  refine seqS (Assign_Tuple_swapped (names := [Str.ofString "here", Str.ofString "there"]) (Tuple_ (args_cons (Call_ (glS S₁ gl_law_told (PyProof.Rows.callWith_def (o := ⟨.type "function", none, .func fd403, #[]⟩) rfl (args_cons (ldS S₁ (by with_reducible first | assumption | apply h1 | apply h2 | apply h3 | apply h4 | apply h5 | apply h6 | apply h7 | apply h8) (args_cons (ldS S₁ (by with_reducible first | assumption | apply h1 | apply h2 | apply h3 | apply h4 | apply h5 | apply h6 | apply h7 | apply h8) (args_nil ⟨S₁.at K403, ?_⟩)))))))))))
  refine told_spec S₁ (rs.mono g₁) (F.l.mono g₁) M1.nodup.2 (rowFrom_small M1.smallB m4) (rowFrom_small M1.small P.o4) M1.spec.mono hh (by lia) (by lia) fun h₂ G₂ t₂ xh N₁ S₂ g₂ r₂ n₁ p₁ => ?_
  rw [M1.told n₁ p₁] at r₂
  have g2 := g₁.trans g₂
  refine args_cons (Call_ (glS S₂ gl_law_told (PyProof.Rows.callWith_def (o := ⟨.type "function", none, .func fd403, #[]⟩) rfl (args_cons (ldS S₂ (by with_reducible first | assumption | apply h1 | apply h2 | apply h3 | apply h4 | apply h5 | apply h6 | apply h7 | apply h8) (args_cons (ldS S₂ (by with_reducible first | assumption | apply h1 | apply h2 | apply h3 | apply h4 | apply h5 | apply h6 | apply h7 | apply h8) (args_nil ⟨S₂.at K403, ?_⟩))))))))
  refine told_spec S₂ (rs.mono g2) (F.ri.mono g2) M2.nodup.2 (rowFrom_small M2.smallB m4) (rowFrom_small M2.small P.t4) M2.spec.mono hh (by lia) (by lia) fun h₃ G₃ t₃ xth N₂ S₃ g₃ r₃ n₂ p₂ => args_nil ?_
  rw [M2.told n₂ p₂] at r₃
  have g3 := g2.trans g₃
  refine tupUnpack S₃ hh rfl fun h₄ S₄ => ?_
  refine inOrder_cons (bindS S₄ (by with_reducible first | apply s2 | apply s3) fun h₅ t₅ S₅ => inOrder_cons (bindS S₅ (by with_reducible first | apply s2 | apply s3) fun h₆ t₆ S₆ => inOrder_nil ?_))
  have z1 := editsFrom_4 (L' := O) m4
  have z2 := editsFrom_4 (L' := T) m4
  have rH := r₂.mono g₃
  refine seqS (wpAny_If (isTrue_or (wpAny_isTrue_Compare1 (ldS S₆ (by with_reducible first | assumption | apply h1 | apply h2 | apply h3 | apply h4 | apply h5 | apply h6 | apply h7 | apply h8) (Call_ (glS S₆ gl_law_edits (PyProof.Rows.callWith_def (o := ⟨.type "function", none, .func fd398, #[]⟩) rfl (args_cons (ldS S₆ (by with_reducible first | assumption | apply h1 | apply h2 | apply h3 | apply h4 | apply h5 | apply h6 | apply h7 | apply h8) (args_cons (ldS S₆ (by with_reducible first | assumption | apply h1 | apply h2 | apply h3 | apply h4 | apply h5 | apply h6 | apply h7 | apply h8) (args_nil ⟨S₆.at K398, ?_⟩))))))))))))
  refine edits_spec S₆ (rM.mono (g₂.trans g₃)) (F.o.mono g3) m4 P.o4 M1.b8 M1.w8 hh (by lia) (by lia) fun v₇ G₇ h₇ t₇ S₇ g₇ r₇ => ?_
  refine neS (n := 3) S₇ (rH.mono g₇) r₇ (nice_eds 0 _ editsFrom_w) (nice_eds 0 _ editsFrom_w) (by decide) (by lia) fun b hb => wpAny_truthy_bool ?_
  obtain rfl : b = false := by
    cases b with
    | false => rfl
    | true => exact absurd rfl (hb.mp rfl)
  refine ifno rfl ?_
  refine isTrue_or (wpAny_isTrue_Compare1 (ldS S₇ (by with_reducible first | assumption | apply h1 | apply h2 | apply h3 | apply h4 | apply h5 | apply h6 | apply h7 | apply h8) (Call_ (glS S₇ gl_law_edits (PyProof.Rows.callWith_def (o := ⟨.type "function", none, .func fd398, #[]⟩) rfl (args_cons (ldS S₇ (by with_reducible first | assumption | apply h1 | apply h2 | apply h3 | apply h4 | apply h5 | apply h6 | apply h7 | apply h8) (args_cons (ldS S₇ (by with_reducible first | assumption | apply h1 | apply h2 | apply h3 | apply h4 | apply h5 | apply h6 | apply h7 | apply h8) (args_nil ⟨S₇.at K398, ?_⟩))))))))))
  refine edits_spec S₇ (rM.mono (g₂.trans (g₃.trans g₇))) (F.t.mono (g3.trans g₇)) m4 P.t4 M2.b8 M2.w8 hh (by lia) (by lia) fun v₈ G₈ h₈ t₈ S₈ g₈ r₈ => ?_
  have g8 := g₇.trans g₈
  refine neS (n := 3) S₈ (r₃.mono g8) r₈ (nice_eds 0 _ editsFrom_w) (nice_eds 0 _ editsFrom_w) (by decide) (by lia) fun b hb => wpAny_truthy_bool ?_
  obtain rfl : b = false := by
    cases b with
    | false => rfl
    | true => exact absurd rfl (hb.mp rfl)
  refine ifno rfl ?_
  refine isTrue_or_nil ?_
  refine ifno rfl ?_
  refine wpAny_execs_nil ?_
  refine seqS (wpAny_Return_some (wpAny_Compare1 ?_))
  refine unord2 S₈ (by with_reducible first | assumption | apply h1 | apply h2 | apply h3 | apply h4 | apply h5 | apply h6 | apply h7 | apply h8) (by with_reducible first | assumption | apply h1 | apply h2 | apply h3 | apply h4 | apply h5 | apply h6 | apply h7 | apply h8) (rH.mono g8) (r₃.mono g8) (M1.sorted 0).nodup (M2.sorted 0).nodup editsFrom_w editsFrom_w (by lia) (by lia) hh hfr hroom hu fun h₉ G₉ t₉ x₉ S₉ g₉ r₉ => ?_
  rw [AloneL_all (P.p1.apart P.p2 0), AloneL_all (fun x hx hq => P.p1.apart P.p2 0 x hq hx)] at r₉
  have g9 := g8.trans g₉
  refine Tuple_ (args_cons (revS S₉ (by with_reducible first | assumption | apply h1 | apply h2 | apply h3 | apply h4 | apply h5 | apply h6 | apply h7 | apply h8) (rH.mono g9) (by rw [List.length_map, sizeLine_eq]; lia) fun h₁₀ G₁₀ x₁₀ t₁₀ S₁₀ g₁₀ r₁₀ => args_cons (ldS S₁₀ (by with_reducible first | assumption | apply h1 | apply h2 | apply h3 | apply h4 | apply h5 | apply h6 | apply h7 | apply h8) (args_nil ?_))))
  rw [← List.map_reverse] at r₁₀
  refine tupS S₁₀ (ds := [dEds (editsFrom 0 ((midL O T B).zip O)).reverse, dEds (editsFrom 0 ((midL O T B).zip T))]) (.cons r₁₀ (.cons (r₃.mono (g9.trans g₁₀)) .nil)) fun h₁₁ G₁₁ x₁₁ S₁₁ g₁₁ r₁₁ => ?_
  refine eqS (n := 4) S₁₁ (r₉.mono (g₁₀.trans g₁₁)) r₁₁ (nice_pair (editsRev_w editsFrom_w) editsFrom_w) (nice_pair (editsRev_w editsFrom_w) editsFrom_w) (by decide) (by lia) fun b hb => ?_
  obtain rfl : b = true := hb.mpr rfl
  exact k _ _ _ _ S₁₁ (g3.trans (g9.trans (g₁₀.trans g₁₁)))
end
section
variable {w : World} {env : Env} {G₀ G : Store} {h₀ h : Heap} {own : List (Addr × Obj)} {l : Loc} {A : Around} {E : Value → Shared → Prop} {s : Shared} {t : Nat}
/-- the first call of all -/
theorem callB' {f : Addr} {fd : FuncData} {body : List Stmt} {args : List Value} {binds : List (Str × Value)} {names : List Str} {l₁ : Loc} {Q : Value → Shared → Prop}
    (b : Bs w s.heap) (gi : G.In s.heap) (hK : ∀ P, (K P).lookup f = some ⟨.type "function", none, .func fd, #[]⟩) (hcd : ∀ P, codeIn (K P) fd.code fd.qualname = true)
    (hbody : fd.body = .stmts body) (hbind : bindArgs fd ⟨args, []⟩ = pure binds) (hB : BindTo (names.map fun n => (n, none)) binds l₁)
    (hok : ((names.all fun n => decide (fd.scope.names.lookup n = some .local)) && decide names.Nodup && (fd.scope.names.all fun x => decide (x.2 ≠ .cell)) && decide (fd.scope.kind = .function) && decide (fd.globals = mainGlobals) && decide (fd.builtins = builtinsNs) && (!fd.scope.isCoroutine) && (!fd.scope.isGenerator)) = true)
    (hroom : A.depth < recursionLimit)
    (k : ∀ h₁ t₁, St w (callEnv fd s.heap.objs.size f) G s.heap [] l₁ G h₁ →
      wpAny (model pw w) (A.deeper (callEnv fd s.heap.objs.size f)) (execs body (callEnv fd s.heap.objs.size f)) (fun fl s' => Q (retV fl) s') E0 (mkS s h₁ t₁)) :
    wpAny (model pw w) A (call (.ref f) args) Q E s :=
  callB b gi hK hcd hbody hbind hB hok hroom fun h₁ S₁ => wpAny_mono (k h₁ _ S₁) (fun fl s' q v e => e ▸ (by cases fl <;> exact q)) fun _ _ x => x
theorem law_calls {v : Value} {ns : List Int} {Q : Value → Shared → Prop} (b : Bs w s.heap) (gi : G.In s.heap) (hp : Rep G v (dInts ns)) (hl : ns.length ≤ 1000)
    (k : ∀ h' t', (∀ b o, s.heap.get? b = some o → h'.get? b = some o) → Q (.bool true) (mkS s h' t')) :
    wpAny (model pw w) callerA (call (.ref 413) [v]) Q E s := by
  refine callB' (names := n413) (l₁ := LW (some v) none none none none none none none none none none none none none none none none none none none none none) b gi K413 C413 rfl (by rfl) (.cons .head .nil) (by decide +kernel) (by decide +kernel) fun h₁ t₁ S₁ => ?_
  have hh : (callerA.deeper (ENV s.heap.objs.size)).handled = none := rfl
  have hfr : (callerA.deeper (ENV s.heap.objs.size)).frames = some [ENV s.heap.objs.size] := rfl
  have hroom : (callerA.deeper (ENV s.heap.objs.size)).depth + 13 < recursionLimit := by show callerA.depth + 1 + 13 < _; decide +kernel
  have hu : (callerA.deeper (ENV s.heap.objs.size)).units + 490 < cLine := by show callerA.units + 3 + 490 < _; decide +kernel
  have P : BP (baseL ns 4) (oursL ns 4) (theirsL ns 4) := ⟨(hands_pl ns).1, (hands_pl ns).2, by simp [baseL], by simp [oursL], by simp [theirsL]⟩
  refine law0 S₁ hp hl hh hroom hu fun h₂ G₂ t₂ xb xo xt xr xl xri xm xy S₂ g₂ F₂ => ?_
  refine law3 S₂ (by walk_at "mem") (by walk_at "mem") (by walk_at "mem") (by walk_at "mem") (by walk_at "mem") F₂ P hh hroom hu fun h₃ G₃ t₃ S₃ g₃ => ?_
  refine law4 (l₁ := fun a => LW (some v) (some xb) (some xo) (some xt) (some xr) (some xl) (some xri) (some xm) (some xy) (some a) none none none none none none none none none none none none) (l₂ := fun a b => LW (some v) (some xb) (some xo) (some xt) (some xr) (some xl) (some xri) (some xm) (some xy) (some a) (some b) none none none none none none none none none none none) S₃ (by walk_at "mem") (by walk_at "mem") (by walk_at "mem") (fun _ => by walk_at "set") (fun _ _ => by walk_at "set") (fun _ => by walk_at "mem") (fun _ => by walk_at "mem") (fun _ => by walk_at "mem") (F₂.mono g₃) P hh hroom hu fun h₄ G₄ t₄ xw xe S₄ g₄ rw₄ re₄ => ?_
  have F₄ := F₂.mono (g₃.trans g₄)
  refine law6 S₄ (by walk_at "mem") (by walk_at "mem") (by walk_at "mem") (by walk_at "mem") F₄ P hh hfr hroom hu rw₄ re₄ fun h₅ G₅ t₅ S₅ g₅ => ?_
  refine law7 (l₂ := fun x => LW (some v) (some xb) (some xo) (some xt) (some xr) (some xl) (some xri) (some xm) (some xy) (some xw) (some xe) (some x) none none none none none none none none none none) S₅ (by walk_at "mem") (by walk_at "mem") (fun _ => by walk_at "set") (fun _ => by walk_at "mem") (fun _ => by walk_at "mem") (fun _ => by walk_at "mem") (F₄.mono g₅) P hh hfr hroom hu (rw₄.mono g₅) (re₄.mono g₅) fun h₆ G₆ t₆ xs S₆ g₆ => ?_
  have g6 := g₅.trans g₆
  refine law9 (l₁ := fun a => LW (some v) (some xb) (some xo) (some xt) (some xr) (some xl) (some xri) (some xm) (some xy) (some xw) (some xe) (some xs) (some a) none none none none none none none none none) (l₂ := fun a b => LW (some v) (some xb) (some xo) (some xt) (some xr) (some xl) (some xri) (some xm) (some xy) (some xw) (some xe) (some xs) (some a) (some b) none none none none none none none none) (l₃ := fun a b c => LW (some v) (some xb) (some xo) (some xt) (some xr) (some xl) (some xri) (some xm) (some xy) (some xw) (some xe) (some xs) (some a) (some b) (some c) none none none none none none none) S₆ (by walk_at "mem") (by walk_at "mem") (fun _ => by walk_at "set") (fun _ _ => by walk_at "set") (fun _ _ _ => by walk_at "set") (fun _ _ => by walk_at "mem") (fun _ _ => by walk_at "mem") (fun _ _ => by walk_at "mem") (fun _ _ => by walk_at "mem") (fun _ _ => by walk_at "mem") (F₄.mono g6) P hh hfr hroom hu (rw₄.mono g6) (re₄.mono g6) fun h₇ G₇ t₇ xmi xbe S₇ g₇ rm₇ => ?_
  refine law12 (fun x a b c d => LW (some v) (some xb) (some xo) (some xt) (some xr) (some xl) (some xri) (some xm) (some xy) (some xw) (some xe) (some xs) (some xmi) (some xbe) (some x) a b c d none none none) (fun _ _ _ _ _ => by walk_at "mem") (fun _ _ _ _ _ => by walk_at "mem") (fun _ _ _ _ _ => by walk_at "mem") (fun _ _ _ _ _ => by walk_at "mem") (fun _ _ _ _ _ => by walk_at "mem") (fun _ _ _ _ _ => by walk_at "mem") (fun _ _ _ _ _ => by walk_at "mem") (fun _ _ _ _ _ _ => by walk_at "set") (fun _ _ _ _ _ _ => by walk_at "set") (fun _ _ _ _ _ _ => by walk_at "set") (fun _ _ _ _ _ _ => by walk_at "set") (fun _ _ _ _ _ _ => by walk_at "set") S₇ (F₄.mono (g6.trans g₇)) P hh hfr hroom hu rm₇ fun h₈ G₈ t₈ xsh iv jv wv cv S₈ g₈ rs₈ => ?_
  refine law13 (l₁ := fun a => LW (some v) (some xb) (some xo) (some xt) (some xr) (some xl) (some xri) (some xm) (some xy) (some xw) (some xe) (some xs) (some xmi) (some xbe) (some xsh) iv jv wv cv (some a) none none) (l₂ := fun a c => LW (some v) (some xb) (some xo) (some xt) (some xr) (some xl) (some xri) (some xm) (some xy) (some xw) (some xe) (some xs) (some xmi) (some xbe) (some xsh) iv jv wv cv (some a) none (some c)) (l₃ := fun a b c => LW (some v) (some xb) (some xo) (some xt) (some xr) (some xl) (some xri) (some xm) (some xy) (some xw) (some xe) (some xs) (some xmi) (some xbe) (some xsh) iv jv wv cv (some a) (some b) (some c)) S₈ (by walk_at "mem") (by walk_at "mem") (by walk_at "mem") (fun _ => by walk_at "set") (fun _ _ => by walk_at "set") (fun _ _ _ => by walk_at "set") (fun _ => by walk_at "mem") (fun _ => by walk_at "mem") (fun _ => by walk_at "mem") (fun _ _ _ => by walk_at "mem") (fun _ _ _ => by walk_at "mem") (fun _ _ _ => by walk_at "mem") (fun _ _ _ => by walk_at "mem") (fun _ _ _ => by walk_at "mem") (F₄.mono (g6.trans (g₇.trans g₈))) P hh hfr hroom hu rs₈ fun h₉ G₉ t₉ lz S₉ g₉ => ?_
  exact k _ _ S₉.fr.keep
end
theorem hasItems_ints {R : WRecords} : ∀ {xs : List WData}, WShape.hasItems R xs .int = true → ∃ ns : List Int, xs = ns.map .int
  | [], _ => ⟨[], rfl⟩
  | x :: xs, h => by
    simp only [WShape.hasItems, Bool.and_eq_true] at h
    obtain ⟨n, rfl⟩ := hasW_int h.1
    obtain ⟨ns, rfl⟩ := hasItems_ints h.2
    exact ⟨n :: ns, rfl⟩
theorem reads_ints {R : WRecords} {cl : Str → Option Addr} {h : Heap} {G : Store} : ∀ {ns : List Int} {vs : List Value} {as : List Addr}, ReadsAllW R cl h vs (ns.map .int) as → RepAll G vs (ns.map .int)
  | [], _, _, r => by obtain ⟨rfl, -⟩ := readsAllW_nil_inv r; exact .nil
  | n :: ns, _, _, r => by
    obtain ⟨v, vs, as1, as2, rfl, -, r1, r2⟩ := readsAllW_cons_inv r
    obtain ⟨t, rfl, -⟩ := readsW_int_inv r1
    exact .cons (.int n t) (reads_ints r2)
theorem pre_len {ns : List Int} (h : rwO.toRowW.pre.holds [] { args := [.list (ns.map .int)] } = true) : ns.length ≤ 63 := by
  have hv : rwO.toRowW.pre.value [] { args := [.list (ns.map .int)] } = some (.bool (!decide ((63 : Int) < ns.length))) := by
    show WTm.value [] (.and (.not (.lt (.lit (.int 63)) (.len (.arg 0)))) (.lit (.bool true))) _ = _
    have e : less? (.int 63) (.int (ns.length : Int)) = some (decide ((63 : Int) < ns.length)) := by rfl
    simp [WTm.value]
    rw [e]
    cases decide ((63 : Int) < ns.length) <;> rfl
  have := condW_of h hv
  simp at this
  lia
theorem law_walk : WalkO qV looseV (XL qV []) HK.says rwO.toRowW dLaw.1 dLaw.2.1 fun f vs => PySem.call f vs := by
  intro w s₀ s₁ mg mb G Y fa o pm cd doc dV kV ho hd hcd hD hmg hg args vals as hpre hlay hrd hwl hlo
  obtain ⟨hsh, hcond⟩ := pre_splitW hpre
  obtain ⟨d, rest, rfl, hx, hr⟩ := hasAllW_cons hsh
  obtain rfl := hasAllW_nil hr
  obtain ⟨xs, rfl, hi⟩ := hasW_list hx
  obtain ⟨ns, rfl⟩ := hasItems_ints hi
  have hlen := pre_len hcond
  obtain ⟨v, vs, as1, as2, rfl, -, r1, r2⟩ := readsAllW_cons_inv hrd
  obtain ⟨rfl, -⟩ := readsAllW_nil_inv r2
  have X : (K w.params).In s₁.heap := kIn_of Y
  have b : Bs w s₁.heap := ⟨X, ⟨mg, mb, G.T.g, G.T.b, G.T.builtins⟩, G.T.nolimit⟩
  have hm : mg (Str.ofString "law") = some (.ref 413) := mg_of X G.T.g (by kernel_rfl)
  have hn : dLaw.1.name = Str.ofString "law" := by rfl
  rw [hn, hm] at hmg
  obtain rfl : 413 = fa := by cases hmg; rfl
  cases r1 with
  | list ha hc hd ri =>
    refine law_calls (G := fun a => s₁.heap.get? a) (ns := ns) b (fun a o e => e) (.list ha hc hd (reads_ints ri)) (by lia) fun h' t' keep => ?_
    exact GoodW.toG ⟨.inl ⟨.bool true, .bool true, [], rfl, fun cls => rfl, .bool true, by wrow_post, fun _ => ⟨.nil, fun a h => nomatch h⟩⟩, keep, rfl, hg⟩
end Mine
end
open PySem PySem.W PyProof.Rows
namespace Mine
set_option maxRecDepth 100000
theorem saidQ : PySem.W.Fast.tw9446332074065402090 PySem.Challenge.rw_il0153_01 = true := by kernel_rfl
theorem said : PySem.Challenge.rw_il0153_01.wellSaid = true := (congrFun PySem.W.Fast.te9446332074065402090 _).trans saidQ
end Mine
theorem PySem.Challenge.cw_il0153_01_holds : PySem.Challenge.rw_il0153_01.Holds :=
  holds_law Mine.said fun s => Mine.head s Mine.law_walk
